/-
  FromNTT of ToNTT and ToNTT of FromNTT give what was there, for numbers below 3329 (the law 'FnNTTBack' returns true for every input); no further condition than the card's.
-/
import Derived.Test.YtcglkelhklihgaaDoorCards
import Derived.Test.YtcglkelhklihgaaDoorTie
import Derived.Test.YtcglkelhklihgaaDoorTabs
import Derived.Test.YtcglkelhklihgaaDoorAsk
import Derived.Test.YtcglkelhklihgaaDoorImt
import Derived.Test.YtcglkelhklihgaaDoorEq
import Derived.Test.YtcglkelhklihgaaDoorArms
import Derived.Test.YtcglkelhklihgaaDoorOpen
import Derived.Lib.Hide
import Derived.WalkKit
import Derived.ProofKit
import Derived.OpenShut
import Derived.Deep.DeepHandedRow
import Derived.ChangeVars
import Derived.OpenVars
namespace Go.Proofs.YtcglkelhklihgaaDoor.fnNTTBack
open Go.ChangeShapes Go.WideShapes Go.ChangeAt Go.RowKit


theorem own : ownKnob Tryd.prog.godebug = none := by kernel_rfl
theorem laidOut : laidOutB Tryd.prog = true := by kernel_rfl
theorem RedB_of (g : Nat → Int) (h : ∀ i, i < 256 → g i < 3329) : RedB g true := ⟨.inl ⟨rfl, h⟩⟩
theorem red_any (g : Nat → Int) (bb : Bool) (b : Nat) (t : TypeId) (w : World) (h : Has w b (arr .u16 256 g) t) (hb : RedB g bb) :
    Calls Tryd.prog 17 #[.slice (some ⟨b, 0, none⟩) 256 256] w fun e w' => e = .returned (.bool bb) ∧ w = w' := by
  have hc : ∀ i, i < 256 → w.cell? ⟨b, 0 + i, none⟩ = some (.int .u16 (g i)) := fun i hi => by rw [Nat.zero_add]; exact h.cell i hi
  rcases hb.out with ⟨rfl, hr⟩ | ⟨rfl, j, hj, hr⟩
  · exact reduced_yes g b 0 256 256 w (by omega) hc hr
  · exact reduced_no g b 0 256 256 w (by omega) hc j hj hr
theorem quiet_in {P : Program} {ops : Array Oper} {rest : List Oper} {o : Oper} {a : Act} {C : World → Prop} {Q : Act → Prop} (hw : Region.wanted o (yielded ops a.tmps) = true) (v : Value) (hr : ∀ w, C w → (execOp a.eval o).run P w = .ok (.value v) w)
    (h : wpQuiet P ops C Q rest (a.put o.dst v)) : wpQuiet P ops C Q (o :: rest) a := by
  unfold wpQuiet
  rw [if_pos hw]
  refine ⟨_, fun w hc => ?_, h⟩
  unfold Oper.quietAt
  rw [hr w hc]
  exact ⟨rfl, rfl⟩
set_option maxRecDepth 100000 in
set_option maxHeartbeats 1000000 in
theorem walk (f : Nat → Int) (w : World) (hf : ∀ i, i < 256 → 0 ≤ f i ∧ f i ≤ 65535) (hz : Tab w 1 zet) :
    Calls Tryd.prog 7 #[.agg (arr .u16 256 f)] w fun e w' => e = .returned (.bool true) ∧ Below w.heap.size w w' := by
  have hz1 := hz.lt
  obtain ⟨b1, hb1⟩ := redB_any f
  have HF := Lib.hid hf; clear hf
  go_enter Tryd.func7, Tryd.ntmps7
  go_wp2_with fail
  obtain ⟨W, hW, h0, hw, HS⟩ := pack1 w (arr .u16 256 f) 23
  rw [← hW]
  clear hW
  refine (red_any f b1 _ 23 _ h0 hb1).mono ?_
  rintro e w1 ⟨rfl, rfl⟩
  cases b1
  · go_wp2
    go_ret
    exact ⟨rfl, hw⟩
  have hf' : ∀ i, i < 256 → 0 ≤ f i ∧ f i < 3329 := fun i hi => ⟨(HF.out i hi).1, hb1.yes i hi⟩
  have C1 := Lib.hid fun (W : World) (z : Tab W 1 zet) => implToNTT_any f W hf' z
  have C2 := Lib.hid fun (W : World) (z : Tab W 1 zet) => implFromNTT_any f W hf' z
  have C3 := Lib.hid fun (W : World) (z : Tab W 1 zet) => by
    have h := implFromNTT_any (nttv f) W (nttv_red f hf') z
    rw [arr_congr (k := .u16) (n := 256) (inv_of_ntt f hf')] at h
    exact h
  have C4 := Lib.hid fun (W : World) (z : Tab W 1 zet) => by
    have h := implToNTT_any (invv f) W (fun i _ => invv_red f i) z
    rw [arr_congr (k := .u16) (n := 256) (ntt_of_inv f hf')] at h
    exact h
  have R1 := Lib.hid (RedB_of (nttv f) fun i hi => (nttv_red f hf' i hi).2)
  have R2 := Lib.hid (RedB_of (invv f) fun i hi => (invv_red f i).2)
  have hzW := hz.below hw hz1
  have zW : 1 < W.heap.size := Nat.lt_of_lt_of_le hz1 (by omega)
  clear hb1 HF hf' hz
  go_wp2_with fail
  refine Code.wp_mono (Q := fun e a' w' => e = .normal ∧ ∃ b3 b4, a' = (⟨#[.agg (arr .u16 256 f), .pointer (some ⟨w.heap.size, 0, none⟩), .bool false, .pointer (some ⟨b3, 0, none⟩), .pointer (some ⟨b4, 0, none⟩), .slice (some ⟨w.heap.size, 0, none⟩) 256 256, .bool true, .bool false, .agg (arr .u16 256 f), .agg (arr .u16 256 (nttv f)), .agg (arr .u16 256 f), .agg (arr .u16 256 (invv f)), undef, undef, undef, undef, undef, undef, undef, undef, undef, undef, undef, undef, undef, undef, undef, undef, undef, undef], []⟩ : Act) ∧ W.heap.size ≤ b3 ∧ W.heap.size ≤ b4 ∧ b3 ≠ b4 ∧ Has w' b3 (arr .u16 256 (nttv f)) 23 ∧ Has w' b4 (arr .u16 256 (invv f)) 23 ∧ Below W.heap.size W w') ?rest ?tree
  case tree =>
    refine wp_region_held (S := fun w' => Below W.heap.size W w') (by kernel_rfl) ?_
    have hS : (fun w' => Below W.heap.size W w') W.drew := (Below.refl W.heap.size W).drew
    change wpAnyH _ _ _ _ _ 8 (Array.replicate 8 false) _ W.drew
    have hp : W.heap.size ≤ W.drew.heap.size := Nat.le_refl _
    generalize W.drew = w4 at *
    refine held_ld 0 8 rfl rfl (by kernel_rfl) (by kernel_rfl) (by kernel_rfl) (fun _ _ _ _ h => nomatch h.1) (by kernel_rfl) 23 _ rfl (w.heap.size) rfl 23 .u16 256 f _ (fun w' hc => (h0.below hc h0.lt).out) Tryd.underlying23 size23 hS ?_
    simp only [Act.put, List.setIfInBounds_toArray, List.set_cons_succ, List.set_cons_zero]
    refine held_ld 2 10 rfl rfl (by kernel_rfl) (by kernel_rfl) (by kernel_rfl) (fun _ _ _ _ h => nomatch h.1) (by kernel_rfl) 23 _ rfl (w.heap.size) rfl 23 .u16 256 f _ (fun w' hc => (h0.below hc h0.lt).out) Tryd.underlying23 size23 hS ?_
    simp only [Act.put, List.setIfInBounds_toArray, List.set_cons_succ, List.set_cons_zero]
    generalize hWS : W.heap.size = WS at *
    refine wpAnyH_all (rs := [1, 4, 5]) (by kernel_rfl) (by simp) (all3 ?_ ?_ ?_)
    · refine arm_call 1 9 rfl rfl (by kernel_rfl) 13 #[.agg (arr .u16 256 f)] (fun _ => by go_simp) ((C1.out _ (hzW.below hS zW)).mono ?_)
      rintro e w5 ⟨rfl, hb⟩
      have hS5 := hS.trans (hb.mono hp)
      have p5 : WS ≤ w5.heap.size := Nat.le_trans hp hb.size
      clear hb
      refine ⟨_, rfl, hS5, ?_⟩
      simp only [Act.put, List.setIfInBounds_toArray, List.set_cons_succ, List.set_cons_zero]
      refine wpAnyH_all (rs := [3, 4, 5]) (by kernel_rfl) (by simp) (all3 ?_ ?_ ?_)
      · refine arm_call 3 11 rfl rfl (by kernel_rfl) 15 #[.agg (arr .u16 256 f)] (fun _ => by go_simp) ((C2.out _ (hzW.below hS5 zW)).mono ?_)
        rintro e w6 ⟨rfl, hb⟩
        have hS6 := hS5.trans (hb.mono p5)
        have p6 : WS ≤ w6.heap.size := Nat.le_trans p5 hb.size
        clear hb
        refine ⟨_, rfl, hS6, ?_⟩
        simp only [Act.put, List.setIfInBounds_toArray, List.set_cons_succ, List.set_cons_zero]
        refine wpAnyH_all (rs := [4, 5]) (by kernel_rfl) (by simp) (all2 ?_ ?_)
        · refine arm_alloc 4 3 rfl rfl (by kernel_rfl) 23 rfl _ zero23 ?_
          have hS7 := hS6.alloc p6 (.cells (arr .u16 256 fun _ => 0) 23)
          have g7 : WS + 1 ≤ (w6.alloc (.cells (arr .u16 256 fun _ => 0) 23)).heap.size := by rw [World.size_alloc]; omega
          have l7 : w6.heap.size + 1 ≤ (w6.alloc (.cells (arr .u16 256 fun _ => 0) 23)).heap.size := by rw [World.size_alloc]; omega
          have h3 := Has.new w6 (arr .u16 256 fun _ => 0) 23
          refine ⟨hS7, ?_⟩
          simp only [Act.put, List.setIfInBounds_toArray, List.set_cons_succ, List.set_cons_zero]
          have q7 : WS ≤ w6.heap.size := p6
          generalize w6.alloc (.cells (arr .u16 256 fun _ => 0) 23) = w7 at *
          generalize w6.heap.size = b3 at *
          have p7 : WS ≤ w7.heap.size := by omega
          refine wpAnyH_all (rs := [5]) (by kernel_rfl) (by simp) (all1 ?_)
          · refine arm_alloc 5 4 rfl rfl (by kernel_rfl) 23 rfl _ zero23 ?_
            have hS8 := hS7.alloc p7 (.cells (arr .u16 256 fun _ => 0) 23)
            have g8 : WS + 1 ≤ (w7.alloc (.cells (arr .u16 256 fun _ => 0) 23)).heap.size := by rw [World.size_alloc]; omega
            have l8 : w7.heap.size + 1 ≤ (w7.alloc (.cells (arr .u16 256 fun _ => 0) 23)).heap.size := by rw [World.size_alloc]; omega
            have l8a : b3 + 1 ≤ w7.heap.size := by have := h3.lt; omega
            replace h3 := h3.alloc (.cells (arr .u16 256 fun _ => 0) 23)
            have h4 := Has.new w7 (arr .u16 256 fun _ => 0) 23
            refine ⟨hS8, ?_⟩
            simp only [Act.put, List.setIfInBounds_toArray, List.set_cons_succ, List.set_cons_zero]
            have q8 : WS ≤ w7.heap.size := p7
            generalize w7.alloc (.cells (arr .u16 256 fun _ => 0) 23) = w8 at *
            generalize w7.heap.size = b4 at *
            have p8 : WS ≤ w8.heap.size := by omega
            refine wpAnyH_all (rs := [6]) (by kernel_rfl) (by simp) (all1 ?_)
            refine arm_store 6 rfl rfl (by kernel_rfl) 23 _ _ rfl b3 rfl .u16 256 (nttv f) rfl 23 .u16 _ h3.out size23 ⟨Below.setRow hS8 _ (by omega) _, ?_⟩
            refine wpAnyH_all (rs := [7]) (by kernel_rfl) (by simp) (all1 ?_)
            refine arm_store 7 rfl rfl (by kernel_rfl) 23 _ _ rfl b4 rfl .u16 256 (invv f) rfl 23 .u16 _ (h4.row_other _ _ (by omega)).out size23 ⟨Below.setRow (Below.setRow hS8 _ (by omega) _) _ (by omega) _, ?_⟩
            refine wpAnyH_done (by kernel_rfl) ?_ _
            exact ⟨rfl, b3, b4, rfl, by omega, by omega, by omega, (h3.row _).row_other _ _ (by omega), (h4.row_other _ _ (by omega)).row _, Below.setRow (Below.setRow hS8 _ (by omega) _) _ (by omega) _⟩
        · refine arm_alloc 5 4 rfl rfl (by kernel_rfl) 23 rfl _ zero23 ?_
          have hS7 := hS6.alloc p6 (.cells (arr .u16 256 fun _ => 0) 23)
          have g7 : WS + 1 ≤ (w6.alloc (.cells (arr .u16 256 fun _ => 0) 23)).heap.size := by rw [World.size_alloc]; omega
          have l7 : w6.heap.size + 1 ≤ (w6.alloc (.cells (arr .u16 256 fun _ => 0) 23)).heap.size := by rw [World.size_alloc]; omega
          have h4 := Has.new w6 (arr .u16 256 fun _ => 0) 23
          refine ⟨hS7, ?_⟩
          simp only [Act.put, List.setIfInBounds_toArray, List.set_cons_succ, List.set_cons_zero]
          have q7 : WS ≤ w6.heap.size := p6
          generalize w6.alloc (.cells (arr .u16 256 fun _ => 0) 23) = w7 at *
          generalize w6.heap.size = b4 at *
          have p7 : WS ≤ w7.heap.size := by omega
          refine wpAnyH_all (rs := [4]) (by kernel_rfl) (by simp) (all1 ?_)
          · refine arm_alloc 4 3 rfl rfl (by kernel_rfl) 23 rfl _ zero23 ?_
            have hS8 := hS7.alloc p7 (.cells (arr .u16 256 fun _ => 0) 23)
            have g8 : WS + 1 ≤ (w7.alloc (.cells (arr .u16 256 fun _ => 0) 23)).heap.size := by rw [World.size_alloc]; omega
            have l8 : w7.heap.size + 1 ≤ (w7.alloc (.cells (arr .u16 256 fun _ => 0) 23)).heap.size := by rw [World.size_alloc]; omega
            have l8a : b4 + 1 ≤ w7.heap.size := by have := h4.lt; omega
            replace h4 := h4.alloc (.cells (arr .u16 256 fun _ => 0) 23)
            have h3 := Has.new w7 (arr .u16 256 fun _ => 0) 23
            refine ⟨hS8, ?_⟩
            simp only [Act.put, List.setIfInBounds_toArray, List.set_cons_succ, List.set_cons_zero]
            have q8 : WS ≤ w7.heap.size := p7
            generalize w7.alloc (.cells (arr .u16 256 fun _ => 0) 23) = w8 at *
            generalize w7.heap.size = b3 at *
            have p8 : WS ≤ w8.heap.size := by omega
            refine wpAnyH_all (rs := [6]) (by kernel_rfl) (by simp) (all1 ?_)
            refine arm_store 6 rfl rfl (by kernel_rfl) 23 _ _ rfl b3 rfl .u16 256 (nttv f) rfl 23 .u16 _ h3.out size23 ⟨Below.setRow hS8 _ (by omega) _, ?_⟩
            refine wpAnyH_all (rs := [7]) (by kernel_rfl) (by simp) (all1 ?_)
            refine arm_store 7 rfl rfl (by kernel_rfl) 23 _ _ rfl b4 rfl .u16 256 (invv f) rfl 23 .u16 _ (h4.row_other _ _ (by omega)).out size23 ⟨Below.setRow (Below.setRow hS8 _ (by omega) _) _ (by omega) _, ?_⟩
            refine wpAnyH_done (by kernel_rfl) ?_ _
            exact ⟨rfl, b3, b4, rfl, by omega, by omega, by omega, (h3.row _).row_other _ _ (by omega), (h4.row_other _ _ (by omega)).row _, Below.setRow (Below.setRow hS8 _ (by omega) _) _ (by omega) _⟩
      · refine arm_alloc 4 3 rfl rfl (by kernel_rfl) 23 rfl _ zero23 ?_
        have hS6 := hS5.alloc p5 (.cells (arr .u16 256 fun _ => 0) 23)
        have g6 : WS + 1 ≤ (w5.alloc (.cells (arr .u16 256 fun _ => 0) 23)).heap.size := by rw [World.size_alloc]; omega
        have l6 : w5.heap.size + 1 ≤ (w5.alloc (.cells (arr .u16 256 fun _ => 0) 23)).heap.size := by rw [World.size_alloc]; omega
        have h3 := Has.new w5 (arr .u16 256 fun _ => 0) 23
        refine ⟨hS6, ?_⟩
        simp only [Act.put, List.setIfInBounds_toArray, List.set_cons_succ, List.set_cons_zero]
        have q6 : WS ≤ w5.heap.size := p5
        generalize w5.alloc (.cells (arr .u16 256 fun _ => 0) 23) = w6 at *
        generalize w5.heap.size = b3 at *
        have p6 : WS ≤ w6.heap.size := by omega
        refine wpAnyH_all (rs := [3, 5]) (by kernel_rfl) (by simp) (all2 ?_ ?_)
        · refine arm_call 3 11 rfl rfl (by kernel_rfl) 15 #[.agg (arr .u16 256 f)] (fun _ => by go_simp) ((C2.out _ (hzW.below hS6 zW)).mono ?_)
          rintro e w7 ⟨rfl, hb⟩
          have hS7 := hS6.trans (hb.mono p6)
          have p7 : WS ≤ w7.heap.size := Nat.le_trans p6 hb.size
          replace h3 := h3.below hb h3.lt
          clear hb
          refine ⟨_, rfl, hS7, ?_⟩
          simp only [Act.put, List.setIfInBounds_toArray, List.set_cons_succ, List.set_cons_zero]
          refine wpAnyH_all (rs := [5]) (by kernel_rfl) (by simp) (all1 ?_)
          · refine arm_alloc 5 4 rfl rfl (by kernel_rfl) 23 rfl _ zero23 ?_
            have hS8 := hS7.alloc p7 (.cells (arr .u16 256 fun _ => 0) 23)
            have g8 : WS + 1 ≤ (w7.alloc (.cells (arr .u16 256 fun _ => 0) 23)).heap.size := by rw [World.size_alloc]; omega
            have l8 : w7.heap.size + 1 ≤ (w7.alloc (.cells (arr .u16 256 fun _ => 0) 23)).heap.size := by rw [World.size_alloc]; omega
            have l8a : b3 + 1 ≤ w7.heap.size := by have := h3.lt; omega
            replace h3 := h3.alloc (.cells (arr .u16 256 fun _ => 0) 23)
            have h4 := Has.new w7 (arr .u16 256 fun _ => 0) 23
            refine ⟨hS8, ?_⟩
            simp only [Act.put, List.setIfInBounds_toArray, List.set_cons_succ, List.set_cons_zero]
            have q8 : WS ≤ w7.heap.size := p7
            generalize w7.alloc (.cells (arr .u16 256 fun _ => 0) 23) = w8 at *
            generalize w7.heap.size = b4 at *
            have p8 : WS ≤ w8.heap.size := by omega
            refine wpAnyH_all (rs := [6]) (by kernel_rfl) (by simp) (all1 ?_)
            refine arm_store 6 rfl rfl (by kernel_rfl) 23 _ _ rfl b3 rfl .u16 256 (nttv f) rfl 23 .u16 _ h3.out size23 ⟨Below.setRow hS8 _ (by omega) _, ?_⟩
            refine wpAnyH_all (rs := [7]) (by kernel_rfl) (by simp) (all1 ?_)
            refine arm_store 7 rfl rfl (by kernel_rfl) 23 _ _ rfl b4 rfl .u16 256 (invv f) rfl 23 .u16 _ (h4.row_other _ _ (by omega)).out size23 ⟨Below.setRow (Below.setRow hS8 _ (by omega) _) _ (by omega) _, ?_⟩
            refine wpAnyH_done (by kernel_rfl) ?_ _
            exact ⟨rfl, b3, b4, rfl, by omega, by omega, by omega, (h3.row _).row_other _ _ (by omega), (h4.row_other _ _ (by omega)).row _, Below.setRow (Below.setRow hS8 _ (by omega) _) _ (by omega) _⟩
        · refine arm_alloc 5 4 rfl rfl (by kernel_rfl) 23 rfl _ zero23 ?_
          have hS7 := hS6.alloc p6 (.cells (arr .u16 256 fun _ => 0) 23)
          have g7 : WS + 1 ≤ (w6.alloc (.cells (arr .u16 256 fun _ => 0) 23)).heap.size := by rw [World.size_alloc]; omega
          have l7 : w6.heap.size + 1 ≤ (w6.alloc (.cells (arr .u16 256 fun _ => 0) 23)).heap.size := by rw [World.size_alloc]; omega
          have l7a : b3 + 1 ≤ w6.heap.size := by have := h3.lt; omega
          replace h3 := h3.alloc (.cells (arr .u16 256 fun _ => 0) 23)
          have h4 := Has.new w6 (arr .u16 256 fun _ => 0) 23
          refine ⟨hS7, ?_⟩
          simp only [Act.put, List.setIfInBounds_toArray, List.set_cons_succ, List.set_cons_zero]
          have q7 : WS ≤ w6.heap.size := p6
          generalize w6.alloc (.cells (arr .u16 256 fun _ => 0) 23) = w7 at *
          generalize w6.heap.size = b4 at *
          have p7 : WS ≤ w7.heap.size := by omega
          refine wpAnyH_all (rs := [3]) (by kernel_rfl) (by simp) (all1 ?_)
          · refine arm_call 3 11 rfl rfl (by kernel_rfl) 15 #[.agg (arr .u16 256 f)] (fun _ => by go_simp) ((C2.out _ (hzW.below hS7 zW)).mono ?_)
            rintro e w8 ⟨rfl, hb⟩
            have hS8 := hS7.trans (hb.mono p7)
            have p8 : WS ≤ w8.heap.size := Nat.le_trans p7 hb.size
            replace h3 := h3.below hb h3.lt
            replace h4 := h4.below hb h4.lt
            clear hb
            refine ⟨_, rfl, hS8, ?_⟩
            simp only [Act.put, List.setIfInBounds_toArray, List.set_cons_succ, List.set_cons_zero]
            refine wpAnyH_all (rs := [6]) (by kernel_rfl) (by simp) (all1 ?_)
            refine arm_store 6 rfl rfl (by kernel_rfl) 23 _ _ rfl b3 rfl .u16 256 (nttv f) rfl 23 .u16 _ h3.out size23 ⟨Below.setRow hS8 _ (by omega) _, ?_⟩
            refine wpAnyH_all (rs := [7]) (by kernel_rfl) (by simp) (all1 ?_)
            refine arm_store 7 rfl rfl (by kernel_rfl) 23 _ _ rfl b4 rfl .u16 256 (invv f) rfl 23 .u16 _ (h4.row_other _ _ (by omega)).out size23 ⟨Below.setRow (Below.setRow hS8 _ (by omega) _) _ (by omega) _, ?_⟩
            refine wpAnyH_done (by kernel_rfl) ?_ _
            exact ⟨rfl, b3, b4, rfl, by omega, by omega, by omega, (h3.row _).row_other _ _ (by omega), (h4.row_other _ _ (by omega)).row _, Below.setRow (Below.setRow hS8 _ (by omega) _) _ (by omega) _⟩
      · refine arm_alloc 5 4 rfl rfl (by kernel_rfl) 23 rfl _ zero23 ?_
        have hS6 := hS5.alloc p5 (.cells (arr .u16 256 fun _ => 0) 23)
        have g6 : WS + 1 ≤ (w5.alloc (.cells (arr .u16 256 fun _ => 0) 23)).heap.size := by rw [World.size_alloc]; omega
        have l6 : w5.heap.size + 1 ≤ (w5.alloc (.cells (arr .u16 256 fun _ => 0) 23)).heap.size := by rw [World.size_alloc]; omega
        have h4 := Has.new w5 (arr .u16 256 fun _ => 0) 23
        refine ⟨hS6, ?_⟩
        simp only [Act.put, List.setIfInBounds_toArray, List.set_cons_succ, List.set_cons_zero]
        have q6 : WS ≤ w5.heap.size := p5
        generalize w5.alloc (.cells (arr .u16 256 fun _ => 0) 23) = w6 at *
        generalize w5.heap.size = b4 at *
        have p6 : WS ≤ w6.heap.size := by omega
        refine wpAnyH_all (rs := [3, 4]) (by kernel_rfl) (by simp) (all2 ?_ ?_)
        · refine arm_call 3 11 rfl rfl (by kernel_rfl) 15 #[.agg (arr .u16 256 f)] (fun _ => by go_simp) ((C2.out _ (hzW.below hS6 zW)).mono ?_)
          rintro e w7 ⟨rfl, hb⟩
          have hS7 := hS6.trans (hb.mono p6)
          have p7 : WS ≤ w7.heap.size := Nat.le_trans p6 hb.size
          replace h4 := h4.below hb h4.lt
          clear hb
          refine ⟨_, rfl, hS7, ?_⟩
          simp only [Act.put, List.setIfInBounds_toArray, List.set_cons_succ, List.set_cons_zero]
          refine wpAnyH_all (rs := [4]) (by kernel_rfl) (by simp) (all1 ?_)
          · refine arm_alloc 4 3 rfl rfl (by kernel_rfl) 23 rfl _ zero23 ?_
            have hS8 := hS7.alloc p7 (.cells (arr .u16 256 fun _ => 0) 23)
            have g8 : WS + 1 ≤ (w7.alloc (.cells (arr .u16 256 fun _ => 0) 23)).heap.size := by rw [World.size_alloc]; omega
            have l8 : w7.heap.size + 1 ≤ (w7.alloc (.cells (arr .u16 256 fun _ => 0) 23)).heap.size := by rw [World.size_alloc]; omega
            have l8a : b4 + 1 ≤ w7.heap.size := by have := h4.lt; omega
            replace h4 := h4.alloc (.cells (arr .u16 256 fun _ => 0) 23)
            have h3 := Has.new w7 (arr .u16 256 fun _ => 0) 23
            refine ⟨hS8, ?_⟩
            simp only [Act.put, List.setIfInBounds_toArray, List.set_cons_succ, List.set_cons_zero]
            have q8 : WS ≤ w7.heap.size := p7
            generalize w7.alloc (.cells (arr .u16 256 fun _ => 0) 23) = w8 at *
            generalize w7.heap.size = b3 at *
            have p8 : WS ≤ w8.heap.size := by omega
            refine wpAnyH_all (rs := [6]) (by kernel_rfl) (by simp) (all1 ?_)
            refine arm_store 6 rfl rfl (by kernel_rfl) 23 _ _ rfl b3 rfl .u16 256 (nttv f) rfl 23 .u16 _ h3.out size23 ⟨Below.setRow hS8 _ (by omega) _, ?_⟩
            refine wpAnyH_all (rs := [7]) (by kernel_rfl) (by simp) (all1 ?_)
            refine arm_store 7 rfl rfl (by kernel_rfl) 23 _ _ rfl b4 rfl .u16 256 (invv f) rfl 23 .u16 _ (h4.row_other _ _ (by omega)).out size23 ⟨Below.setRow (Below.setRow hS8 _ (by omega) _) _ (by omega) _, ?_⟩
            refine wpAnyH_done (by kernel_rfl) ?_ _
            exact ⟨rfl, b3, b4, rfl, by omega, by omega, by omega, (h3.row _).row_other _ _ (by omega), (h4.row_other _ _ (by omega)).row _, Below.setRow (Below.setRow hS8 _ (by omega) _) _ (by omega) _⟩
        · refine arm_alloc 4 3 rfl rfl (by kernel_rfl) 23 rfl _ zero23 ?_
          have hS7 := hS6.alloc p6 (.cells (arr .u16 256 fun _ => 0) 23)
          have g7 : WS + 1 ≤ (w6.alloc (.cells (arr .u16 256 fun _ => 0) 23)).heap.size := by rw [World.size_alloc]; omega
          have l7 : w6.heap.size + 1 ≤ (w6.alloc (.cells (arr .u16 256 fun _ => 0) 23)).heap.size := by rw [World.size_alloc]; omega
          have l7a : b4 + 1 ≤ w6.heap.size := by have := h4.lt; omega
          replace h4 := h4.alloc (.cells (arr .u16 256 fun _ => 0) 23)
          have h3 := Has.new w6 (arr .u16 256 fun _ => 0) 23
          refine ⟨hS7, ?_⟩
          simp only [Act.put, List.setIfInBounds_toArray, List.set_cons_succ, List.set_cons_zero]
          have q7 : WS ≤ w6.heap.size := p6
          generalize w6.alloc (.cells (arr .u16 256 fun _ => 0) 23) = w7 at *
          generalize w6.heap.size = b3 at *
          have p7 : WS ≤ w7.heap.size := by omega
          refine wpAnyH_all (rs := [3]) (by kernel_rfl) (by simp) (all1 ?_)
          · refine arm_call 3 11 rfl rfl (by kernel_rfl) 15 #[.agg (arr .u16 256 f)] (fun _ => by go_simp) ((C2.out _ (hzW.below hS7 zW)).mono ?_)
            rintro e w8 ⟨rfl, hb⟩
            have hS8 := hS7.trans (hb.mono p7)
            have p8 : WS ≤ w8.heap.size := Nat.le_trans p7 hb.size
            replace h4 := h4.below hb h4.lt
            replace h3 := h3.below hb h3.lt
            clear hb
            refine ⟨_, rfl, hS8, ?_⟩
            simp only [Act.put, List.setIfInBounds_toArray, List.set_cons_succ, List.set_cons_zero]
            refine wpAnyH_all (rs := [6]) (by kernel_rfl) (by simp) (all1 ?_)
            refine arm_store 6 rfl rfl (by kernel_rfl) 23 _ _ rfl b3 rfl .u16 256 (nttv f) rfl 23 .u16 _ h3.out size23 ⟨Below.setRow hS8 _ (by omega) _, ?_⟩
            refine wpAnyH_all (rs := [7]) (by kernel_rfl) (by simp) (all1 ?_)
            refine arm_store 7 rfl rfl (by kernel_rfl) 23 _ _ rfl b4 rfl .u16 256 (invv f) rfl 23 .u16 _ (h4.row_other _ _ (by omega)).out size23 ⟨Below.setRow (Below.setRow hS8 _ (by omega) _) _ (by omega) _, ?_⟩
            refine wpAnyH_done (by kernel_rfl) ?_ _
            exact ⟨rfl, b3, b4, rfl, by omega, by omega, by omega, (h3.row _).row_other _ _ (by omega), (h4.row_other _ _ (by omega)).row _, Below.setRow (Below.setRow hS8 _ (by omega) _) _ (by omega) _⟩
    · refine arm_alloc 4 3 rfl rfl (by kernel_rfl) 23 rfl _ zero23 ?_
      have hS5 := hS.alloc hp (.cells (arr .u16 256 fun _ => 0) 23)
      have g5 : WS + 1 ≤ (w4.alloc (.cells (arr .u16 256 fun _ => 0) 23)).heap.size := by rw [World.size_alloc]; omega
      have l5 : w4.heap.size + 1 ≤ (w4.alloc (.cells (arr .u16 256 fun _ => 0) 23)).heap.size := by rw [World.size_alloc]; omega
      have h3 := Has.new w4 (arr .u16 256 fun _ => 0) 23
      refine ⟨hS5, ?_⟩
      simp only [Act.put, List.setIfInBounds_toArray, List.set_cons_succ, List.set_cons_zero]
      have q5 : WS ≤ w4.heap.size := hp
      generalize w4.alloc (.cells (arr .u16 256 fun _ => 0) 23) = w5 at *
      generalize w4.heap.size = b3 at *
      have p5 : WS ≤ w5.heap.size := by omega
      refine wpAnyH_all (rs := [1, 5]) (by kernel_rfl) (by simp) (all2 ?_ ?_)
      · refine arm_call 1 9 rfl rfl (by kernel_rfl) 13 #[.agg (arr .u16 256 f)] (fun _ => by go_simp) ((C1.out _ (hzW.below hS5 zW)).mono ?_)
        rintro e w6 ⟨rfl, hb⟩
        have hS6 := hS5.trans (hb.mono p5)
        have p6 : WS ≤ w6.heap.size := Nat.le_trans p5 hb.size
        replace h3 := h3.below hb h3.lt
        clear hb
        refine ⟨_, rfl, hS6, ?_⟩
        simp only [Act.put, List.setIfInBounds_toArray, List.set_cons_succ, List.set_cons_zero]
        refine wpAnyH_all (rs := [3, 5]) (by kernel_rfl) (by simp) (all2 ?_ ?_)
        · refine arm_call 3 11 rfl rfl (by kernel_rfl) 15 #[.agg (arr .u16 256 f)] (fun _ => by go_simp) ((C2.out _ (hzW.below hS6 zW)).mono ?_)
          rintro e w7 ⟨rfl, hb⟩
          have hS7 := hS6.trans (hb.mono p6)
          have p7 : WS ≤ w7.heap.size := Nat.le_trans p6 hb.size
          replace h3 := h3.below hb h3.lt
          clear hb
          refine ⟨_, rfl, hS7, ?_⟩
          simp only [Act.put, List.setIfInBounds_toArray, List.set_cons_succ, List.set_cons_zero]
          refine wpAnyH_all (rs := [5]) (by kernel_rfl) (by simp) (all1 ?_)
          · refine arm_alloc 5 4 rfl rfl (by kernel_rfl) 23 rfl _ zero23 ?_
            have hS8 := hS7.alloc p7 (.cells (arr .u16 256 fun _ => 0) 23)
            have g8 : WS + 1 ≤ (w7.alloc (.cells (arr .u16 256 fun _ => 0) 23)).heap.size := by rw [World.size_alloc]; omega
            have l8 : w7.heap.size + 1 ≤ (w7.alloc (.cells (arr .u16 256 fun _ => 0) 23)).heap.size := by rw [World.size_alloc]; omega
            have l8a : b3 + 1 ≤ w7.heap.size := by have := h3.lt; omega
            replace h3 := h3.alloc (.cells (arr .u16 256 fun _ => 0) 23)
            have h4 := Has.new w7 (arr .u16 256 fun _ => 0) 23
            refine ⟨hS8, ?_⟩
            simp only [Act.put, List.setIfInBounds_toArray, List.set_cons_succ, List.set_cons_zero]
            have q8 : WS ≤ w7.heap.size := p7
            generalize w7.alloc (.cells (arr .u16 256 fun _ => 0) 23) = w8 at *
            generalize w7.heap.size = b4 at *
            have p8 : WS ≤ w8.heap.size := by omega
            refine wpAnyH_all (rs := [6]) (by kernel_rfl) (by simp) (all1 ?_)
            refine arm_store 6 rfl rfl (by kernel_rfl) 23 _ _ rfl b3 rfl .u16 256 (nttv f) rfl 23 .u16 _ h3.out size23 ⟨Below.setRow hS8 _ (by omega) _, ?_⟩
            refine wpAnyH_all (rs := [7]) (by kernel_rfl) (by simp) (all1 ?_)
            refine arm_store 7 rfl rfl (by kernel_rfl) 23 _ _ rfl b4 rfl .u16 256 (invv f) rfl 23 .u16 _ (h4.row_other _ _ (by omega)).out size23 ⟨Below.setRow (Below.setRow hS8 _ (by omega) _) _ (by omega) _, ?_⟩
            refine wpAnyH_done (by kernel_rfl) ?_ _
            exact ⟨rfl, b3, b4, rfl, by omega, by omega, by omega, (h3.row _).row_other _ _ (by omega), (h4.row_other _ _ (by omega)).row _, Below.setRow (Below.setRow hS8 _ (by omega) _) _ (by omega) _⟩
        · refine arm_alloc 5 4 rfl rfl (by kernel_rfl) 23 rfl _ zero23 ?_
          have hS7 := hS6.alloc p6 (.cells (arr .u16 256 fun _ => 0) 23)
          have g7 : WS + 1 ≤ (w6.alloc (.cells (arr .u16 256 fun _ => 0) 23)).heap.size := by rw [World.size_alloc]; omega
          have l7 : w6.heap.size + 1 ≤ (w6.alloc (.cells (arr .u16 256 fun _ => 0) 23)).heap.size := by rw [World.size_alloc]; omega
          have l7a : b3 + 1 ≤ w6.heap.size := by have := h3.lt; omega
          replace h3 := h3.alloc (.cells (arr .u16 256 fun _ => 0) 23)
          have h4 := Has.new w6 (arr .u16 256 fun _ => 0) 23
          refine ⟨hS7, ?_⟩
          simp only [Act.put, List.setIfInBounds_toArray, List.set_cons_succ, List.set_cons_zero]
          have q7 : WS ≤ w6.heap.size := p6
          generalize w6.alloc (.cells (arr .u16 256 fun _ => 0) 23) = w7 at *
          generalize w6.heap.size = b4 at *
          have p7 : WS ≤ w7.heap.size := by omega
          refine wpAnyH_all (rs := [3]) (by kernel_rfl) (by simp) (all1 ?_)
          · refine arm_call 3 11 rfl rfl (by kernel_rfl) 15 #[.agg (arr .u16 256 f)] (fun _ => by go_simp) ((C2.out _ (hzW.below hS7 zW)).mono ?_)
            rintro e w8 ⟨rfl, hb⟩
            have hS8 := hS7.trans (hb.mono p7)
            have p8 : WS ≤ w8.heap.size := Nat.le_trans p7 hb.size
            replace h3 := h3.below hb h3.lt
            replace h4 := h4.below hb h4.lt
            clear hb
            refine ⟨_, rfl, hS8, ?_⟩
            simp only [Act.put, List.setIfInBounds_toArray, List.set_cons_succ, List.set_cons_zero]
            refine wpAnyH_all (rs := [6]) (by kernel_rfl) (by simp) (all1 ?_)
            refine arm_store 6 rfl rfl (by kernel_rfl) 23 _ _ rfl b3 rfl .u16 256 (nttv f) rfl 23 .u16 _ h3.out size23 ⟨Below.setRow hS8 _ (by omega) _, ?_⟩
            refine wpAnyH_all (rs := [7]) (by kernel_rfl) (by simp) (all1 ?_)
            refine arm_store 7 rfl rfl (by kernel_rfl) 23 _ _ rfl b4 rfl .u16 256 (invv f) rfl 23 .u16 _ (h4.row_other _ _ (by omega)).out size23 ⟨Below.setRow (Below.setRow hS8 _ (by omega) _) _ (by omega) _, ?_⟩
            refine wpAnyH_done (by kernel_rfl) ?_ _
            exact ⟨rfl, b3, b4, rfl, by omega, by omega, by omega, (h3.row _).row_other _ _ (by omega), (h4.row_other _ _ (by omega)).row _, Below.setRow (Below.setRow hS8 _ (by omega) _) _ (by omega) _⟩
      · refine arm_alloc 5 4 rfl rfl (by kernel_rfl) 23 rfl _ zero23 ?_
        have hS6 := hS5.alloc p5 (.cells (arr .u16 256 fun _ => 0) 23)
        have g6 : WS + 1 ≤ (w5.alloc (.cells (arr .u16 256 fun _ => 0) 23)).heap.size := by rw [World.size_alloc]; omega
        have l6 : w5.heap.size + 1 ≤ (w5.alloc (.cells (arr .u16 256 fun _ => 0) 23)).heap.size := by rw [World.size_alloc]; omega
        have l6a : b3 + 1 ≤ w5.heap.size := by have := h3.lt; omega
        replace h3 := h3.alloc (.cells (arr .u16 256 fun _ => 0) 23)
        have h4 := Has.new w5 (arr .u16 256 fun _ => 0) 23
        refine ⟨hS6, ?_⟩
        simp only [Act.put, List.setIfInBounds_toArray, List.set_cons_succ, List.set_cons_zero]
        have q6 : WS ≤ w5.heap.size := p5
        generalize w5.alloc (.cells (arr .u16 256 fun _ => 0) 23) = w6 at *
        generalize w5.heap.size = b4 at *
        have p6 : WS ≤ w6.heap.size := by omega
        refine wpAnyH_all (rs := [1]) (by kernel_rfl) (by simp) (all1 ?_)
        · refine arm_call 1 9 rfl rfl (by kernel_rfl) 13 #[.agg (arr .u16 256 f)] (fun _ => by go_simp) ((C1.out _ (hzW.below hS6 zW)).mono ?_)
          rintro e w7 ⟨rfl, hb⟩
          have hS7 := hS6.trans (hb.mono p6)
          have p7 : WS ≤ w7.heap.size := Nat.le_trans p6 hb.size
          replace h3 := h3.below hb h3.lt
          replace h4 := h4.below hb h4.lt
          clear hb
          refine ⟨_, rfl, hS7, ?_⟩
          simp only [Act.put, List.setIfInBounds_toArray, List.set_cons_succ, List.set_cons_zero]
          refine wpAnyH_all (rs := [3]) (by kernel_rfl) (by simp) (all1 ?_)
          · refine arm_call 3 11 rfl rfl (by kernel_rfl) 15 #[.agg (arr .u16 256 f)] (fun _ => by go_simp) ((C2.out _ (hzW.below hS7 zW)).mono ?_)
            rintro e w8 ⟨rfl, hb⟩
            have hS8 := hS7.trans (hb.mono p7)
            have p8 : WS ≤ w8.heap.size := Nat.le_trans p7 hb.size
            replace h3 := h3.below hb h3.lt
            replace h4 := h4.below hb h4.lt
            clear hb
            refine ⟨_, rfl, hS8, ?_⟩
            simp only [Act.put, List.setIfInBounds_toArray, List.set_cons_succ, List.set_cons_zero]
            refine wpAnyH_all (rs := [6]) (by kernel_rfl) (by simp) (all1 ?_)
            refine arm_store 6 rfl rfl (by kernel_rfl) 23 _ _ rfl b3 rfl .u16 256 (nttv f) rfl 23 .u16 _ h3.out size23 ⟨Below.setRow hS8 _ (by omega) _, ?_⟩
            refine wpAnyH_all (rs := [7]) (by kernel_rfl) (by simp) (all1 ?_)
            refine arm_store 7 rfl rfl (by kernel_rfl) 23 _ _ rfl b4 rfl .u16 256 (invv f) rfl 23 .u16 _ (h4.row_other _ _ (by omega)).out size23 ⟨Below.setRow (Below.setRow hS8 _ (by omega) _) _ (by omega) _, ?_⟩
            refine wpAnyH_done (by kernel_rfl) ?_ _
            exact ⟨rfl, b3, b4, rfl, by omega, by omega, by omega, (h3.row _).row_other _ _ (by omega), (h4.row_other _ _ (by omega)).row _, Below.setRow (Below.setRow hS8 _ (by omega) _) _ (by omega) _⟩
    · refine arm_alloc 5 4 rfl rfl (by kernel_rfl) 23 rfl _ zero23 ?_
      have hS5 := hS.alloc hp (.cells (arr .u16 256 fun _ => 0) 23)
      have g5 : WS + 1 ≤ (w4.alloc (.cells (arr .u16 256 fun _ => 0) 23)).heap.size := by rw [World.size_alloc]; omega
      have l5 : w4.heap.size + 1 ≤ (w4.alloc (.cells (arr .u16 256 fun _ => 0) 23)).heap.size := by rw [World.size_alloc]; omega
      have h4 := Has.new w4 (arr .u16 256 fun _ => 0) 23
      refine ⟨hS5, ?_⟩
      simp only [Act.put, List.setIfInBounds_toArray, List.set_cons_succ, List.set_cons_zero]
      have q5 : WS ≤ w4.heap.size := hp
      generalize w4.alloc (.cells (arr .u16 256 fun _ => 0) 23) = w5 at *
      generalize w4.heap.size = b4 at *
      have p5 : WS ≤ w5.heap.size := by omega
      refine wpAnyH_all (rs := [1, 4]) (by kernel_rfl) (by simp) (all2 ?_ ?_)
      · refine arm_call 1 9 rfl rfl (by kernel_rfl) 13 #[.agg (arr .u16 256 f)] (fun _ => by go_simp) ((C1.out _ (hzW.below hS5 zW)).mono ?_)
        rintro e w6 ⟨rfl, hb⟩
        have hS6 := hS5.trans (hb.mono p5)
        have p6 : WS ≤ w6.heap.size := Nat.le_trans p5 hb.size
        replace h4 := h4.below hb h4.lt
        clear hb
        refine ⟨_, rfl, hS6, ?_⟩
        simp only [Act.put, List.setIfInBounds_toArray, List.set_cons_succ, List.set_cons_zero]
        refine wpAnyH_all (rs := [3, 4]) (by kernel_rfl) (by simp) (all2 ?_ ?_)
        · refine arm_call 3 11 rfl rfl (by kernel_rfl) 15 #[.agg (arr .u16 256 f)] (fun _ => by go_simp) ((C2.out _ (hzW.below hS6 zW)).mono ?_)
          rintro e w7 ⟨rfl, hb⟩
          have hS7 := hS6.trans (hb.mono p6)
          have p7 : WS ≤ w7.heap.size := Nat.le_trans p6 hb.size
          replace h4 := h4.below hb h4.lt
          clear hb
          refine ⟨_, rfl, hS7, ?_⟩
          simp only [Act.put, List.setIfInBounds_toArray, List.set_cons_succ, List.set_cons_zero]
          refine wpAnyH_all (rs := [4]) (by kernel_rfl) (by simp) (all1 ?_)
          · refine arm_alloc 4 3 rfl rfl (by kernel_rfl) 23 rfl _ zero23 ?_
            have hS8 := hS7.alloc p7 (.cells (arr .u16 256 fun _ => 0) 23)
            have g8 : WS + 1 ≤ (w7.alloc (.cells (arr .u16 256 fun _ => 0) 23)).heap.size := by rw [World.size_alloc]; omega
            have l8 : w7.heap.size + 1 ≤ (w7.alloc (.cells (arr .u16 256 fun _ => 0) 23)).heap.size := by rw [World.size_alloc]; omega
            have l8a : b4 + 1 ≤ w7.heap.size := by have := h4.lt; omega
            replace h4 := h4.alloc (.cells (arr .u16 256 fun _ => 0) 23)
            have h3 := Has.new w7 (arr .u16 256 fun _ => 0) 23
            refine ⟨hS8, ?_⟩
            simp only [Act.put, List.setIfInBounds_toArray, List.set_cons_succ, List.set_cons_zero]
            have q8 : WS ≤ w7.heap.size := p7
            generalize w7.alloc (.cells (arr .u16 256 fun _ => 0) 23) = w8 at *
            generalize w7.heap.size = b3 at *
            have p8 : WS ≤ w8.heap.size := by omega
            refine wpAnyH_all (rs := [6]) (by kernel_rfl) (by simp) (all1 ?_)
            refine arm_store 6 rfl rfl (by kernel_rfl) 23 _ _ rfl b3 rfl .u16 256 (nttv f) rfl 23 .u16 _ h3.out size23 ⟨Below.setRow hS8 _ (by omega) _, ?_⟩
            refine wpAnyH_all (rs := [7]) (by kernel_rfl) (by simp) (all1 ?_)
            refine arm_store 7 rfl rfl (by kernel_rfl) 23 _ _ rfl b4 rfl .u16 256 (invv f) rfl 23 .u16 _ (h4.row_other _ _ (by omega)).out size23 ⟨Below.setRow (Below.setRow hS8 _ (by omega) _) _ (by omega) _, ?_⟩
            refine wpAnyH_done (by kernel_rfl) ?_ _
            exact ⟨rfl, b3, b4, rfl, by omega, by omega, by omega, (h3.row _).row_other _ _ (by omega), (h4.row_other _ _ (by omega)).row _, Below.setRow (Below.setRow hS8 _ (by omega) _) _ (by omega) _⟩
        · refine arm_alloc 4 3 rfl rfl (by kernel_rfl) 23 rfl _ zero23 ?_
          have hS7 := hS6.alloc p6 (.cells (arr .u16 256 fun _ => 0) 23)
          have g7 : WS + 1 ≤ (w6.alloc (.cells (arr .u16 256 fun _ => 0) 23)).heap.size := by rw [World.size_alloc]; omega
          have l7 : w6.heap.size + 1 ≤ (w6.alloc (.cells (arr .u16 256 fun _ => 0) 23)).heap.size := by rw [World.size_alloc]; omega
          have l7a : b4 + 1 ≤ w6.heap.size := by have := h4.lt; omega
          replace h4 := h4.alloc (.cells (arr .u16 256 fun _ => 0) 23)
          have h3 := Has.new w6 (arr .u16 256 fun _ => 0) 23
          refine ⟨hS7, ?_⟩
          simp only [Act.put, List.setIfInBounds_toArray, List.set_cons_succ, List.set_cons_zero]
          have q7 : WS ≤ w6.heap.size := p6
          generalize w6.alloc (.cells (arr .u16 256 fun _ => 0) 23) = w7 at *
          generalize w6.heap.size = b3 at *
          have p7 : WS ≤ w7.heap.size := by omega
          refine wpAnyH_all (rs := [3]) (by kernel_rfl) (by simp) (all1 ?_)
          · refine arm_call 3 11 rfl rfl (by kernel_rfl) 15 #[.agg (arr .u16 256 f)] (fun _ => by go_simp) ((C2.out _ (hzW.below hS7 zW)).mono ?_)
            rintro e w8 ⟨rfl, hb⟩
            have hS8 := hS7.trans (hb.mono p7)
            have p8 : WS ≤ w8.heap.size := Nat.le_trans p7 hb.size
            replace h4 := h4.below hb h4.lt
            replace h3 := h3.below hb h3.lt
            clear hb
            refine ⟨_, rfl, hS8, ?_⟩
            simp only [Act.put, List.setIfInBounds_toArray, List.set_cons_succ, List.set_cons_zero]
            refine wpAnyH_all (rs := [6]) (by kernel_rfl) (by simp) (all1 ?_)
            refine arm_store 6 rfl rfl (by kernel_rfl) 23 _ _ rfl b3 rfl .u16 256 (nttv f) rfl 23 .u16 _ h3.out size23 ⟨Below.setRow hS8 _ (by omega) _, ?_⟩
            refine wpAnyH_all (rs := [7]) (by kernel_rfl) (by simp) (all1 ?_)
            refine arm_store 7 rfl rfl (by kernel_rfl) 23 _ _ rfl b4 rfl .u16 256 (invv f) rfl 23 .u16 _ (h4.row_other _ _ (by omega)).out size23 ⟨Below.setRow (Below.setRow hS8 _ (by omega) _) _ (by omega) _, ?_⟩
            refine wpAnyH_done (by kernel_rfl) ?_ _
            exact ⟨rfl, b3, b4, rfl, by omega, by omega, by omega, (h3.row _).row_other _ _ (by omega), (h4.row_other _ _ (by omega)).row _, Below.setRow (Below.setRow hS8 _ (by omega) _) _ (by omega) _⟩
      · refine arm_alloc 4 3 rfl rfl (by kernel_rfl) 23 rfl _ zero23 ?_
        have hS6 := hS5.alloc p5 (.cells (arr .u16 256 fun _ => 0) 23)
        have g6 : WS + 1 ≤ (w5.alloc (.cells (arr .u16 256 fun _ => 0) 23)).heap.size := by rw [World.size_alloc]; omega
        have l6 : w5.heap.size + 1 ≤ (w5.alloc (.cells (arr .u16 256 fun _ => 0) 23)).heap.size := by rw [World.size_alloc]; omega
        have l6a : b4 + 1 ≤ w5.heap.size := by have := h4.lt; omega
        replace h4 := h4.alloc (.cells (arr .u16 256 fun _ => 0) 23)
        have h3 := Has.new w5 (arr .u16 256 fun _ => 0) 23
        refine ⟨hS6, ?_⟩
        simp only [Act.put, List.setIfInBounds_toArray, List.set_cons_succ, List.set_cons_zero]
        have q6 : WS ≤ w5.heap.size := p5
        generalize w5.alloc (.cells (arr .u16 256 fun _ => 0) 23) = w6 at *
        generalize w5.heap.size = b3 at *
        have p6 : WS ≤ w6.heap.size := by omega
        refine wpAnyH_all (rs := [1]) (by kernel_rfl) (by simp) (all1 ?_)
        · refine arm_call 1 9 rfl rfl (by kernel_rfl) 13 #[.agg (arr .u16 256 f)] (fun _ => by go_simp) ((C1.out _ (hzW.below hS6 zW)).mono ?_)
          rintro e w7 ⟨rfl, hb⟩
          have hS7 := hS6.trans (hb.mono p6)
          have p7 : WS ≤ w7.heap.size := Nat.le_trans p6 hb.size
          replace h4 := h4.below hb h4.lt
          replace h3 := h3.below hb h3.lt
          clear hb
          refine ⟨_, rfl, hS7, ?_⟩
          simp only [Act.put, List.setIfInBounds_toArray, List.set_cons_succ, List.set_cons_zero]
          refine wpAnyH_all (rs := [3]) (by kernel_rfl) (by simp) (all1 ?_)
          · refine arm_call 3 11 rfl rfl (by kernel_rfl) 15 #[.agg (arr .u16 256 f)] (fun _ => by go_simp) ((C2.out _ (hzW.below hS7 zW)).mono ?_)
            rintro e w8 ⟨rfl, hb⟩
            have hS8 := hS7.trans (hb.mono p7)
            have p8 : WS ≤ w8.heap.size := Nat.le_trans p7 hb.size
            replace h4 := h4.below hb h4.lt
            replace h3 := h3.below hb h3.lt
            clear hb
            refine ⟨_, rfl, hS8, ?_⟩
            simp only [Act.put, List.setIfInBounds_toArray, List.set_cons_succ, List.set_cons_zero]
            refine wpAnyH_all (rs := [6]) (by kernel_rfl) (by simp) (all1 ?_)
            refine arm_store 6 rfl rfl (by kernel_rfl) 23 _ _ rfl b3 rfl .u16 256 (nttv f) rfl 23 .u16 _ h3.out size23 ⟨Below.setRow hS8 _ (by omega) _, ?_⟩
            refine wpAnyH_all (rs := [7]) (by kernel_rfl) (by simp) (all1 ?_)
            refine arm_store 7 rfl rfl (by kernel_rfl) 23 _ _ rfl b4 rfl .u16 256 (invv f) rfl 23 .u16 _ (h4.row_other _ _ (by omega)).out size23 ⟨Below.setRow (Below.setRow hS8 _ (by omega) _) _ (by omega) _, ?_⟩
            refine wpAnyH_done (by kernel_rfl) ?_ _
            exact ⟨rfl, b3, b4, rfl, by omega, by omega, by omega, (h3.row _).row_other _ _ (by omega), (h4.row_other _ _ (by omega)).row _, Below.setRow (Below.setRow hS8 _ (by omega) _) _ (by omega) _⟩
  case rest =>
    rintro e a' w5 ⟨rfl, b3, b4, rfl, hb3, hb4, hne, h3, h4, hb⟩
    have f0 := h0.below hb h0.lt
    have fz := hzW.below hb zW
    have fs := hb.size
    have db := hw.trans (hb.mono (by omega))
    have zs : 1 < w5.heap.size := by omega
    clear hb hw C1 C2 h0 hzW
    have hszE : ∀ w, (sizeOf 22).run Tryd.prog w = .ok 1 w := fun w => by kernel_rfl
    have l3 := h3.lt
    have l4 := h4.lt
    have l0 := f0.lt
    have es : w5.heap.size ≤ w5.heap.size := Nat.le_refl _
    go_wp2_with fail
    refine wp_region_quiet (C := fun w' => Below w5.heap.size w5 w') (by kernel_rfl) (by kernel_rfl) (Below.refl _ _).drew ?_
    refine quiet_val (by kernel_rfl) (.slice (some ⟨b3, 0, none⟩) 256 256) (fun _ => by kernel_rfl) ?_
    simp only [Act.put, List.setIfInBounds_toArray, List.set_cons_succ, List.set_cons_zero]
    refine quiet_call (by kernel_rfl) 17 #[.slice (some ⟨b3, 0, none⟩) 256 256] _ (fun _ => by go_simp) (fun w' hc => quiet_of_any ((red_any (nttv f) true b3 23 w' (h3.below hc l3) R1.out).mono fun _ _ ⟨he, hw⟩ => ⟨he, hw ▸ Below.refl _ _⟩) hc es) ?_
    simp only [Act.put, List.setIfInBounds_toArray, List.set_cons_succ, List.set_cons_zero]
    refine quiet_val (by kernel_rfl) (.bool true) (fun _ => by kernel_rfl) ?_
    simp only [Act.put, List.setIfInBounds_toArray, List.set_cons_succ, List.set_cons_zero]
    refine quiet_val (by kernel_rfl) (.slice (some ⟨b4, 0, none⟩) 256 256) (fun _ => by kernel_rfl) ?_
    simp only [Act.put, List.setIfInBounds_toArray, List.set_cons_succ, List.set_cons_zero]
    refine quiet_call (by kernel_rfl) 17 #[.slice (some ⟨b4, 0, none⟩) 256 256] _ (fun _ => by go_simp) (fun w' hc => quiet_of_any ((red_any (invv f) true b4 23 w' (h4.below hc l4) R2.out).mono fun _ _ ⟨he, hw⟩ => ⟨he, hw ▸ Below.refl _ _⟩) hc es) ?_
    simp only [Act.put, List.setIfInBounds_toArray, List.set_cons_succ, List.set_cons_zero]
    refine quiet_val (by kernel_rfl) (.bool true) (fun _ => by kernel_rfl) ?_
    simp only [Act.put, List.setIfInBounds_toArray, List.set_cons_succ, List.set_cons_zero]
    refine quiet_val (by kernel_rfl) (.bool true) (fun _ => by kernel_rfl) ?_
    simp only [Act.put, List.setIfInBounds_toArray, List.set_cons_succ, List.set_cons_zero]
    refine quiet_ld (by kernel_rfl) 23 _ rfl (b3) rfl 23 .u16 256 (nttv f) _ (fun w' hc => (h3.below hc (by omega)).out) Tryd.underlying23 size23 ?_
    simp only [Act.put, List.setIfInBounds_toArray, List.set_cons_succ, List.set_cons_zero]
    refine quiet_call (by kernel_rfl) 15 #[.agg (arr .u16 256 (nttv f))] _ (fun _ => by go_simp) (fun w' hc => quiet_of_any (C3.out w' (fz.below hc zs)) hc es) ?_
    simp only [Act.put, List.setIfInBounds_toArray, List.set_cons_succ, List.set_cons_zero]
    refine quiet_ld (by kernel_rfl) 23 _ rfl (w.heap.size) rfl 23 .u16 256 f _ (fun w' hc => (f0.below hc (by omega)).out) Tryd.underlying23 size23 ?_
    simp only [Act.put, List.setIfInBounds_toArray, List.set_cons_succ, List.set_cons_zero]
    refine quiet_val (by kernel_rfl) (.bool true) (run_eq_op 23 22 23 _ _ rfl 256 _ rfl rfl Tryd.underlying23 Tryd.underlying22 hszE (by kernel_rfl)) ?_
    simp only [Act.put, List.setIfInBounds_toArray, List.set_cons_succ, List.set_cons_zero]
    refine quiet_val (by kernel_rfl) (.bool true) (fun _ => by kernel_rfl) ?_
    simp only [Act.put, List.setIfInBounds_toArray, List.set_cons_succ, List.set_cons_zero]
    refine quiet_val (by kernel_rfl) (.bool true) (fun _ => by kernel_rfl) ?_
    simp only [Act.put, List.setIfInBounds_toArray, List.set_cons_succ, List.set_cons_zero]
    refine quiet_ld (by kernel_rfl) 23 _ rfl (b4) rfl 23 .u16 256 (invv f) _ (fun w' hc => (h4.below hc (by omega)).out) Tryd.underlying23 size23 ?_
    simp only [Act.put, List.setIfInBounds_toArray, List.set_cons_succ, List.set_cons_zero]
    refine quiet_call (by kernel_rfl) 13 #[.agg (arr .u16 256 (invv f))] _ (fun _ => by go_simp) (fun w' hc => quiet_of_any (C4.out w' (fz.below hc zs)) hc es) ?_
    simp only [Act.put, List.setIfInBounds_toArray, List.set_cons_succ, List.set_cons_zero]
    refine quiet_ld (by kernel_rfl) 23 _ rfl (w.heap.size) rfl 23 .u16 256 f _ (fun w' hc => (f0.below hc (by omega)).out) Tryd.underlying23 size23 ?_
    simp only [Act.put, List.setIfInBounds_toArray, List.set_cons_succ, List.set_cons_zero]
    refine quiet_val (by kernel_rfl) (.bool true) (run_eq_op 23 22 23 _ _ rfl 256 _ rfl rfl Tryd.underlying23 Tryd.underlying22 hszE (by kernel_rfl)) ?_
    simp only [Act.put, List.setIfInBounds_toArray, List.set_cons_succ, List.set_cons_zero]
    refine quiet_val (by kernel_rfl) (.bool true) (fun _ => by kernel_rfl) ?_
    simp only [Act.put, List.setIfInBounds_toArray, List.set_cons_succ, List.set_cons_zero]
    refine quiet_val (by kernel_rfl) (.bool true) (fun _ => by kernel_rfl) ?_
    simp only [Act.put, List.setIfInBounds_toArray, List.set_cons_succ, List.set_cons_zero]
    refine wpQuiet_nil ?_
    intro w6 hc
    have db := db.trans (hc.mono (by omega))
    clear hc C3 C4
    go_wp2
    go_ret
    exact ⟨rfl, db⟩

theorem contract (H : Type) (enc : TypeId × Value → H) (W : World) (base : Nat) (args : Array Value) (ds gs : List (DataW H)) (before : List MemPlace)
    (hval0 : ∀ (j : Nat) t v, Tryd.f7.params[j]? = some t → args[j]? = some v → Value.okWide Tryd.prog W .any base t v)
    (hW : DataW.Whole enc Tryd.prog Tryd.f7.params.toList Rows.fnNTTBackSpec.vars false W args.toList ds gs before) (hL : laidMetH Tryd.prog Rows.fnNTTBackRow.laid W) :
    Calls Tryd.prog 7 args W fun e W' => ∃ v, e = .returned v ∧ Rows.fnNTTBackSpec.post enc Tryd.prog Tryd.f7 false true false false W args v W' := by
  have hval : ∀ (j : Nat) t v, Tryd.f7.params[j]? = some t → args[j]? = some v → Value.okWide Tryd.prog W .any base t v := hval0
  have hW' := hW
  obtain ⟨p, q, hA0, hV, rfl, hfz, hnd⟩ := hW
  have hA : DataW.TrodAll enc Tryd.prog W 0 (fun _ => true) true Tryd.f7.params.toList args.toList ds p := hA0
  rw [Tryd.params7] at hA hval
  obtain ⟨v0, vs0, d0, ds0, p0, q0, hargs, rfl, rfl, h0, r0⟩ := trodAll_cons hA
  obtain ⟨rfl, rfl, rfl⟩ := trodAll_nil r0
  obtain rfl : args = #[v0] := by cases args; simp_all
  have hV2 := hV
  obtain ⟨_, _, _, _, e1, _, rfl, _, _, _, _, _⟩ := trodVars_one hV
  have k0 := h0
  have lt0 : ∀ x ∈ p0, x.block < W.heap.size := by obtain ⟨m, hm⟩ := k0; exact DataW.trod_lt m _ _ _ hm
  obtain ⟨g0, rfl, w0⟩ := open_arr Tryd.underlying23 Tryd.underlying22 (by kernel_rfl) (by kernel_rfl) (hval 0 23 v0 rfl rfl) h0
  clear hA0 hval0
  refine (walk g0 W (fun i hi => bounds_u16 (w0 i hi)) (tab_zet (by kernel_rfl) hL)).mono fun e W' ⟨he, bel⟩ => ?_
  subst he
  exact ⟨_, rfl, _, _, _, [], _, _, hW', trodAll_mk1 (shut_bool Tryd.underlying4 _), (trodAll_cons_mk (Below.trod laidOut (by kernel_rfl) (of_decide_eq_true (by kernel_rfl)) k0 bel lt0) trodAll_mk0), Below.trodVars laidOut bel (by kernel_rfl) hV2, bel.frame _, fun h => by cases h⟩

/-- A world for the witness: the settled one, the tables holding what their initialisers lay. -/
noncomputable def laidWorld (os : Os) : World :=
  { World.holding Tryd.prog os ⟨#[], #[], []⟩ with heap := ((World.holding Tryd.prog os ⟨#[], #[], []⟩).heap.modify 1 fun | .cells _ t frozen => .cells ((List.range 128).map fun i => .int .u16 (zet i)).toArray t frozen | o => o) }
theorem laid_met (os : Os) : laidMet Tryd.prog Rows.fnNTTBackRow.laid ((laidWorld os).forCall (fun _ _ => 0) ⟨#[], #[.agg (Array.replicate 256 (.int .u16 0))], []⟩).memory :=
  laidMet_of_run' 8 (by kernel_rfl) (by kernel_rfl)
theorem reads (os : Os) {H : Type} (enc : TypeId × Value → H) : ∃ places, DataW.whole enc Tryd.prog ((laidWorld os).forCall (fun _ _ => 0) ⟨#[], #[.agg (Array.replicate 256 (.int .u16 0))], []⟩).memory Tryd.f7.params.toList Rows.fnNTTBackSpec.vars false #[Value.agg (Array.replicate 256 (.int .u16 0))].toList 8 = some ([.agg (List.replicate 256 (.lit (.int .u16 0)))], [Lib.tabData .u16 ((List.range 128).map zet)], places) :=
  ⟨MemPlace.row ⟨1, 0, none⟩ 128, by kernel_rfl⟩

set_option maxRecDepth 100000 in
theorem lifted (os : Os) (started : os.Started) (H : Type) (enc : TypeId × Value → H) (F : Stop.Interp) :
    ReturnsInHanded {} Tryd.checked os 7 .any ((OpenSpec.ofChange Rows.fnNTTBackSpec).preRow enc Tryd.prog Tryd.f7 Rows.fnNTTBackRow.domain false Rows.fnNTTBackRow.laid) (((OpenSpec.ofChange Rows.fnNTTBackSpec).at F).post enc Tryd.prog Tryd.f7 false true false false) := by
  obtain ⟨places, hx⟩ := reads os enc
  refine returnsInHanded_of_row (C := Tryd.checked) (s := OpenSpec.ofChange Rows.fnNTTBackSpec) own started (by kernel_rfl) Tryd.func7
    (witness_row_at (enc := enc) (C := Tryd.checked) false (laidWorld os) #[.agg (Array.replicate 256 (.int .u16 0))] rfl (by kernel_rfl) (by kernel_rfl) (by kernel_rfl)
      (OpenSpec.preRow_of_cond 8 hx (by kernel_rfl) (fun k hk => by cases hk) (by kernel_rfl) (laid_met os))) ?_
  intro W base args ds gs before hval hW _ _ _ hL _ _
  exact contract H enc W base args ds gs before hval hW hL

theorem said : Rows.FnNTTBackSaid :=
  OpenClaim.holds_of_cond 7 Tryd.f7 rfl rfl rfl rfl rfl rfl rfl ⟨rfl, rfl, rfl, rfl, rfl⟩ rfl rfl rfl rfl rfl (by kernel_rfl) Tryd.func7 (by kernel_rfl)
    (of_decide_eq_true (by kernel_rfl)) (by unfold Func.isWrapper; first | (rw [if_pos (by decide +kernel)]; kernel_rfl) | (rw [if_neg (by decide +kernel)]; exact ⟨rfl, rfl⟩))
    (fun os started H enc _ F => by rw [OpenClaim.pre_eq_preRow]; exact lifted os started H enc F)

theorem plain (f : FuncId) (fn : Func) (hf : Tryd.pinned.checked.prog.funcNamed "loop.example/pub-g03234/laws.FnNTTBack" = some f) (hfn : Tryd.pinned.checked.prog.funcs[f]? = some fn) :
    false = Tryd.pinned.checked.prog.looks [] ∧ ∀ (j : Nat) t, fn.params[j]? = some t → Tryd.pinned.checked.prog.wantsStandIn t = false := by
  obtain rfl : f = 7 := Option.some.inj ((show Tryd.prog.funcNamed "loop.example/pub-g03234/laws.FnNTTBack" = some 7 by kernel_rfl).symm.trans hf) |>.symm
  obtain rfl : fn = Tryd.f7 := (Option.some.inj (Tryd.func7.symm.trans hfn)).symm
  refine ⟨by kernel_rfl, fun j t ht => ?_⟩
  rw [Tryd.params7] at ht
  obtain rfl : t = 23 := by simpa using Array.mem_of_getElem? ht
  exact (show Tryd.prog.wantsStandIn 23 = false by kernel_rfl)

/-- THE STATEMENT. -/
theorem proved : Rows.FnNTTBackCardSaid :=
  Claim7.holds_tied_plain_at .later [] _ _ _ _ said (fun _ h => by cases h) (by kernel_rfl) (fun _ h => by cases h) fnNTTBack_row_tie rfl ⟨rfl, rfl⟩ (by kernel_rfl) rfl plain (by kernel_rfl)
#print axioms proved
end Go.Proofs.YtcglkelhklihgaaDoor.fnNTTBack
