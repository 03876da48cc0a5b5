/-
  by way of the transforms two polynomials are multiplied modulo X to the 256 and 1, for numbers below 3329 (the law 'FnNTTProduct' returns true for every input); no further condition than the card's.
-/
import Derived.Test.YtcglkelhklihgaaDoorCards
import Derived.Test.YtcglkelhklihgaaDoorTie
import Derived.Test.YtcglkelhklihgaaDoorTabs
import Derived.Test.YtcglkelhklihgaaDoorAsk
import Derived.Test.YtcglkelhklihgaaDoorImt
import Derived.Test.YtcglkelhklihgaaDoorOpen
import Derived.Lib.Hide
import Derived.WalkKit
import Derived.ProofKit
import Derived.OpenShut
import Derived.Deep.DeepHandedRow
import Derived.ChangeVars
import Derived.OpenVars
namespace Go.Proofs.YtcglkelhklihgaaDoor.fnNTTProduct
open Go.ChangeShapes Go.WideShapes Go.ChangeAt Go.RowKit


theorem own : ownKnob Tryd.prog.godebug = none := by kernel_rfl
theorem laidOut : laidOutB Tryd.prog = true := by kernel_rfl
set_option maxRecDepth 100000 in
set_option maxHeartbeats 1000000 in
theorem walk (f g : Nat → Int) (w : World) (hf : ∀ i, i < 256 → 0 ≤ f i ∧ f i ≤ 65535) (hg : ∀ i, i < 256 → 0 ≤ g i ∧ g i ≤ 65535) (hy : Tab w 0 gam) (hz : Tab w 1 zet) :
    Calls Tryd.prog 8 #[.agg (arr .u16 256 f), .agg (arr .u16 256 g)] w fun e w' => e = .returned (.bool true) ∧ Below w.heap.size w w' := by
  have hz1 := hz.lt
  have hy1 := hy.lt
  obtain ⟨b1, hb1⟩ := redB_any f
  obtain ⟨b2, hb2⟩ := redB_any g
  have P1 := Lib.hid fun W => poly_any f b1 W hf hb1
  have P2 := Lib.hid fun W => poly_any g b2 W hg hb2
  have HF := Lib.hid hf; clear hf
  have HG := Lib.hid hg; clear hg
  go_enter Tryd.func8, Tryd.ntmps8
  go_wp2_with (refine ld_arr rfl 23 _ rfl (w.heap.size) rfl 23 .u16 256 f _ (Has.alloc (Has.new _ _ _) _).out Tryd.underlying23 size23 ?_; simp only [Act.put, List.setIfInBounds_toArray, List.set_cons_succ, List.set_cons_zero, World.size_alloc])
  obtain ⟨W, hW, h0, h1, hw, HS⟩ := pack2 w (arr .u16 256 f) (arr .u16 256 g) 23 23
  rw [← hW]
  clear hW
  refine (P1.out _).mono ?_
  rintro e w1 ⟨rfl, hb⟩
  have d0 := h0.below hb (by omega)
  have d1 := h1.below hb (by omega)
  have db := hw.trans (hb.mono (by omega))
  have hs1 := hb.size
  have hs2 : w.heap.size + 1 + 1 ≤ w1.heap.size := by omega
  clear hb hw HS h0 h1 hs1
  go_wp2_with (first | (refine wpList_alloc_zero rfl 25 rfl _ zero25 ?_; simp only [Act.put, List.setIfInBounds_toArray, List.set_cons_succ, List.set_cons_zero, World.size_alloc]) | (refine st_arr rfl 25 _ _ rfl w1.heap.size rfl .i64 256 f rfl 25 .i64 _ (Has.new _ _ _).out size25 ?_; simp only [Act.put, List.setIfInBounds_toArray, List.set_cons_succ, List.set_cons_zero, World.size_alloc]) | (refine ld_arr rfl 23 _ rfl (w.heap.size + 1) rfl 23 .u16 256 g _ ((d1.alloc _).row_other _ _ (by omega)).out Tryd.underlying23 size23 ?_; simp only [Act.put, List.setIfInBounds_toArray, List.set_cons_succ, List.set_cons_zero, World.size_alloc]))
  obtain ⟨W2, hW2, e0, e1, e2, eb, es⟩ : ∃ W2, W2 = (w1.alloc (.cells (arr .i64 256 fun _ => 0) 25)).setRow w1.heap.size (arr .i64 256 f) ∧ Has W2 (w.heap.size) (arr .u16 256 f) 23 ∧ Has W2 (w.heap.size + 1) (arr .u16 256 g) 23 ∧ Has W2 w1.heap.size (arr .i64 256 f) 25 ∧ Below w.heap.size w W2 ∧ w1.heap.size + 1 ≤ W2.heap.size :=
    ⟨_, rfl, (d0.alloc _).row_other _ _ (by omega), (d1.alloc _).row_other _ _ (by omega), (Has.new _ _ _).row _, Below.setRow (db.alloc (by omega) _) _ (by omega) _, by rw [setRow_size, World.size_alloc]; omega⟩
  rw [← hW2]
  clear hW2 d0 d1 db
  generalize w1.heap.size = bA at *
  refine (P2.out _).mono ?_
  rintro e w3 ⟨rfl, hb⟩
  have d0 := e0.below hb (by omega)
  have d1 := e1.below hb (by omega)
  have d2 := e2.below hb (by omega)
  have db := eb.trans (hb.mono (by omega))
  have hs1 := hb.size
  have hs3 : bA + 1 ≤ w3.heap.size := by omega
  clear hb e0 e1 e2 eb es hs1
  cases b1
  · clear P1 P2 hb1 hb2 HF HG d0 d1 d2
    go_wp2_with (first | (refine wpList_alloc_zero rfl 25 rfl _ zero25 ?_; simp only [Act.put, List.setIfInBounds_toArray, List.set_cons_succ, List.set_cons_zero, World.size_alloc]) | (refine wpList_build_zero rfl 25 rfl _ built25 ?_; simp only [Act.put, List.setIfInBounds_toArray, List.set_cons_succ, List.set_cons_zero, World.size_alloc]) | (refine st_arr rfl 25 _ _ rfl _ rfl .i64 256 _ rfl 25 .i64 _ (Has.new _ _ _).out size25 ?_; simp only [Act.put, List.setIfInBounds_toArray, List.set_cons_succ, List.set_cons_zero, World.size_alloc]))
    go_ret
    exact ⟨rfl, Below.setRow (db.alloc (by omega) _) _ (by omega) _⟩
  cases b2
  · clear P1 P2 hb1 hb2 HF HG d0 d1 d2
    go_wp2_with (first | (refine wpList_alloc_zero rfl 25 rfl _ zero25 ?_; simp only [Act.put, List.setIfInBounds_toArray, List.set_cons_succ, List.set_cons_zero, World.size_alloc]) | (refine wpList_build_zero rfl 25 rfl _ built25 ?_; simp only [Act.put, List.setIfInBounds_toArray, List.set_cons_succ, List.set_cons_zero, World.size_alloc]) | (refine st_arr rfl 25 _ _ rfl _ rfl .i64 256 _ rfl 25 .i64 _ (Has.new _ _ _).out size25 ?_; simp only [Act.put, List.setIfInBounds_toArray, List.set_cons_succ, List.set_cons_zero, World.size_alloc]))
    go_ret
    exact ⟨rfl, Below.setRow (db.alloc (by omega) _) _ (by omega) _⟩
  have hf' : ∀ i, i < 256 → 0 ≤ f i ∧ f i < 3329 := fun i hi => ⟨(HF.out i hi).1, hb1.yes i hi⟩
  have hg' : ∀ i, i < 256 → 0 ≤ g i ∧ g i < 3329 := fun i hi => ⟨(HG.out i hi).1, hb2.yes i hi⟩
  have HF' := Lib.hid hf'
  have HG' := Lib.hid hg'
  have C1 := Lib.hid fun (W : World) (z : Tab W 1 zet) => implToNTT_any f W hf' z
  have C2 := Lib.hid fun (W : World) (z : Tab W 1 zet) => implToNTT_any g W hg' z
  have C3 := Lib.hid fun (W : World) (z : Tab W 0 gam) => implNTTMul_any (nttv f) (nttv g) W (nttv_red f hf') (nttv_red g hg') z
  have C4 := Lib.hid fun (W : World) (z : Tab W 1 zet) => by
    have h := implFromNTT_any (nttv (prodv f g)) W (nttv_red _ fun i _ => pall_red f g 256 i) z
    rw [arr_congr (k := .u16) (n := 256) (ntt_prod f g), arr_congr (k := .u16) (n := 256) (inv_of_ntt (prodv f g) fun i _ => pall_red f g 256 i)] at h
    exact h
  have C5 := Lib.hid fun W => is_yes (prodv f g) (prodv f g) W (fun i hi => by have := pall_red f g 256 i; unfold prodv; omega) (fun _ _ => rfl)
  clear P1 P2 hb1 hb2 HF HG hf' hg'
  go_wp2_with (first | (refine wpList_alloc_zero rfl 25 rfl _ zero25 ?_; simp only [Act.put, List.setIfInBounds_toArray, List.set_cons_succ, List.set_cons_zero, World.size_alloc]) | (refine wpList_build_zero rfl 25 rfl _ built25 ?_; simp only [Act.put, List.setIfInBounds_toArray, List.set_cons_succ, List.set_cons_zero, World.size_alloc]) | (refine st_arr rfl 25 _ _ rfl _ rfl .i64 256 _ rfl 25 .i64 _ (Has.new _ _ _).out size25 ?_; simp only [Act.put, List.setIfInBounds_toArray, List.set_cons_succ, List.set_cons_zero, World.size_alloc]))
  obtain ⟨W4, hW4, e0, e1, e2, e3, eb, es⟩ : ∃ W4, W4 = (w3.alloc (.cells (arr .i64 256 fun _ => 0) 25)).setRow w3.heap.size (arr .i64 256 g) ∧ Has W4 (w.heap.size) (arr .u16 256 f) 23 ∧ Has W4 (w.heap.size + 1) (arr .u16 256 g) 23 ∧ Has W4 bA (arr .i64 256 f) 25 ∧ Has W4 w3.heap.size (arr .i64 256 g) 25 ∧ Below w.heap.size w W4 ∧ w3.heap.size + 1 ≤ W4.heap.size :=
    ⟨_, rfl, (d0.alloc _).row_other _ _ (by omega), (d1.alloc _).row_other _ _ (by omega), (d2.alloc _).row_other _ _ (by omega), (Has.new _ _ _).row _, Below.setRow (db.alloc (by omega) _) _ (by omega) _, by rw [setRow_size, World.size_alloc]; omega⟩
  rw [← hW4]
  clear hW4 d0 d1 d2 db
  generalize w3.heap.size = bB at *
  obtain ⟨W5, hW5, d0, d1, d2, d3, d4, db⟩ : ∃ W5, W5 = (W4.alloc (.cells (arr .i64 256 fun _ => 0) 25)).setRow W4.heap.size (arr .i64 256 fun _ => 0) ∧ Has W5 (w.heap.size) (arr .u16 256 f) 23 ∧ Has W5 (w.heap.size + 1) (arr .u16 256 g) 23 ∧ Has W5 bA (arr .i64 256 f) 25 ∧ Has W5 bB (arr .i64 256 g) 25 ∧ Has W5 W4.heap.size (arr .i64 256 fun _ => 0) 25 ∧ Below w.heap.size w W5 :=
    ⟨_, rfl, (e0.alloc _).row_other _ _ (by omega), (e1.alloc _).row_other _ _ (by omega), (e2.alloc _).row_other _ _ (by omega), (e3.alloc _).row_other _ _ (by omega), (Has.new _ _ _).row _, Below.setRow (eb.alloc (by omega) _) _ (by omega) _⟩
  rw [← hW5]
  clear hW5 e0 e1 e2 e3 eb
  generalize W4.heap.size = bC at *
  go_loopw [10, 11, 12] (fun i _ _ wr => ∃ k : Nat, k ≤ 256 ∧ i = .int .i64 k ∧ Below w.heap.size w wr ∧ Has wr (w.heap.size) (arr .u16 256 f) 23 ∧ Has wr (w.heap.size + 1) (arr .u16 256 g) 23 ∧ Has wr bA (arr .i64 256 f) 25 ∧ Has wr bB (arr .i64 256 g) 25 ∧ Has wr bC (arr .i64 256 (pall f g k)) 25) (fun i _ _ _ => 256 - (intOf i).toNat)
  case atStart => exact ⟨0, by omega, rfl, db, d0, d1, d2, d3, d4⟩
  case round =>
    obtain ⟨k, hk, rfl, hb, h0, h1, h2, h3, h4⟩ := hrel
    by_cases hlt : k < 256
    · obtain ⟨f0, f1⟩ := HF'.out k hlt
      have hlt' : (k : Int) < 256 := by omega
      have EP := Lib.hid (show pall f g (k + 1) = prow f g (pall f g k) k 256 from rfl)
      have PR := Lib.hid (prow_red f g (pall f g k) k (pall_red f g k))
      go_wp2_with fail
      go_loopw [11, 12] (fun jj _ wr => ∃ j : Nat, j ≤ 256 ∧ jj = .int .i64 j ∧ Below w.heap.size w wr ∧ Has wr (w.heap.size) (arr .u16 256 f) 23 ∧ Has wr (w.heap.size + 1) (arr .u16 256 g) 23 ∧ Has wr bA (arr .i64 256 f) 25 ∧ Has wr bB (arr .i64 256 g) 25 ∧ Has wr bC (arr .i64 256 (prow f g (pall f g k) k j)) 25) (fun jj _ _ => 256 - (intOf jj).toNat)
      case atStart => exact ⟨0, by omega, rfl, hb, h0, h1, h2, h3, h4⟩
      case round =>
        obtain ⟨j, hj, rfl, hb, h0, h1, h2, h3, h4⟩ := hrel
        by_cases hjl : j < 256
        · obtain ⟨g0, g1⟩ := HG'.out j hjl
          have ES := Lib.hid (show prow f g (pall f g k) k (j + 1) = upd (prow f g (pall f g k) k j) ((k + j) % 256) ((prow f g (pall f g k) k j ((k + j) % 256) + pterm f g k j) % 3329) from rfl)
          have ET := Lib.hid (show pterm f g k j = if 256 ≤ k + j then 3329 - f k * g j % 3329 else f k * g j % 3329 from rfl)
          obtain ⟨p0, p1⟩ := PR.out j ((k + j) % 256)
          have c2 := h2.cell k hlt
          have c3 := h3.cell j hjl
          generalize prow f g (pall f g k) k j = P at *
          generalize f k = X at *
          generalize g j = Y at *
          obtain ⟨m0, m1⟩ := mul_bd X Y 3328 3328 f0 (by omega) g0 (by omega)
          have y0 : IntKind.i64.wrap (X * Y) = X * Y := IntWalk.i64_in _ (by omega)
          have y1 : (X * Y).tmod 3329 = X * Y % 3329 := Int.tmod_eq_emod_of_nonneg (by omega)
          have y2 : IntKind.i64.wrap (X * Y % 3329) = X * Y % 3329 := IntWalk.i64_in _ (by omega)
          go_wp2_with fail
          go_quiet (fail)
          have d0 := h0.drewN nq
          have d1 := h1.drewN nq
          have d2 := h2.drewN nq
          have d3 := h3.drewN nq
          have d4 := h4.drewN nq
          have db : Below w.heap.size w (wr.drewN nq) := ⟨hb.os, hb.tape, hb.output, hb.size, hb.block⟩
          clear h0 h1 h2 h3 h4 hb c2 c3 y0 y1 y2
          generalize wr.drewN nq = wd at *
          obtain ⟨x0, x1⟩ : 0 ≤ X * Y % 3329 ∧ X * Y % 3329 < 3329 := by omega
          generalize X * Y % 3329 = Z at *
          have c4 := d4.cell ((k + j) % 256) (by omega)
          have z4 := d4.free ((k + j) % 256)
          have q0 : IntKind.i64.wrap ((k : Int) + (j : Int)) = (k : Int) + (j : Int) := IntWalk.i64_in _ (by omega)
          have q1 : ((k : Int) + (j : Int)).tmod 256 = ((k : Int) + (j : Int)) % 256 := Int.tmod_eq_emod_of_nonneg (by omega)
          have q2 : IntKind.i64.wrap (((k : Int) + (j : Int)) % 256) = ((k : Int) + (j : Int)) % 256 := IntWalk.i64_in _ (by omega)
          have q3 : (((k : Int) + (j : Int)) % 256).toNat = (k + j) % 256 := by omega
          have q4 : (0 : Int) ≤ ((k : Int) + (j : Int)) % 256 := by omega
          have q5 : ((k : Int) + (j : Int)) % 256 < 256 := by omega
          generalize P ((k + j) % 256) = O at *
          by_cases hw : 256 ≤ k + j
          · have hw' : (256 : Int) ≤ (k : Int) + (j : Int) := by omega
            have et := ET.out
            rw [if_pos hw] at et
            rw [et] at ES
            have q6 : IntKind.i64.wrap (3329 - Z) = 3329 - Z := IntWalk.i64_in _ (by omega)
            have q7 : IntKind.i64.wrap (O + (3329 - Z)) = O + (3329 - Z) := IntWalk.i64_in _ (by omega)
            have q8 : (O + (3329 - Z)).tmod 3329 = (O + (3329 - Z)) % 3329 := Int.tmod_eq_emod_of_nonneg (by omega)
            have q9 : IntKind.i64.wrap ((O + (3329 - Z)) % 3329) = (O + (3329 - Z)) % 3329 := IntWalk.i64_in _ (by omega)
            go_wp2
            go_roundw
            case rel => exact ⟨j + 1, by omega, by go_num, below_set db _ _ (by omega) _, d0.other _ _ _ (by omega), d1.other _ _ _ (by omega), d2.other _ _ _ (by omega), d3.other _ _ _ (by omega), by rw [ES.out]; exact d4.set _ _⟩
            case measure => simp [intOf]; omega
          · have hw' : ¬ (256 : Int) ≤ (k : Int) + (j : Int) := by omega
            have et := ET.out
            rw [if_neg hw] at et
            rw [et] at ES
            have q7 : IntKind.i64.wrap (O + Z) = O + Z := IntWalk.i64_in _ (by omega)
            have q8 : (O + Z).tmod 3329 = (O + Z) % 3329 := Int.tmod_eq_emod_of_nonneg (by omega)
            have q9 : IntKind.i64.wrap ((O + Z) % 3329) = (O + Z) % 3329 := IntWalk.i64_in _ (by omega)
            go_wp2
            go_roundw
            case rel => exact ⟨j + 1, by omega, by go_num, below_set db _ _ (by omega) _, d0.other _ _ _ (by omega), d1.other _ _ _ (by omega), d2.other _ _ _ (by omega), d3.other _ _ _ (by omega), by rw [ES.out]; exact d4.set _ _⟩
            case measure => simp [intOf]; omega
        · obtain rfl : j = 256 := by omega
          go_wp2_with fail
          go_roundw
          case rel => exact ⟨k + 1, by omega, by go_num, hb, h0, h1, h2, h3, by rw [EP.out]; exact h4⟩
          case measure => simp [intOf]; omega
    · obtain rfl : k = 256 := by omega
      have hy4 := hy.below hb hy1
      have hz4 := hz.below hb hz1
      have es5 := h4.lt
      clear HF' HG'
      go_wp2_with fail
      refine wp_region_quiet (C := fun w' => Below (bC + 1) wr w') (by kernel_rfl) (by kernel_rfl) (Below.refl _ _).drew ?_
      have es : bC + 1 ≤ wr.heap.size := es5
      refine quiet_ld (by kernel_rfl) 23 _ rfl (w.heap.size) rfl 23 .u16 256 f _ (fun w' hc => (h0.below hc (by omega)).out) Tryd.underlying23 size23 ?_
      simp only [Act.put, List.setIfInBounds_toArray, List.set_cons_succ, List.set_cons_zero]
      refine quiet_call (by kernel_rfl) 13 #[.agg (arr .u16 256 f)] _ (fun _ => by go_simp) (fun w' hc => quiet_of_any (C1.out w' (hz4.below hc (by omega))) hc es) ?_
      simp only [Act.put, List.setIfInBounds_toArray, List.set_cons_succ, List.set_cons_zero]
      refine quiet_ld (by kernel_rfl) 23 _ rfl (w.heap.size + 1) rfl 23 .u16 256 g _ (fun w' hc => (h1.below hc (by omega)).out) Tryd.underlying23 size23 ?_
      simp only [Act.put, List.setIfInBounds_toArray, List.set_cons_succ, List.set_cons_zero]
      refine quiet_call (by kernel_rfl) 13 #[.agg (arr .u16 256 g)] _ (fun _ => by go_simp) (fun w' hc => quiet_of_any (C2.out w' (hz4.below hc (by omega))) hc es) ?_
      simp only [Act.put, List.setIfInBounds_toArray, List.set_cons_succ, List.set_cons_zero]
      refine quiet_call (by kernel_rfl) 11 #[.agg (arr .u16 256 (nttv f)), .agg (arr .u16 256 (nttv g))] _ (fun _ => by go_simp) (fun w' hc => quiet_of_any (C3.out w' (hy4.below hc (by omega))) hc es) ?_
      simp only [Act.put, List.setIfInBounds_toArray, List.set_cons_succ, List.set_cons_zero]
      refine quiet_call (by kernel_rfl) 15 #[.agg (arr .u16 256 (mulv (nttv f) (nttv g)))] _ (fun _ => by go_simp) (fun w' hc => quiet_of_any (C4.out w' (hz4.below hc (by omega))) hc es) ?_
      simp only [Act.put, List.setIfInBounds_toArray, List.set_cons_succ, List.set_cons_zero]
      refine quiet_ld (by kernel_rfl) 25 _ rfl (bC) rfl 25 .i64 256 (prodv f g) _ (fun w' hc => (h4.below hc (by omega)).out) Tryd.underlying25 size25 ?_
      simp only [Act.put, List.setIfInBounds_toArray, List.set_cons_succ, List.set_cons_zero]
      refine quiet_call (by kernel_rfl) 10 #[.agg (arr .u16 256 (prodv f g)), .agg (arr .i64 256 (prodv f g))] _ (fun _ => by go_simp) (fun w' hc => quiet_of_any (C5.out w') hc es) ?_
      simp only [Act.put, List.setIfInBounds_toArray, List.set_cons_succ, List.set_cons_zero]
      refine quiet_val (by kernel_rfl) (.bool true) (fun _ => by kernel_rfl) ?_
      simp only [Act.put, List.setIfInBounds_toArray, List.set_cons_succ, List.set_cons_zero]
      refine wpQuiet_nil ?_
      intro w5 hc
      have db := hb.trans (hc.mono (by omega))
      clear hc C1 C2 C3 C4 C5
      go_wp2
      go_ret
      exact ⟨rfl, db⟩

theorem contract (H : Type) (enc : TypeId × Value → H) (W : World) (base : Nat) (args : Array Value) (ds gs : List (DataW H)) (before : List MemPlace)
    (hval0 : ∀ (j : Nat) t v, Tryd.f8.params[j]? = some t → args[j]? = some v → Value.okWide Tryd.prog W .any base t v)
    (hW : DataW.Whole enc Tryd.prog Tryd.f8.params.toList Rows.fnNTTProductSpec.vars false W args.toList ds gs before) (hL : laidMetH Tryd.prog Rows.fnNTTProductRow.laid W) :
    Calls Tryd.prog 8 args W fun e W' => ∃ v, e = .returned v ∧ Rows.fnNTTProductSpec.post enc Tryd.prog Tryd.f8 false true false false W args v W' := by
  have hval : ∀ (j : Nat) t v, Tryd.f8.params[j]? = some t → args[j]? = some v → Value.okWide Tryd.prog W .any base t v := hval0
  have hW' := hW
  obtain ⟨p, q, hA0, hV, rfl, hfz, hnd⟩ := hW
  have hA : DataW.TrodAll enc Tryd.prog W 0 (fun _ => true) true Tryd.f8.params.toList args.toList ds p := hA0
  rw [Tryd.params8] at hA hval
  obtain ⟨v0, vs0, d0, ds0, p0, q0, hargs, rfl, rfl, h0, r0⟩ := trodAll_cons hA
  obtain ⟨v1, vs1, d1, ds1, p1, q1, rfl, rfl, rfl, h1, r1⟩ := trodAll_cons r0
  obtain ⟨rfl, rfl, rfl⟩ := trodAll_nil r1
  obtain rfl : args = #[v0, v1] := by cases args; simp_all
  have hV2 := hV
  obtain ⟨_, _, _, _, e1, _, _, _, _, _, e2, _, rfl, _, _, _, _, _, _, _, _, _⟩ := trodVars_two hV
  have k0 := h0
  have lt0 : ∀ x ∈ p0, x.block < W.heap.size := by obtain ⟨m, hm⟩ := k0; exact DataW.trod_lt m _ _ _ hm
  obtain ⟨g0, rfl, w0⟩ := open_arr Tryd.underlying23 Tryd.underlying22 (by kernel_rfl) (by kernel_rfl) (hval 0 23 v0 rfl rfl) h0
  have k1 := h1
  have lt1 : ∀ x ∈ p1, x.block < W.heap.size := by obtain ⟨m, hm⟩ := k1; exact DataW.trod_lt m _ _ _ hm
  obtain ⟨g1, rfl, w1⟩ := open_arr Tryd.underlying23 Tryd.underlying22 (by kernel_rfl) (by kernel_rfl) (hval 1 23 v1 rfl rfl) h1
  clear hA0 hval0
  refine (walk g0 g1 W (fun i hi => bounds_u16 (w0 i hi)) (fun i hi => bounds_u16 (w1 i hi)) (tab_gam (by kernel_rfl) hL) (tab_zet (by kernel_rfl) hL)).mono fun e W' ⟨he, bel⟩ => ?_
  subst he
  exact ⟨_, rfl, _, _, _, [], _, _, hW', trodAll_mk1 (shut_bool Tryd.underlying4 _), (trodAll_cons_mk (Below.trod laidOut (by kernel_rfl) (of_decide_eq_true (by kernel_rfl)) k0 bel lt0) (trodAll_cons_mk (Below.trod laidOut (by kernel_rfl) (of_decide_eq_true (by kernel_rfl)) k1 bel lt1) trodAll_mk0)), Below.trodVars laidOut bel (by kernel_rfl) hV2, bel.frame _, fun h => by cases h⟩

/-- A world for the witness: the settled one, the tables holding what their initialisers lay. -/
noncomputable def laidWorld (os : Os) : World :=
  { World.holding Tryd.prog os ⟨#[], #[], []⟩ with heap := (((World.holding Tryd.prog os ⟨#[], #[], []⟩).heap.modify 0 fun | .cells _ t frozen => .cells ((List.range 128).map fun i => .int .u16 (gam i)).toArray t frozen | o => o).modify 1 fun | .cells _ t frozen => .cells ((List.range 128).map fun i => .int .u16 (zet i)).toArray t frozen | o => o) }
theorem laid_met (os : Os) : laidMet Tryd.prog Rows.fnNTTProductRow.laid ((laidWorld os).forCall (fun _ _ => 0) ⟨#[], #[.agg (Array.replicate 256 (.int .u16 0)), .agg (Array.replicate 256 (.int .u16 0))], []⟩).memory :=
  laidMet_of_run' 8 (by kernel_rfl) (by kernel_rfl)
theorem reads (os : Os) {H : Type} (enc : TypeId × Value → H) : ∃ places, DataW.whole enc Tryd.prog ((laidWorld os).forCall (fun _ _ => 0) ⟨#[], #[.agg (Array.replicate 256 (.int .u16 0)), .agg (Array.replicate 256 (.int .u16 0))], []⟩).memory Tryd.f8.params.toList Rows.fnNTTProductSpec.vars false #[Value.agg (Array.replicate 256 (.int .u16 0)), .agg (Array.replicate 256 (.int .u16 0))].toList 8 = some ([.agg (List.replicate 256 (.lit (.int .u16 0))), .agg (List.replicate 256 (.lit (.int .u16 0)))], [Lib.tabData .u16 ((List.range 128).map zet), Lib.tabData .u16 ((List.range 128).map gam)], places) :=
  ⟨MemPlace.row ⟨1, 0, none⟩ 128 ++ MemPlace.row ⟨0, 0, none⟩ 128, by kernel_rfl⟩

set_option maxRecDepth 100000 in
theorem lifted (os : Os) (started : os.Started) (H : Type) (enc : TypeId × Value → H) (F : Stop.Interp) :
    ReturnsInHanded {} Tryd.checked os 8 .any ((OpenSpec.ofChange Rows.fnNTTProductSpec).preRow enc Tryd.prog Tryd.f8 Rows.fnNTTProductRow.domain false Rows.fnNTTProductRow.laid) (((OpenSpec.ofChange Rows.fnNTTProductSpec).at F).post enc Tryd.prog Tryd.f8 false true false false) := by
  obtain ⟨places, hx⟩ := reads os enc
  refine returnsInHanded_of_row (C := Tryd.checked) (s := OpenSpec.ofChange Rows.fnNTTProductSpec) own started (by kernel_rfl) Tryd.func8
    (witness_row_at (enc := enc) (C := Tryd.checked) false (laidWorld os) #[.agg (Array.replicate 256 (.int .u16 0)), .agg (Array.replicate 256 (.int .u16 0))] rfl (by kernel_rfl) (by kernel_rfl) (by kernel_rfl)
      (OpenSpec.preRow_of_cond 8 hx (by kernel_rfl) (fun k hk => by cases hk) (by kernel_rfl) (laid_met os))) ?_
  intro W base args ds gs before hval hW _ _ _ hL _ _
  exact contract H enc W base args ds gs before hval hW hL

theorem said : Rows.FnNTTProductSaid :=
  OpenClaim.holds_of_cond 8 Tryd.f8 rfl rfl rfl rfl rfl rfl rfl ⟨rfl, rfl, rfl, rfl, rfl⟩ rfl rfl rfl rfl rfl (by kernel_rfl) Tryd.func8 (by kernel_rfl)
    (of_decide_eq_true (by kernel_rfl)) (by unfold Func.isWrapper; first | (rw [if_pos (by decide +kernel)]; kernel_rfl) | (rw [if_neg (by decide +kernel)]; exact ⟨rfl, rfl⟩))
    (fun os started H enc _ F => by rw [OpenClaim.pre_eq_preRow]; exact lifted os started H enc F)

theorem plain (f : FuncId) (fn : Func) (hf : Tryd.pinned.checked.prog.funcNamed "loop.example/pub-g03234/laws.FnNTTProduct" = some f) (hfn : Tryd.pinned.checked.prog.funcs[f]? = some fn) :
    false = Tryd.pinned.checked.prog.looks [] ∧ ∀ (j : Nat) t, fn.params[j]? = some t → Tryd.pinned.checked.prog.wantsStandIn t = false := by
  obtain rfl : f = 8 := Option.some.inj ((show Tryd.prog.funcNamed "loop.example/pub-g03234/laws.FnNTTProduct" = some 8 by kernel_rfl).symm.trans hf) |>.symm
  obtain rfl : fn = Tryd.f8 := (Option.some.inj (Tryd.func8.symm.trans hfn)).symm
  refine ⟨by kernel_rfl, fun j t ht => ?_⟩
  rw [Tryd.params8] at ht
  obtain rfl : t = 23 := by simpa using Array.mem_of_getElem? ht
  exact (show Tryd.prog.wantsStandIn 23 = false by kernel_rfl)

/-- THE STATEMENT. -/
theorem proved : Rows.FnNTTProductCardSaid :=
  Claim7.holds_tied_plain_at .later [] _ _ _ _ said (fun _ h => by cases h) (by kernel_rfl) (fun _ h => by cases h) fnNTTProduct_row_tie rfl ⟨rfl, rfl⟩ (by kernel_rfl) rfl plain (by kernel_rfl)
#print axioms proved
end Go.Proofs.YtcglkelhklihgaaDoor.fnNTTProduct
