/-
  NTTAdd is the sum of two transforms whose numbers are below 3329 (the law 'FnNTTAdd' returns true for every input); no further condition.
-/
import Derived.Test.YtcglkelhklihgaaRows
import Derived.Test.YtcglkelhklihgaaAsk
import Derived.Test.YtcglkelhklihgaaImp
import Derived.Test.YtcglkelhklihgaaOpen
import Derived.Lib.Hide
namespace Go.Proofs.Ytcglkelhklihgaa.fnNTTAdd
open Go.ChangeShapes Go.WideShapes Go.ChangeAt Go.RowKit


theorem own : ownKnob Try.prog.godebug = none := by kernel_rfl
theorem laidOut : laidOutB Try.prog = true := by kernel_rfl
set_option maxRecDepth 100000 in
set_option maxHeartbeats 1000000 in
theorem walk (f g : Nat → Int) (w : World) (hf : ∀ i, i < 256 → 0 ≤ f i ∧ f i ≤ 65535) (hg : ∀ i, i < 256 → 0 ≤ g i ∧ g i ≤ 65535) :
    Calls Try.prog 3 #[.agg (arr .u16 256 f), .agg (arr .u16 256 g)] w fun e w' => e = .returned (.bool true) ∧ Below w.heap.size w w' := by
  obtain ⟨b1, hb1⟩ := redB_any f
  obtain ⟨b2, hb2⟩ := redB_any g
  have P1 := Lib.hid fun W => poly_any f b1 W hf hb1
  have P2 := Lib.hid fun W => poly_any g b2 W hg hb2
  have HF := Lib.hid hf; clear hf
  have HG := Lib.hid hg; clear hg
  go_enter Try.func3, Try.ntmps3
  go_wp2_with (refine ld_arr rfl 23 _ rfl (w.heap.size) rfl 23 .u16 256 f _ (Has.alloc (Has.new _ _ _) _).out Try.underlying23 size23 ?_; simp only [Act.put, List.setIfInBounds_toArray, List.set_cons_succ, List.set_cons_zero, World.size_alloc])
  obtain ⟨W, hW, h0, h1, hw, HS⟩ := pack2 w (arr .u16 256 f) (arr .u16 256 g) 23 23
  rw [← hW]
  clear hW
  refine (P1.out _).mono ?_
  rintro e w1 ⟨rfl, hb⟩
  have d0 := h0.below hb (by omega)
  have d1 := h1.below hb (by omega)
  have db := hw.trans (hb.mono (by omega))
  have hs1 := hb.size
  have hs2 : w.heap.size + 1 + 1 ≤ w1.heap.size := by omega
  clear hb hw HS h0 h1 hs1
  go_wp2_with (first | (refine wpList_alloc_zero rfl 25 rfl _ zero25 ?_; simp only [Act.put, List.setIfInBounds_toArray, List.set_cons_succ, List.set_cons_zero, World.size_alloc]) | (refine st_arr rfl 25 _ _ rfl w1.heap.size rfl .i64 256 f rfl 25 .i64 _ (Has.new _ _ _).out size25 ?_; simp only [Act.put, List.setIfInBounds_toArray, List.set_cons_succ, List.set_cons_zero, World.size_alloc]) | (refine ld_arr rfl 23 _ rfl (w.heap.size + 1) rfl 23 .u16 256 g _ ((d1.alloc _).row_other _ _ (by omega)).out Try.underlying23 size23 ?_; simp only [Act.put, List.setIfInBounds_toArray, List.set_cons_succ, List.set_cons_zero, World.size_alloc]))
  obtain ⟨W2, hW2, e0, e1, e2, eb, es⟩ : ∃ W2, W2 = (w1.alloc (.cells (arr .i64 256 fun _ => 0) 25)).setRow w1.heap.size (arr .i64 256 f) ∧ Has W2 (w.heap.size) (arr .u16 256 f) 23 ∧ Has W2 (w.heap.size + 1) (arr .u16 256 g) 23 ∧ Has W2 w1.heap.size (arr .i64 256 f) 25 ∧ Below w.heap.size w W2 ∧ w1.heap.size + 1 ≤ W2.heap.size :=
    ⟨_, rfl, (d0.alloc _).row_other _ _ (by omega), (d1.alloc _).row_other _ _ (by omega), (Has.new _ _ _).row _, Below.setRow (db.alloc (by omega) _) _ (by omega) _, by rw [setRow_size, World.size_alloc]; omega⟩
  rw [← hW2]
  clear hW2 d0 d1 db
  generalize w1.heap.size = bA at *
  refine (P2.out _).mono ?_
  rintro e w3 ⟨rfl, hb⟩
  have d0 := e0.below hb (by omega)
  have d1 := e1.below hb (by omega)
  have d2 := e2.below hb (by omega)
  have db := eb.trans (hb.mono (by omega))
  have hs1 := hb.size
  have hs3 : bA + 1 ≤ w3.heap.size := by omega
  clear hb e0 e1 e2 eb es hs1
  go_wp2_with (first | (refine wpList_alloc_zero rfl 25 rfl _ zero25 ?_; simp only [Act.put, List.setIfInBounds_toArray, List.set_cons_succ, List.set_cons_zero, World.size_alloc]) | (refine st_arr rfl 25 _ _ rfl w3.heap.size rfl .i64 256 g rfl 25 .i64 _ (Has.new _ _ _).out size25 ?_; simp only [Act.put, List.setIfInBounds_toArray, List.set_cons_succ, List.set_cons_zero, World.size_alloc]))
  obtain ⟨W4, hW4, e0, e1, e2, e3, eb, es⟩ : ∃ W4, W4 = (w3.alloc (.cells (arr .i64 256 fun _ => 0) 25)).setRow w3.heap.size (arr .i64 256 g) ∧ Has W4 (w.heap.size) (arr .u16 256 f) 23 ∧ Has W4 (w.heap.size + 1) (arr .u16 256 g) 23 ∧ Has W4 bA (arr .i64 256 f) 25 ∧ Has W4 w3.heap.size (arr .i64 256 g) 25 ∧ Below w.heap.size w W4 ∧ w3.heap.size + 1 ≤ W4.heap.size :=
    ⟨_, rfl, (d0.alloc _).row_other _ _ (by omega), (d1.alloc _).row_other _ _ (by omega), (d2.alloc _).row_other _ _ (by omega), (Has.new _ _ _).row _, Below.setRow (db.alloc (by omega) _) _ (by omega) _, by rw [setRow_size, World.size_alloc]; omega⟩
  rw [← hW4]
  clear hW4 d0 d1 d2 db
  generalize w3.heap.size = bB at *
  cases b1
  · clear P1 P2 hb1 hb2 HF HG e0 e1 e2 e3
    go_quiet (fail)
    go_wp2
    go_ret
    exact ⟨rfl, eb.os, eb.tape, eb.output, eb.size, eb.block⟩
  cases b2
  · clear P1 P2 hb1 hb2 HF HG e0 e1 e2 e3
    go_quiet (fail)
    go_wp2
    go_ret
    exact ⟨rfl, eb.os, eb.tape, eb.output, eb.size, eb.block⟩
  have hf' : ∀ i, i < 256 → 0 ≤ f i ∧ f i < 3329 := fun i hi => ⟨(HF.out i hi).1, hb1.yes i hi⟩
  have hg' : ∀ i, i < 256 → 0 ≤ g i ∧ g i < 3329 := fun i hi => ⟨(HG.out i hi).1, hb2.yes i hi⟩
  have C1 := Lib.hid fun W => implNTTAdd_any f g W hf' hg'
  have C2 := Lib.hid fun W => specPlus_any f g W hf' hg'
  have C3 := Lib.hid fun W => is_yes (fun i => (f i + g i) % 3329) (fun i => (f i + g i) % 3329) W (fun i hi => by have := hf' i hi; have := hg' i hi; omega) (fun _ _ => rfl)
  clear P1 P2 hb1 hb2 HF HG hf' hg'
  refine wp_region_quiet (C := fun w' => Below (bB + 1) W4 w') (by kernel_rfl) (by kernel_rfl) (Below.refl _ _).drew ?_
  refine quiet_val rfl (.bool true) (fun _ => rfl) ?_
  simp only [Act.put, List.setIfInBounds_toArray, List.set_cons_succ, List.set_cons_zero]
  refine quiet_val rfl (.bool false) (fun _ => rfl) ?_
  simp only [Act.put, List.setIfInBounds_toArray, List.set_cons_succ, List.set_cons_zero]
  refine quiet_val rfl (.bool false) (fun _ => rfl) ?_
  simp only [Act.put, List.setIfInBounds_toArray, List.set_cons_succ, List.set_cons_zero]
  refine quiet_val rfl (.bool true) (fun _ => rfl) ?_
  simp only [Act.put, List.setIfInBounds_toArray, List.set_cons_succ, List.set_cons_zero]
  refine quiet_val rfl (.bool false) (fun _ => rfl) ?_
  simp only [Act.put, List.setIfInBounds_toArray, List.set_cons_succ, List.set_cons_zero]
  refine quiet_val rfl (.bool false) (fun _ => rfl) ?_
  simp only [Act.put, List.setIfInBounds_toArray, List.set_cons_succ, List.set_cons_zero]
  refine quiet_val rfl (.bool false) (fun _ => rfl) ?_
  simp only [Act.put, List.setIfInBounds_toArray, List.set_cons_succ, List.set_cons_zero]
  refine quiet_ld rfl 23 _ rfl (w.heap.size) rfl 23 .u16 256 _ _ (fun w' hc => (e0.below hc (by omega)).out) Try.underlying23 size23 ?_
  simp only [Act.put, List.setIfInBounds_toArray, List.set_cons_succ, List.set_cons_zero]
  refine quiet_ld rfl 23 _ rfl (w.heap.size + 1) rfl 23 .u16 256 _ _ (fun w' hc => (e1.below hc (by omega)).out) Try.underlying23 size23 ?_
  simp only [Act.put, List.setIfInBounds_toArray, List.set_cons_succ, List.set_cons_zero]
  refine quiet_call rfl 8 #[.agg (arr .u16 256 f), .agg (arr .u16 256 g)] _ (fun _ => by go_simp) (fun w' hc => quiet_of_any (C1.out w') hc es) ?_
  simp only [Act.put, List.setIfInBounds_toArray, List.set_cons_succ, List.set_cons_zero]
  refine quiet_ld rfl 25 _ rfl bA rfl 25 .i64 256 _ _ (fun w' hc => (e2.below hc (by omega)).out) Try.underlying25 size25 ?_
  simp only [Act.put, List.setIfInBounds_toArray, List.set_cons_succ, List.set_cons_zero]
  refine quiet_ld rfl 25 _ rfl bB rfl 25 .i64 256 _ _ (fun w' hc => (e3.below hc (by omega)).out) Try.underlying25 size25 ?_
  simp only [Act.put, List.setIfInBounds_toArray, List.set_cons_succ, List.set_cons_zero]
  refine quiet_call rfl 9 #[.agg (arr .i64 256 f), .agg (arr .i64 256 g)] _ (fun _ => by go_simp) (fun w' hc => quiet_of_any (C2.out w') hc es) ?_
  simp only [Act.put, List.setIfInBounds_toArray, List.set_cons_succ, List.set_cons_zero]
  refine quiet_call rfl 7 #[.agg (arr .u16 256 fun i => (f i + g i) % 3329), .agg (arr .i64 256 fun i => (f i + g i) % 3329)] _ (fun _ => by go_simp) (fun w' hc => quiet_of_any (C3.out w') hc es) ?_
  simp only [Act.put, List.setIfInBounds_toArray, List.set_cons_succ, List.set_cons_zero]
  refine quiet_val rfl (.bool true) (fun _ => rfl) ?_
  simp only [Act.put, List.setIfInBounds_toArray, List.set_cons_succ, List.set_cons_zero]
  refine quiet_val rfl (.bool true) (fun _ => rfl) ?_
  simp only [Act.put, List.setIfInBounds_toArray, List.set_cons_succ, List.set_cons_zero]
  refine wpQuiet_nil ?_
  intro w5 hc
  have db := eb.trans (hc.mono (by omega))
  clear hc C1 C2 C3
  go_wp2
  go_ret
  exact ⟨rfl, db⟩

set_option maxRecDepth 100000 in
theorem lifted (os : Os) (started : os.Started) (H : Type) (enc : TypeId × Value → H) :
    ReturnsInHanded {} Try.checked os 3 .any (Rows.fnNTTAddSpec.pre6 enc Try.prog Try.f3 Rows.fnNTTAddRow.domain false) (Rows.fnNTTAddSpec.post enc Try.prog Try.f3 false true false false) := by
  refine returnsInHanded_of_change (C := Try.checked) own started (by kernel_rfl) Try.func3
    (ChangeSpec.witness6 (enc := enc) (C := Try.checked) false ⟨#[], #[.agg (Array.replicate 256 (.int .u16 0)), .agg (Array.replicate 256 (.int .u16 0))], []⟩ 8 (by kernel_rfl) (by kernel_rfl) (by kernel_rfl) (by kernel_rfl)) ?_
  intro W base args ds gs before hval0 hW hcnd _
  have hval : ∀ (j : Nat) t v, Try.f3.params[j]? = some t → args[j]? = some v → Value.okWide Try.prog W .any base t v := hval0
  have hW' := hW
  obtain ⟨p, q, hA0, hV, rfl, hfz, hnd⟩ := hW
  have hA : DataW.TrodAll enc Try.prog W 0 (fun _ => true) true Try.f3.params.toList args.toList ds p := hA0
  rw [Try.params3] at hA hval
  obtain ⟨v0, vs0, d0, ds0, p0, q0, hargs, rfl, rfl, h0, r0⟩ := trodAll_cons hA
  obtain ⟨v1, vs1, d1, ds1, p1, q1, rfl, rfl, rfl, h1, r1⟩ := trodAll_cons r0
  obtain ⟨rfl, rfl, rfl⟩ := trodAll_nil r1
  obtain rfl : args = #[v0, v1] := by cases args; simp_all
  obtain ⟨rfl, rfl⟩ := trodVars_none hV
  have k0 := h0
  have lt0 : ∀ x ∈ p0, x.block < W.heap.size := by obtain ⟨m, hm⟩ := k0; exact DataW.trod_lt m _ _ _ hm
  obtain ⟨g0, rfl, w0⟩ := open_arr Try.underlying23 Try.underlying22 (by kernel_rfl) (by kernel_rfl) (hval 0 23 v0 rfl rfl) h0
  have k1 := h1
  have lt1 : ∀ x ∈ p1, x.block < W.heap.size := by obtain ⟨m, hm⟩ := k1; exact DataW.trod_lt m _ _ _ hm
  obtain ⟨g1, rfl, w1⟩ := open_arr Try.underlying23 Try.underlying22 (by kernel_rfl) (by kernel_rfl) (hval 1 23 v1 rfl rfl) h1
  clear hA0 hval0
  refine (walk g0 g1 W (fun i hi => bounds_u16 (w0 i hi)) (fun i hi => bounds_u16 (w1 i hi))).mono fun e W' ⟨he, bel⟩ => ?_
  subst he
  exact ⟨_, rfl, _, _, _, [], _, [], hW', trodAll_mk1 (shut_bool Try.underlying4 _), (trodAll_cons_mk (Below.trod laidOut (by kernel_rfl) (of_decide_eq_true (by kernel_rfl)) k0 bel lt0) (trodAll_cons_mk (Below.trod laidOut (by kernel_rfl) (of_decide_eq_true (by kernel_rfl)) k1 bel lt1) trodAll_mk0)), rfl, bel.frame _, fun h => by cases h⟩

theorem over : Rows.fnNTTAddRow.holds Try.pinned (OpenSpec.ofChange Rows.fnNTTAddSpec) :=
  OpenClaim.holds_of_wide 3 Try.f3 rfl rfl rfl rfl rfl rfl rfl ⟨rfl, rfl, rfl, rfl, rfl⟩ rfl rfl rfl rfl rfl (by kernel_rfl) Try.func3 (by kernel_rfl)
    (of_decide_eq_true (by kernel_rfl)) (by unfold Func.isWrapper; first | (rw [if_pos (by decide +kernel)]; kernel_rfl) | (rw [if_neg (by decide +kernel)]; exact ⟨rfl, rfl⟩))
    (fun os started H enc _ => lifted os started H enc)

/-- THE STATEMENT. -/
theorem proved : Rows.FnNTTAddSaid := over
#print axioms proved
end Go.Proofs.Ytcglkelhklihgaa.fnNTTAdd
