/-
  ByteEncode gives the bytes of 12 bits a number, for numbers below 3329 (the law 'FnByteEncode' returns true for every input); no further condition.
-/
import Derived.Test.YtghngfeacpamhaaRows
import Derived.Test.YtghngfeacpamhaaAsk
import Derived.Test.YtghngfeacpamhaaBye
import Derived.Test.YtghngfeacpamhaaEnc
import Derived.Test.YtghngfeacpamhaaHeld
import Derived.Test.YtghngfeacpamhaaOpen
import Derived.Lib.Hide
namespace Go.Proofs.Ytghngfeacpamhaa.fnByteEncode
open Go.ChangeShapes Go.WideShapes Go.ChangeAt Go.RowKit


theorem own : ownKnob Try.prog.godebug = none := by kernel_rfl
theorem laidOut : laidOutB Try.prog = true := by kernel_rfl
set_option maxRecDepth 100000 in
set_option maxHeartbeats 1000000 in
theorem walk (f : Nat → Int) (w : World) (hf : ∀ i, i < 256 → 0 ≤ f i ∧ f i ≤ 65535) :
    Calls Try.prog 3 #[.agg (arr .u16 256 f)] w fun e w' => e = .returned (.bool true) ∧ Below w.heap.size w w' := by
  obtain ⟨b1, hb1⟩ := redB_any f
  have P1 := Lib.hid fun W => poly_any f b1 W hf hb1
  have HF := Lib.hid hf; clear hf
  go_enter Try.func3, Try.ntmps3
  go_wp2_with (refine ld_arr rfl 23 _ rfl (w.heap.size) rfl 23 .u16 256 f _ (Has.new _ _ _).out Try.underlying23 size23 ?_; simp only [Act.put, List.setIfInBounds_toArray, List.set_cons_succ, List.set_cons_zero, World.size_alloc])
  obtain ⟨W, hW, h0, hw, HS⟩ := pack1 w (arr .u16 256 f) 23
  rw [← hW]
  clear hW
  refine (P1.out _).mono ?_
  rintro e w1 ⟨rfl, hb⟩
  have d0 := h0.below hb (by omega)
  have db := hw.trans (hb.mono (by omega))
  have hs1 := hb.size
  have hs2 : w.heap.size + 1 ≤ w1.heap.size := by omega
  clear hb hw HS h0 hs1
  go_wp2_with (first | (refine wpList_alloc_zero rfl 25 rfl _ zero25 ?_; simp only [Act.put, List.setIfInBounds_toArray, List.set_cons_succ, List.set_cons_zero, World.size_alloc]) | (refine st_arr rfl 25 _ _ rfl w1.heap.size rfl .i64 256 f rfl 25 .i64 _ (Has.new _ _ _).out size25 ?_; simp only [Act.put, List.setIfInBounds_toArray, List.set_cons_succ, List.set_cons_zero, World.size_alloc]))
  obtain ⟨W4, hW2, e0, e2, eb, es⟩ : ∃ W2, W2 = (w1.alloc (.cells (arr .i64 256 fun _ => 0) 25)).setRow w1.heap.size (arr .i64 256 f) ∧ Has W2 (w.heap.size) (arr .u16 256 f) 23 ∧ Has W2 w1.heap.size (arr .i64 256 f) 25 ∧ Below w.heap.size w W2 ∧ w1.heap.size + 1 ≤ W2.heap.size :=
    ⟨_, rfl, (d0.alloc _).row_other _ _ (by omega), (Has.new _ _ _).row _, Below.setRow (db.alloc (by omega) _) _ (by omega) _, by rw [setRow_size, World.size_alloc]; omega⟩
  rw [← hW2]
  clear hW2 d0 db
  generalize w1.heap.size = bA at *
  cases b1
  · clear P1 hb1 HF e0 e2
    go_quiet (fail)
    go_wp2
    go_ret
    exact ⟨rfl, eb.os, eb.tape, eb.output, eb.size, eb.block⟩
  have hf' : ∀ i, i < 256 → 0 ≤ f i ∧ f i < 3329 := fun i hi => ⟨(HF.out i hi).1, hb1.yes i hi⟩
  have C1 := Lib.hid fun W => implByteEncode_any f W (fun i hi => by have := hf' i hi; omega)
  have C2 := Lib.hid fun W => specEncode_any f 12 W (by omega) (by omega) (fun i hi => by have := hf' i hi; omega)
  clear P1 hb1 HF hf'
  refine wp_region_held (S := fun w' => Below (bA + 1) W4 w') (by kernel_rfl) ?_
  have hS : (fun w' => Below (bA + 1) W4 w') W4.drew := (Below.refl (bA + 1) W4).drew
  change wpAnyH _ _ _ _ _ 10 (Array.replicate 10 false) _ W4.drew
  have es' : bA + 1 ≤ W4.drew.heap.size := es
  generalize W4.drew = w4 at *
  refine held_val 0 10 rfl rfl (by kernel_rfl) (by kernel_rfl) (by kernel_rfl) (fun _ _ _ _ h => h) (by kernel_rfl) (.bool true) (fun _ _ => by kernel_rfl) hS ?_
  simp only [Act.put, List.setIfInBounds_toArray, List.set_cons_succ, List.set_cons_zero]
  refine held_val 1 11 rfl rfl (by kernel_rfl) (by kernel_rfl) (by kernel_rfl) (fun _ _ _ _ h => h) (by kernel_rfl) (.bool false) (fun _ _ => by kernel_rfl) hS ?_
  simp only [Act.put, List.setIfInBounds_toArray, List.set_cons_succ, List.set_cons_zero]
  refine held_val 2 12 rfl rfl (by kernel_rfl) (by kernel_rfl) (by kernel_rfl) (fun _ _ _ _ h => h) (by kernel_rfl) (.bool false) (fun _ _ => by kernel_rfl) hS ?_
  simp only [Act.put, List.setIfInBounds_toArray, List.set_cons_succ, List.set_cons_zero]
  refine held_ld 3 13 rfl rfl (by kernel_rfl) (by kernel_rfl) (by kernel_rfl) (fun _ _ _ _ h => h) (by kernel_rfl) 23 _ rfl (w.heap.size) rfl 23 .u16 256 f _ (fun w' hc => (e0.below hc (by omega)).out) Try.underlying23 size23 hS ?_
  simp only [Act.put, List.setIfInBounds_toArray, List.set_cons_succ, List.set_cons_zero]
  refine held_ld 5 15 rfl rfl (by kernel_rfl) (by kernel_rfl) (by kernel_rfl) (fun _ _ _ _ h => h) (by kernel_rfl) 25 _ rfl (bA) rfl 25 .i64 256 f _ (fun w' hc => (e2.below hc (by omega)).out) Try.underlying25 size25 hS ?_
  simp only [Act.put, List.setIfInBounds_toArray, List.set_cons_succ, List.set_cons_zero]
  refine held_call 4 14 rfl rfl (by kernel_rfl) (by kernel_rfl) 14 #[.agg (arr .u16 256 f)] (fun _ => by go_simp) ((C1.out _).mono ?_)
  rintro e w5 ⟨v1, rfl, hv1, hb⟩
  have hS5 : (fun w' => Below (bA + 1) W4 w') w5 := hS.trans (hb.mono es')
  have es5 : bA + 1 ≤ w5.heap.size := Nat.le_trans es' hb.size
  clear hS hb es' C1
  refine ⟨_, rfl, hS5, ?_⟩
  simp only [Act.put, List.setIfInBounds_toArray, List.set_cons_succ, List.set_cons_zero]
  refine held_call 6 16 rfl rfl (by kernel_rfl) (by kernel_rfl) 15 #[.agg (arr .i64 256 f), .int .i64 12] (fun _ => by go_simp) ((C2.out _).mono ?_)
  rintro e w6 ⟨v2, rfl, hv2, hb⟩
  have hS : (fun w' => Below (bA + 1) W4 w') w6 := hS5.trans (hb.mono es5)
  have hv1 := hv1.below hb
  clear hS5 hb es5 C2
  refine ⟨_, rfl, hS, ?_⟩
  simp only [Act.put, List.setIfInBounds_toArray, List.set_cons_succ, List.set_cons_zero]
  refine held_call 7 17 rfl rfl (by kernel_rfl) (by kernel_rfl) 13 #[v1, v2] (fun _ => by go_simp) ((alike_yes v1 v2 384 _ _ _ hv1 hv2 fun _ _ => rfl).mono ?_)
  rintro e w7 ⟨rfl, rfl⟩
  refine ⟨_, rfl, hS, ?_⟩
  simp only [Act.put, List.setIfInBounds_toArray, List.set_cons_succ, List.set_cons_zero]
  refine held_val 8 18 rfl rfl (by kernel_rfl) (by kernel_rfl) (by kernel_rfl) (fun _ _ _ _ h => h) (by kernel_rfl) (.bool true) (fun _ _ => by kernel_rfl) hS ?_
  simp only [Act.put, List.setIfInBounds_toArray, List.set_cons_succ, List.set_cons_zero]
  refine held_val 9 2 rfl rfl (by kernel_rfl) (by kernel_rfl) (by kernel_rfl) (fun _ _ _ _ h => h) (by kernel_rfl) (.bool true) (fun _ _ => by kernel_rfl) hS ?_
  simp only [Act.put, List.setIfInBounds_toArray, List.set_cons_succ, List.set_cons_zero]
  refine wpAnyH_done (by kernel_rfl) ?_ _
  have db := eb.trans (hS.mono (by omega))
  clear hS hv1 hv2
  go_wp2
  go_ret
  exact ⟨rfl, db⟩

set_option maxRecDepth 100000 in
theorem lifted (os : Os) (started : os.Started) (H : Type) (enc : TypeId × Value → H) :
    ReturnsInHanded {} Try.checked os 3 .any (Rows.fnByteEncodeSpec.pre6 enc Try.prog Try.f3 Rows.fnByteEncodeRow.domain false) (Rows.fnByteEncodeSpec.post enc Try.prog Try.f3 false true false false) := by
  refine returnsInHanded_of_change (C := Try.checked) own started (by kernel_rfl) Try.func3
    (ChangeSpec.witness6 (enc := enc) (C := Try.checked) false ⟨#[], #[.agg (Array.replicate 256 (.int .u16 0))], []⟩ 8 (by kernel_rfl) (by kernel_rfl) (by kernel_rfl) (by kernel_rfl)) ?_
  intro W base args ds gs before hval0 hW hcnd _
  have hval : ∀ (j : Nat) t v, Try.f3.params[j]? = some t → args[j]? = some v → Value.okWide Try.prog W .any base t v := hval0
  have hW' := hW
  obtain ⟨p, q, hA0, hV, rfl, hfz, hnd⟩ := hW
  have hA : DataW.TrodAll enc Try.prog W 0 (fun _ => true) true Try.f3.params.toList args.toList ds p := hA0
  rw [Try.params3] at hA hval
  obtain ⟨v0, vs0, d0, ds0, p0, q0, hargs, rfl, rfl, h0, r0⟩ := trodAll_cons hA
  obtain ⟨rfl, rfl, rfl⟩ := trodAll_nil r0
  obtain rfl : args = #[v0] := by cases args; simp_all
  obtain ⟨rfl, rfl⟩ := trodVars_none hV
  have k0 := h0
  have lt0 : ∀ x ∈ p0, x.block < W.heap.size := by obtain ⟨m, hm⟩ := k0; exact DataW.trod_lt m _ _ _ hm
  obtain ⟨g0, rfl, w0⟩ := open_arr Try.underlying23 Try.underlying22 (by kernel_rfl) (by kernel_rfl) (hval 0 23 v0 rfl rfl) h0
  clear hA0 hval0
  refine (walk g0 W (fun i hi => bounds_u16 (w0 i hi))).mono fun e W' ⟨he, bel⟩ => ?_
  subst he
  exact ⟨_, rfl, _, _, _, [], _, [], hW', trodAll_mk1 (shut_bool Try.underlying4 _), (trodAll_cons_mk (Below.trod laidOut (by kernel_rfl) (of_decide_eq_true (by kernel_rfl)) k0 bel lt0) trodAll_mk0), rfl, bel.frame _, fun h => by cases h⟩

theorem over : Rows.fnByteEncodeRow.holds Try.pinned (OpenSpec.ofChange Rows.fnByteEncodeSpec) :=
  OpenClaim.holds_of_wide 3 Try.f3 rfl rfl rfl rfl rfl rfl rfl ⟨rfl, rfl, rfl, rfl, rfl⟩ rfl rfl rfl rfl rfl (by kernel_rfl) Try.func3 (by kernel_rfl)
    (of_decide_eq_true (by kernel_rfl)) (by unfold Func.isWrapper; first | (rw [if_pos (by decide +kernel)]; kernel_rfl) | (rw [if_neg (by decide +kernel)]; exact ⟨rfl, rfl⟩))
    (fun os started H enc _ => lifted os started H enc)

/-- THE STATEMENT. -/
theorem proved : Rows.FnByteEncodeSaid := over
#print axioms proved
end Go.Proofs.Ytghngfeacpamhaa.fnByteEncode
