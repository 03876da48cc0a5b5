/-
  EncodeWidth gives the bytes of d bits a number, compressed, for numbers below 3329 and the widths of ML-KEM (the law 'FnEncodeWidth' returns true for every input); no further condition.
-/
import Derived.Test.YtghngfeacpamhaaRows
import Derived.Test.YtghngfeacpamhaaAsk
import Derived.Test.YtghngfeacpamhaaImw
import Derived.Test.YtghngfeacpamhaaEnc
import Derived.Test.YtghngfeacpamhaaSfa
import Derived.Test.YtghngfeacpamhaaHeld
import Derived.Test.YtghngfeacpamhaaWidth
import Derived.Test.YtghngfeacpamhaaOpen
import Derived.Lib.Hide
namespace Go.Proofs.Ytghngfeacpamhaa.fnEncodeWidth
open Go.ChangeShapes Go.WideShapes Go.ChangeAt Go.RowKit


theorem own : ownKnob Try.prog.godebug = none := by kernel_rfl
theorem laidOut : laidOutB Try.prog = true := by kernel_rfl
theorem width_nat (D : Int) (hD : 0 ≤ D ∧ D ≤ 255) : ∃ K : Nat, (K = 1 ∨ K = 4 ∨ K = 5 ∨ K = 10 ∨ K = 11) ∧ Hid (∀ w, Calls Try.prog 24 #[.int .u8 D] w fun e w' => e = .returned (.int .u8 K) ∧ w = w') := by
  have h : D % 5 = 0 ∨ D % 5 = 1 ∨ D % 5 = 2 ∨ D % 5 = 3 ∨ D % 5 = 4 := by omega
  rcases h with h | h | h | h | h
  · exact ⟨1, by omega, Lib.hid fun w => width_case D w 0 1 hD.1 h (by omega)⟩
  · exact ⟨4, by omega, Lib.hid fun w => width_case D w 1 4 hD.1 h (by omega)⟩
  · exact ⟨5, by omega, Lib.hid fun w => width_case D w 2 5 hD.1 h (by omega)⟩
  · exact ⟨10, by omega, Lib.hid fun w => width_case D w 3 10 hD.1 h (by omega)⟩
  · exact ⟨11, by omega, Lib.hid fun w => width_case D w 4 11 hD.1 h (by omega)⟩
set_option maxRecDepth 100000 in
set_option maxHeartbeats 1000000 in
theorem walk (f : Nat → Int) (D : Int) (w : World) (hf : ∀ i, i < 256 → 0 ≤ f i ∧ f i ≤ 65535) (hD : 0 ≤ D ∧ D ≤ 255) :
    Calls Try.prog 10 #[.agg (arr .u16 256 f), .int .u8 D] w fun e w' => e = .returned (.bool true) ∧ Below w.heap.size w w' := by
  obtain ⟨K, hK5, HW⟩ := width_nat D hD
  have HK := Lib.hid hK5
  have k0 : 1 ≤ K := by omega
  have k1 : K ≤ 11 := by omega
  clear hK5
  obtain ⟨b1, hb1⟩ := redB_any f
  have P1 := Lib.hid fun W => poly_any f b1 W hf hb1
  have HF := Lib.hid hf; clear hf
  go_enter Try.func10, Try.ntmps10
  go_wp2_with (refine ld_arr rfl 23 _ rfl (w.heap.size) rfl 23 .u16 256 f _ (Has.new _ _ _).out Try.underlying23 size23 ?_; simp only [Act.put, List.setIfInBounds_toArray, List.set_cons_succ, List.set_cons_zero, World.size_alloc])
  obtain ⟨W, hW, h0, hw, HS⟩ := pack1 w (arr .u16 256 f) 23
  rw [← hW]
  clear hW
  refine (P1.out _).mono ?_
  rintro e w1 ⟨rfl, hb⟩
  have d0 := h0.below hb (by omega)
  have db := hw.trans (hb.mono (by omega))
  have hs1 := hb.size
  have hs2 : w.heap.size + 1 ≤ w1.heap.size := by omega
  clear hb hw HS h0 hs1
  go_wp2_with (first | (refine wpList_alloc_zero rfl 25 rfl _ zero25 ?_; simp only [Act.put, List.setIfInBounds_toArray, List.set_cons_succ, List.set_cons_zero, World.size_alloc]) | (refine st_arr rfl 25 _ _ rfl w1.heap.size rfl .i64 256 f rfl 25 .i64 _ (Has.new _ _ _).out size25 ?_; simp only [Act.put, List.setIfInBounds_toArray, List.set_cons_succ, List.set_cons_zero, World.size_alloc]))
  obtain ⟨W4, hW2, e0, e2, eb, es⟩ : ∃ W2, W2 = (w1.alloc (.cells (arr .i64 256 fun _ => 0) 25)).setRow w1.heap.size (arr .i64 256 f) ∧ Has W2 (w.heap.size) (arr .u16 256 f) 23 ∧ Has W2 w1.heap.size (arr .i64 256 f) 25 ∧ Below w.heap.size w W2 ∧ w1.heap.size + 1 ≤ W2.heap.size :=
    ⟨_, rfl, (d0.alloc _).row_other _ _ (by omega), (Has.new _ _ _).row _, Below.setRow (db.alloc (by omega) _) _ (by omega) _, by rw [setRow_size, World.size_alloc]; omega⟩
  rw [← hW2]
  clear hW2 d0 db
  generalize w1.heap.size = bA at *
  refine (HW.out _).mono ?_
  rintro e w2 ⟨rfl, rfl⟩
  clear HW
  go_wp2_with fail
  cases b1
  · clear P1 hb1 HF e0 e2
    go_quiet (fail)
    go_wp2
    go_ret
    exact ⟨rfl, eb.os, eb.tape, eb.output, eb.size, eb.block⟩
  have hf' : ∀ i, i < 256 → 0 ≤ f i ∧ f i < 3329 := fun i hi => ⟨(HF.out i hi).1, hb1.yes i hi⟩
  have C1 := Lib.hid fun W => implEncodeWidth_any f K W HK.out hf'
  have C2 := Lib.hid fun W => specCompress_any f K W k0 k1 hf'
  have C3 := Lib.hid fun W => specEncode_any (fun i => cmpr K (f i)) K W k0 (by omega) (fun i hi => by
    have h2 := pow_bd K k0 k1
    have h3 : 0 ≤ cmpr K (f i) ∧ cmpr K (f i) < 2 ^ K := ⟨Int.emod_nonneg _ (by omega), Int.emod_lt_of_pos _ (by omega)⟩
    omega)
  have kc : IntKind.i64.wrap (K : Int) = (K : Int) := IntWalk.i64_in _ (by omega)
  clear P1 hb1 HF hf'
  refine wp_region_held (S := fun w' => Below (bA + 1) W4 w') (by kernel_rfl) ?_
  have hS : (fun w' => Below (bA + 1) W4 w') W4.drew := (Below.refl (bA + 1) W4).drew
  change wpAnyH _ _ _ _ _ 16 (Array.replicate 16 false) _ W4.drew
  have es' : bA + 1 ≤ W4.drew.heap.size := es
  generalize W4.drew = w4 at *
  refine held_val 0 15 rfl rfl (by kernel_rfl) (by kernel_rfl) (by kernel_rfl) (fun _ _ _ _ h => h) (by kernel_rfl) (.bool true) (fun _ _ => by kernel_rfl) hS ?_
  simp only [Act.put, List.setIfInBounds_toArray, List.set_cons_succ, List.set_cons_zero]
  refine held_val 1 16 rfl rfl (by kernel_rfl) (by kernel_rfl) (by kernel_rfl) (fun _ _ _ _ h => h) (by kernel_rfl) (.bool false) (fun _ _ => by kernel_rfl) hS ?_
  simp only [Act.put, List.setIfInBounds_toArray, List.set_cons_succ, List.set_cons_zero]
  refine held_val 2 17 rfl rfl (by kernel_rfl) (by kernel_rfl) (by kernel_rfl) (fun _ _ _ _ h => h) (by kernel_rfl) (.bool false) (fun _ _ => by kernel_rfl) hS ?_
  simp only [Act.put, List.setIfInBounds_toArray, List.set_cons_succ, List.set_cons_zero]
  refine held_ld 3 18 rfl rfl (by kernel_rfl) (by kernel_rfl) (by kernel_rfl) (fun _ _ _ _ h => h) (by kernel_rfl) 23 _ rfl (w.heap.size) rfl 23 .u16 256 f _ (fun w' hc => (e0.below hc (by omega)).out) Try.underlying23 size23 hS ?_
  simp only [Act.put, List.setIfInBounds_toArray, List.set_cons_succ, List.set_cons_zero]
  refine held_val 4 19 rfl rfl (by kernel_rfl) (by kernel_rfl) (by kernel_rfl) (fun _ _ _ _ h => h) (by kernel_rfl) (.int .u8 K) (fun _ _ => by kernel_rfl) hS ?_
  simp only [Act.put, List.setIfInBounds_toArray, List.set_cons_succ, List.set_cons_zero]
  refine held_ld 6 21 rfl rfl (by kernel_rfl) (by kernel_rfl) (by kernel_rfl) (fun _ _ _ _ h => h) (by kernel_rfl) 25 _ rfl (bA) rfl 25 .i64 256 f _ (fun w' hc => (e2.below hc (by omega)).out) Try.underlying25 size25 hS ?_
  simp only [Act.put, List.setIfInBounds_toArray, List.set_cons_succ, List.set_cons_zero]
  refine held_val 7 22 rfl rfl (by kernel_rfl) (by kernel_rfl) (by kernel_rfl) (fun _ _ _ _ h => h) (by kernel_rfl) (.int .u8 K) (fun _ _ => by kernel_rfl) hS ?_
  simp only [Act.put, List.setIfInBounds_toArray, List.set_cons_succ, List.set_cons_zero]
  refine held_val 8 23 rfl rfl (by kernel_rfl) (by kernel_rfl) (by kernel_rfl) (fun _ _ _ _ h => h) (by kernel_rfl) (.int .i64 K) (fun _ _ => by go_simp) hS ?_
  simp only [Act.put, List.setIfInBounds_toArray, List.set_cons_succ, List.set_cons_zero]
  refine held_val 10 25 rfl rfl (by kernel_rfl) (by kernel_rfl) (by kernel_rfl) (fun _ _ _ _ h => h) (by kernel_rfl) (.int .u8 K) (fun _ _ => by kernel_rfl) hS ?_
  simp only [Act.put, List.setIfInBounds_toArray, List.set_cons_succ, List.set_cons_zero]
  refine held_val 11 26 rfl rfl (by kernel_rfl) (by kernel_rfl) (by kernel_rfl) (fun _ _ _ _ h => h) (by kernel_rfl) (.int .i64 K) (fun _ _ => by go_simp) hS ?_
  simp only [Act.put, List.setIfInBounds_toArray, List.set_cons_succ, List.set_cons_zero]
  refine held_call 5 20 rfl rfl (by kernel_rfl) (by kernel_rfl) 26 #[.agg (arr .u16 256 f), .int .u8 K] (fun _ => by go_simp) ((C1.out _).mono ?_)
  rintro e w5 ⟨v1, rfl, hv1, hb⟩
  have hS5 : (fun w' => Below (bA + 1) W4 w') w5 := hS.trans (hb.mono es')
  have es5 : bA + 1 ≤ w5.heap.size := Nat.le_trans es' hb.size
  clear hS hb es' C1
  refine ⟨_, rfl, hS5, ?_⟩
  simp only [Act.put, List.setIfInBounds_toArray, List.set_cons_succ, List.set_cons_zero]
  refine held_call 9 24 rfl rfl (by kernel_rfl) (by kernel_rfl) 22 #[.agg (arr .i64 256 f), .int .i64 K] (fun _ => by go_simp) ((C2.out _).mono ?_)
  rintro e w6 ⟨rfl, hb⟩
  have hS6 : (fun w' => Below (bA + 1) W4 w') w6 := hS5.trans (hb.mono es5)
  have es6 : bA + 1 ≤ w6.heap.size := Nat.le_trans es5 hb.size
  have hv1 := hv1.below hb
  clear hS5 hb es5 C2
  refine ⟨_, rfl, hS6, ?_⟩
  simp only [Act.put, List.setIfInBounds_toArray, List.set_cons_succ, List.set_cons_zero]
  refine held_call 12 27 rfl rfl (by kernel_rfl) (by kernel_rfl) 15 #[.agg (arr .i64 256 fun i => cmpr K (f i)), .int .i64 K] (fun _ => by go_simp) ((C3.out _).mono ?_)
  rintro e w7 ⟨v2, rfl, hv2, hb⟩
  have hS : (fun w' => Below (bA + 1) W4 w') w7 := hS6.trans (hb.mono es6)
  have hv1 := hv1.below hb
  clear hS6 hb es6 C3
  refine ⟨_, rfl, hS, ?_⟩
  simp only [Act.put, List.setIfInBounds_toArray, List.set_cons_succ, List.set_cons_zero]
  refine held_call 13 28 rfl rfl (by kernel_rfl) (by kernel_rfl) 13 #[v1, v2] (fun _ => by go_simp) ((alike_yes v1 v2 (32 * K) _ _ _ hv1 hv2 fun _ _ => rfl).mono ?_)
  rintro e w8 ⟨rfl, rfl⟩
  refine ⟨_, rfl, hS, ?_⟩
  simp only [Act.put, List.setIfInBounds_toArray, List.set_cons_succ, List.set_cons_zero]
  refine held_val 14 29 rfl rfl (by kernel_rfl) (by kernel_rfl) (by kernel_rfl) (fun _ _ _ _ h => h) (by kernel_rfl) (.bool true) (fun _ _ => by kernel_rfl) hS ?_
  simp only [Act.put, List.setIfInBounds_toArray, List.set_cons_succ, List.set_cons_zero]
  refine held_val 15 4 rfl rfl (by kernel_rfl) (by kernel_rfl) (by kernel_rfl) (fun _ _ _ _ h => h) (by kernel_rfl) (.bool true) (fun _ _ => by kernel_rfl) hS ?_
  simp only [Act.put, List.setIfInBounds_toArray, List.set_cons_succ, List.set_cons_zero]
  refine wpAnyH_done (by kernel_rfl) ?_ _
  have db := eb.trans (hS.mono (by omega))
  clear hS hv1 hv2
  go_wp2
  go_ret
  exact ⟨rfl, db⟩

set_option maxRecDepth 100000 in
theorem lifted (os : Os) (started : os.Started) (H : Type) (enc : TypeId × Value → H) :
    ReturnsInHanded {} Try.checked os 10 .any (Rows.fnEncodeWidthSpec.pre6 enc Try.prog Try.f10 Rows.fnEncodeWidthRow.domain false) (Rows.fnEncodeWidthSpec.post enc Try.prog Try.f10 false true false false) := by
  refine returnsInHanded_of_change (C := Try.checked) own started (by kernel_rfl) Try.func10
    (ChangeSpec.witness6 (enc := enc) (C := Try.checked) false ⟨#[], #[.agg (Array.replicate 256 (.int .u16 0)), .int .u8 0], []⟩ 8 (by kernel_rfl) (by kernel_rfl) (by kernel_rfl) (by kernel_rfl)) ?_
  intro W base args ds gs before hval0 hW hcnd _
  have hval : ∀ (j : Nat) t v, Try.f10.params[j]? = some t → args[j]? = some v → Value.okWide Try.prog W .any base t v := hval0
  have hW' := hW
  obtain ⟨p, q, hA0, hV, rfl, hfz, hnd⟩ := hW
  have hA : DataW.TrodAll enc Try.prog W 0 (fun _ => true) true Try.f10.params.toList args.toList ds p := hA0
  rw [Try.params10] at hA hval
  obtain ⟨v0, vs0, d0, ds0, p0, q0, hargs, rfl, rfl, h0, r0⟩ := trodAll_cons hA
  obtain ⟨v1, vs1, d1, ds1, p1, q1, rfl, rfl, rfl, h1, r1⟩ := trodAll_cons r0
  obtain ⟨rfl, rfl, rfl⟩ := trodAll_nil r1
  obtain rfl : args = #[v0, v1] := by cases args; simp_all
  obtain ⟨rfl, rfl⟩ := trodVars_none hV
  have k0 := h0
  have lt0 : ∀ x ∈ p0, x.block < W.heap.size := by obtain ⟨m, hm⟩ := k0; exact DataW.trod_lt m _ _ _ hm
  obtain ⟨g0, rfl, w0⟩ := open_arr Try.underlying23 Try.underlying22 (by kernel_rfl) (by kernel_rfl) (hval 0 23 v0 rfl rfl) h0
  have k1 := h1
  have lt1 : ∀ x ∈ p1, x.block < W.heap.size := by obtain ⟨m, hm⟩ := k1; exact DataW.trod_lt m _ _ _ hm
  obtain ⟨g1, rfl, _, _, w1⟩ := open_int Try.underlying5 (hval 1 5 v1 rfl rfl) h1
  clear hA0 hval0
  refine (walk g0 g1 W (fun i hi => bounds_u16 (w0 i hi)) (bounds_u8 w1)).mono fun e W' ⟨he, bel⟩ => ?_
  subst he
  exact ⟨_, rfl, _, _, _, [], _, [], hW', trodAll_mk1 (shut_bool Try.underlying4 _), (trodAll_cons_mk (Below.trod laidOut (by kernel_rfl) (of_decide_eq_true (by kernel_rfl)) k0 bel lt0) (trodAll_cons_mk (Below.trod laidOut (by kernel_rfl) (of_decide_eq_true (by kernel_rfl)) k1 bel lt1) trodAll_mk0)), rfl, bel.frame _, fun h => by cases h⟩

theorem over : Rows.fnEncodeWidthRow.holds Try.pinned (OpenSpec.ofChange Rows.fnEncodeWidthSpec) :=
  OpenClaim.holds_of_wide 10 Try.f10 rfl rfl rfl rfl rfl rfl rfl ⟨rfl, rfl, rfl, rfl, rfl⟩ rfl rfl rfl rfl rfl (by kernel_rfl) Try.func10 (by kernel_rfl)
    (of_decide_eq_true (by kernel_rfl)) (by unfold Func.isWrapper; first | (rw [if_pos (by decide +kernel)]; kernel_rfl) | (rw [if_neg (by decide +kernel)]; exact ⟨rfl, rfl⟩))
    (fun os started H enc _ => lifted os started H enc)

/-- THE STATEMENT. -/
theorem proved : Rows.FnEncodeWidthSaid := over
#print axioms proved
end Go.Proofs.Ytghngfeacpamhaa.fnEncodeWidth
