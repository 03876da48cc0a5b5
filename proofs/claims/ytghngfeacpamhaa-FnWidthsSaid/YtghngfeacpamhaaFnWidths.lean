/-
  EncodeWidth and DecodeWidth write and read what Encode and Decode do, for numbers below 3329 (the law 'FnWidths' returns true for every input); no further condition.
-/
import Derived.Test.YtghngfeacpamhaaRows
import Derived.Test.YtghngfeacpamhaaAsk
import Derived.Test.YtghngfeacpamhaaImw
import Derived.Test.YtghngfeacpamhaaImc
import Derived.Test.YtghngfeacpamhaaSfa
import Derived.Test.YtghngfeacpamhaaHeld
import Derived.Test.YtghngfeacpamhaaWidth
import Derived.Test.YtghngfeacpamhaaEq
import Derived.Test.YtghngfeacpamhaaOpen
import Derived.Lib.Hide
namespace Go.Proofs.Ytghngfeacpamhaa.fnWidths
open Go.ChangeShapes Go.WideShapes Go.ChangeAt Go.RowKit


theorem own : ownKnob Try.prog.godebug = none := by kernel_rfl
theorem laidOut : laidOutB Try.prog = true := by kernel_rfl
theorem RedB_of (g : Nat → Int) (h : ∀ i, i < 256 → g i < 3329) : RedB g true := ⟨.inl ⟨rfl, h⟩⟩
theorem red_any (g : Nat → Int) (bb : Bool) (b : Nat) (t : TypeId) (w : World) (h : Has w b (arr .u16 256 g) t) (hb : RedB g bb) :
    Calls Try.prog 23 #[.slice (some ⟨b, 0, none⟩) 256 256] w fun e w' => e = .returned (.bool bb) ∧ w = w' := by
  have hc : ∀ i, i < 256 → w.cell? ⟨b, 0 + i, none⟩ = some (.int .u16 (g i)) := fun i hi => by rw [Nat.zero_add]; exact h.cell i hi
  rcases hb.out with ⟨rfl, hr⟩ | ⟨rfl, j, hj, hr⟩
  · exact reduced_yes g b 0 256 256 w (by omega) hc hr
  · exact reduced_no g b 0 256 256 w (by omega) hc j hj hr
theorem width_nat (D : Int) (hD : 0 ≤ D ∧ D ≤ 255) : ∃ K : Nat, (K = 1 ∨ K = 4 ∨ K = 5 ∨ K = 10 ∨ K = 11) ∧ Hid (∀ w, Calls Try.prog 24 #[.int .u8 D] w fun e w' => e = .returned (.int .u8 K) ∧ w = w') := by
  have h : D % 5 = 0 ∨ D % 5 = 1 ∨ D % 5 = 2 ∨ D % 5 = 3 ∨ D % 5 = 4 := by omega
  rcases h with h | h | h | h | h
  · exact ⟨1, by omega, Lib.hid fun w => width_case D w 0 1 hD.1 h (by omega)⟩
  · exact ⟨4, by omega, Lib.hid fun w => width_case D w 1 4 hD.1 h (by omega)⟩
  · exact ⟨5, by omega, Lib.hid fun w => width_case D w 2 5 hD.1 h (by omega)⟩
  · exact ⟨10, by omega, Lib.hid fun w => width_case D w 3 10 hD.1 h (by omega)⟩
  · exact ⟨11, by omega, Lib.hid fun w => width_case D w 4 11 hD.1 h (by omega)⟩
set_option maxRecDepth 100000 in
set_option maxHeartbeats 1000000 in
theorem walk (f : Nat → Int) (D : Int) (w : World) (hf : ∀ i, i < 256 → 0 ≤ f i ∧ f i ≤ 65535) (hD : 0 ≤ D ∧ D ≤ 255) :
    Calls Try.prog 11 #[.agg (arr .u16 256 f), .int .u8 D] w fun e w' => e = .returned (.bool true) ∧ Below w.heap.size w w' := by
  obtain ⟨K, hK5, HW⟩ := width_nat D hD
  have HK := Lib.hid hK5
  have k0 : 1 ≤ K := by omega
  have k1 : K ≤ 11 := by omega
  clear hK5
  obtain ⟨b1, hb1⟩ := redB_any f
  have HF := Lib.hid hf; clear hf
  go_enter Try.func11, Try.ntmps11
  go_wp2_with fail
  obtain ⟨W, hW, h0, hw, HS⟩ := pack1 w (arr .u16 256 f) 23
  rw [← hW]
  clear hW
  refine (red_any f b1 _ 23 _ h0 hb1).mono ?_
  rintro e w1 ⟨rfl, rfl⟩
  cases b1
  · clear HW
    go_wp2
    go_ret
    exact ⟨rfl, hw⟩
  have hf' : ∀ i, i < 256 → 0 ≤ f i ∧ f i < 3329 := fun i hi => ⟨(HF.out i hi).1, hb1.yes i hi⟩
  have BB : ∀ i, i < 32 * K → 0 ≤ byt (strm (fun i => cmpr K (f i)) K) i ∧ byt (strm (fun i => cmpr K (f i)) K) i < 256 := fun i _ => byt_bd _ (strm_bd _ K) i
  have C1 := Lib.hid fun W => implEncodeWidth_any f K W HK.out hf'
  have C2 := Lib.hid fun W v hv => implDecodeWidth_any v (byt (strm (fun i => cmpr K (f i)) K)) K W HK.out hv BB
  have C3 := Lib.hid fun W => implEncode_any f K W k0 k1 hf'
  have C4 := Lib.hid fun W v hv => implDecode_any v (byt (strm (fun i => cmpr K (f i)) K)) K W k0 k1 hv BB
  clear HF hb1 hf' BB HK
  go_wp2_with fail
  refine (HW.out _).mono ?_
  rintro e w1 ⟨rfl, rfl⟩
  clear HW
  go_wp2_with (refine ld_arr rfl 23 _ rfl (w.heap.size) rfl 23 .u16 256 f _ h0.out Try.underlying23 size23 ?_; simp only [Act.put, List.setIfInBounds_toArray, List.set_cons_succ, List.set_cons_zero, World.size_alloc])
  refine (C1.out _).mono ?_
  rintro e w1 ⟨v, rfl, hv, hb⟩
  have d0 := h0.below hb h0.lt
  have db := hw.trans (hb.mono hw.size)
  clear hb hw h0 C1 HS
  go_wp2_with fail
  refine (C2.out _ v hv).mono ?_
  rintro e w2 ⟨rfl, hb⟩
  have e0 := d0.below hb d0.lt
  have eb := db.trans (hb.mono db.size)
  have hv2 := hv.below hb
  clear hb db d0 C2 hv
  go_wp2_with (first | (refine wpList_alloc_zero rfl 23 rfl _ zero23 ?_; simp only [Act.put, List.setIfInBounds_toArray, List.set_cons_succ, List.set_cons_zero, World.size_alloc]) | (refine st_arr rfl 23 _ _ rfl w2.heap.size rfl .u16 256 _ rfl 23 .u16 _ (Has.new _ _ _).out size23 ?_; simp only [Act.put, List.setIfInBounds_toArray, List.set_cons_succ, List.set_cons_zero, World.size_alloc]))
  obtain ⟨W4, hW4, f0, f1, fb, hv4⟩ : ∃ W4, W4 = (w2.alloc (.cells (arr .u16 256 fun _ => 0) 23)).setRow w2.heap.size (arr .u16 256 (fun i => dcmp K (dig (strm (byt (strm (fun i => cmpr K (f i)) K)) 8) K i))) ∧ Has W4 (w.heap.size) (arr .u16 256 f) 23 ∧ Has W4 w2.heap.size (arr .u16 256 (fun i => dcmp K (dig (strm (byt (strm (fun i => cmpr K (f i)) K)) 8) K i))) 23 ∧ Below w.heap.size w W4 ∧ Bys W4 v (32 * K) (byt (strm (fun i => cmpr K (f i)) K)) :=
    ⟨_, rfl, (e0.alloc _).row_other _ _ (Nat.ne_of_lt e0.lt), (Has.new _ _ _).row _, Below.setRow (eb.alloc eb.size _) _ eb.size _, hv2.below (Below.setRow ((Below.refl _ _).alloc (Nat.le_refl _) _) _ (Nat.le_refl _) _)⟩
  rw [← hW4]
  clear hW4 e0 eb hv2
  generalize w2.heap.size = bG at *
  obtain ⟨b, off, cap, rfl, hcap, hcells⟩ := hv4.out
  clear hcells
  have kc : IntKind.i64.wrap (K : Int) = (K : Int) := IntWalk.i64_in _ (by omega)
  have kd : IntKind.i64.wrap (32 * (K : Int)) = 32 * (K : Int) := IntWalk.i64_in _ (by omega)
  have l0 := f0.lt
  have l1 := f1.lt
  refine wp_region_held (S := fun w' => Below W4.heap.size W4 w') (by kernel_rfl) ?_
  have hS : (fun w' => Below W4.heap.size W4 w') W4.drew := (Below.refl W4.heap.size W4).drew
  change wpAnyH _ _ _ _ _ 24 (Array.replicate 24 false) _ W4.drew
  generalize W4.drew = w4 at *
  refine held_val 0 23 rfl rfl (by kernel_rfl) (by kernel_rfl) (by kernel_rfl) (fun _ _ _ _ h => h) (by kernel_rfl) (.bool true) (fun _ _ => by kernel_rfl) hS ?_
  simp only [Act.put, List.setIfInBounds_toArray, List.set_cons_succ, List.set_cons_zero]
  refine held_val 1 24 rfl rfl (by kernel_rfl) (by kernel_rfl) (by kernel_rfl) (fun _ _ _ _ h => h) (by kernel_rfl) (.bool true) (fun _ _ => by kernel_rfl) hS ?_
  simp only [Act.put, List.setIfInBounds_toArray, List.set_cons_succ, List.set_cons_zero]
  refine held_val 2 25 rfl rfl (by kernel_rfl) (by kernel_rfl) (by kernel_rfl) (fun _ _ _ _ h => h) (by kernel_rfl) (.slice (some ⟨b, off, none⟩) (32 * K) cap) (fun _ _ => by kernel_rfl) hS ?_
  simp only [Act.put, List.setIfInBounds_toArray, List.set_cons_succ, List.set_cons_zero]
  refine held_val 3 26 rfl rfl (by kernel_rfl) (by kernel_rfl) (by kernel_rfl) (fun _ _ _ _ h => h) (by kernel_rfl) (.int .i64 (32 * (K : Int))) (fun _ _ => by go_simp) hS ?_
  simp only [Act.put, List.setIfInBounds_toArray, List.set_cons_succ, List.set_cons_zero]
  refine held_val 4 27 rfl rfl (by kernel_rfl) (by kernel_rfl) (by kernel_rfl) (fun _ _ _ _ h => h) (by kernel_rfl) (.int .u8 K) (fun _ _ => by kernel_rfl) hS ?_
  simp only [Act.put, List.setIfInBounds_toArray, List.set_cons_succ, List.set_cons_zero]
  refine held_val 5 28 rfl rfl (by kernel_rfl) (by kernel_rfl) (by kernel_rfl) (fun _ _ _ _ h => h) (by kernel_rfl) (.int .i64 K) (fun _ _ => by go_simp) hS ?_
  simp only [Act.put, List.setIfInBounds_toArray, List.set_cons_succ, List.set_cons_zero]
  refine held_val 6 29 rfl rfl (by kernel_rfl) (by kernel_rfl) (by kernel_rfl) (fun _ _ _ _ h => h) (by kernel_rfl) (.int .i64 (32 * (K : Int))) (fun _ _ => by go_simp) hS ?_
  simp only [Act.put, List.setIfInBounds_toArray, List.set_cons_succ, List.set_cons_zero]
  refine held_val 7 30 rfl rfl (by kernel_rfl) (by kernel_rfl) (by kernel_rfl) (fun _ _ _ _ h => h) (by kernel_rfl) (.bool true) (fun _ _ => by go_simp) hS ?_
  simp only [Act.put, List.setIfInBounds_toArray, List.set_cons_succ, List.set_cons_zero]
  refine held_val 8 31 rfl rfl (by kernel_rfl) (by kernel_rfl) (by kernel_rfl) (fun _ _ _ _ h => h) (by kernel_rfl) (.bool true) (fun _ _ => by kernel_rfl) hS ?_
  simp only [Act.put, List.setIfInBounds_toArray, List.set_cons_succ, List.set_cons_zero]
  refine held_val 9 32 rfl rfl (by kernel_rfl) (by kernel_rfl) (by kernel_rfl) (fun _ _ _ _ h => h) (by kernel_rfl) (.bool true) (fun _ _ => by kernel_rfl) hS ?_
  simp only [Act.put, List.setIfInBounds_toArray, List.set_cons_succ, List.set_cons_zero]
  refine held_ld 10 33 rfl rfl (by kernel_rfl) (by kernel_rfl) (by kernel_rfl) (fun _ _ _ _ h => h) (by kernel_rfl) 23 _ rfl (w.heap.size) rfl 23 .u16 256 f _ (fun w' hc => (f0.below hc (by omega)).out) Try.underlying23 size23 hS ?_
  simp only [Act.put, List.setIfInBounds_toArray, List.set_cons_succ, List.set_cons_zero]
  refine held_val 11 34 rfl rfl (by kernel_rfl) (by kernel_rfl) (by kernel_rfl) (fun _ _ _ _ h => h) (by kernel_rfl) (.int .u8 K) (fun _ _ => by kernel_rfl) hS ?_
  simp only [Act.put, List.setIfInBounds_toArray, List.set_cons_succ, List.set_cons_zero]
  refine held_val 13 36 rfl rfl (by kernel_rfl) (by kernel_rfl) (by kernel_rfl) (fun _ _ _ _ h => h) (by kernel_rfl) (.slice (some ⟨b, off, none⟩) (32 * K) cap) (fun _ _ => by kernel_rfl) hS ?_
  simp only [Act.put, List.setIfInBounds_toArray, List.set_cons_succ, List.set_cons_zero]
  refine held_call 12 35 rfl rfl (by kernel_rfl) (by kernel_rfl) 21 #[.agg (arr .u16 256 f), .int .u8 K] (fun _ => by go_simp) ((C3.out _).mono ?_)
  rintro e w5 ⟨v2, rfl, hv2, hb⟩
  have hS5 : (fun w' => Below W4.heap.size W4 w') w5 := hS.trans (hb.mono hS.size)
  clear hS hb C3
  refine ⟨_, rfl, hS5, ?_⟩
  simp only [Act.put, List.setIfInBounds_toArray, List.set_cons_succ, List.set_cons_zero]
  have hv5 := hv4.below hS5
  refine held_call 14 37 rfl rfl (by kernel_rfl) (by kernel_rfl) 13 #[v2, .slice (some ⟨b, off, none⟩) (32 * K) cap] (fun _ => by go_simp) ((alike_yes v2 (.slice (some ⟨b, off, none⟩) (32 * K) cap) (32 * K) _ _ _ hv2 hv5 fun _ _ => rfl).mono ?_)
  rintro e w8 ⟨rfl, rfl⟩
  refine ⟨_, rfl, hS5, ?_⟩
  simp only [Act.put, List.setIfInBounds_toArray, List.set_cons_succ, List.set_cons_zero]
  have hS := hS5
  clear hS5 hv2
  refine held_val 15 38 rfl rfl (by kernel_rfl) (by kernel_rfl) (by kernel_rfl) (fun _ _ _ _ h => h) (by kernel_rfl) (.bool true) (fun _ _ => by kernel_rfl) hS ?_
  simp only [Act.put, List.setIfInBounds_toArray, List.set_cons_succ, List.set_cons_zero]
  refine held_val 16 39 rfl rfl (by kernel_rfl) (by kernel_rfl) (by kernel_rfl) (fun _ _ _ _ h => h) (by kernel_rfl) (.bool true) (fun _ _ => by kernel_rfl) hS ?_
  simp only [Act.put, List.setIfInBounds_toArray, List.set_cons_succ, List.set_cons_zero]
  refine held_val 17 40 rfl rfl (by kernel_rfl) (by kernel_rfl) (by kernel_rfl) (fun _ _ _ _ h => h) (by kernel_rfl) (.slice (some ⟨b, off, none⟩) (32 * K) cap) (fun _ _ => by kernel_rfl) hS ?_
  simp only [Act.put, List.setIfInBounds_toArray, List.set_cons_succ, List.set_cons_zero]
  refine held_val 18 41 rfl rfl (by kernel_rfl) (by kernel_rfl) (by kernel_rfl) (fun _ _ _ _ h => h) (by kernel_rfl) (.int .u8 K) (fun _ _ => by kernel_rfl) hS ?_
  simp only [Act.put, List.setIfInBounds_toArray, List.set_cons_succ, List.set_cons_zero]
  refine held_ld 20 43 rfl rfl (by kernel_rfl) (by kernel_rfl) (by kernel_rfl) (fun _ _ _ _ h => h) (by kernel_rfl) 23 _ rfl (bG) rfl 23 .u16 256 (fun i => dcmp K (dig (strm (byt (strm (fun i => cmpr K (f i)) K)) 8) K i)) _ (fun w' hc => (f1.below hc (by omega)).out) Try.underlying23 size23 hS ?_
  simp only [Act.put, List.setIfInBounds_toArray, List.set_cons_succ, List.set_cons_zero]
  refine held_call 19 42 rfl rfl (by kernel_rfl) (by kernel_rfl) 19 #[.slice (some ⟨b, off, none⟩) (32 * K) cap, .int .u8 K] (fun _ => by go_simp) ((C4.out _ _ hv5).mono ?_)
  rintro e w9 ⟨rfl, hb⟩
  have hS9 : (fun w' => Below W4.heap.size W4 w') w9 := hS.trans (hb.mono hS.size)
  clear hS hb C4
  refine ⟨_, rfl, hS9, ?_⟩
  simp only [Act.put, List.setIfInBounds_toArray, List.set_cons_succ, List.set_cons_zero]
  have hS := hS9
  clear hS9
  have hszE : ∀ w, (sizeOf 22).run Try.prog w = .ok 1 w := fun w => by kernel_rfl
  refine held_val 21 44 rfl rfl (by kernel_rfl) (by kernel_rfl) (by kernel_rfl) (fun _ _ _ _ h => h) (by kernel_rfl) (.bool true) (fun w _ => run_eq_op 23 22 23 _ _ rfl 256 _ rfl rfl Try.underlying23 Try.underlying22 hszE (by kernel_rfl) w) hS ?_
  simp only [Act.put, List.setIfInBounds_toArray, List.set_cons_succ, List.set_cons_zero]
  clear hszE
  refine held_val 22 45 rfl rfl (by kernel_rfl) (by kernel_rfl) (by kernel_rfl) (fun _ _ _ _ h => h) (by kernel_rfl) (.bool true) (fun _ _ => by kernel_rfl) hS ?_
  simp only [Act.put, List.setIfInBounds_toArray, List.set_cons_succ, List.set_cons_zero]
  refine held_val 23 4 rfl rfl (by kernel_rfl) (by kernel_rfl) (by kernel_rfl) (fun _ _ _ _ h => h) (by kernel_rfl) (.bool true) (fun _ _ => by kernel_rfl) hS ?_
  simp only [Act.put, List.setIfInBounds_toArray, List.set_cons_succ, List.set_cons_zero]
  refine wpAnyH_done (by kernel_rfl) ?_ _
  have db := fb.trans (hS.mono fb.size)
  clear hS hv5 hv4
  go_wp2
  go_ret
  exact ⟨rfl, db⟩

set_option maxRecDepth 100000 in
theorem lifted (os : Os) (started : os.Started) (H : Type) (enc : TypeId × Value → H) :
    ReturnsInHanded {} Try.checked os 11 .any (Rows.fnWidthsSpec.pre6 enc Try.prog Try.f11 Rows.fnWidthsRow.domain false) (Rows.fnWidthsSpec.post enc Try.prog Try.f11 false true false false) := by
  refine returnsInHanded_of_change (C := Try.checked) own started (by kernel_rfl) Try.func11
    (ChangeSpec.witness6 (enc := enc) (C := Try.checked) false ⟨#[], #[.agg (Array.replicate 256 (.int .u16 0)), .int .u8 0], []⟩ 8 (by kernel_rfl) (by kernel_rfl) (by kernel_rfl) (by kernel_rfl)) ?_
  intro W base args ds gs before hval0 hW hcnd _
  have hval : ∀ (j : Nat) t v, Try.f11.params[j]? = some t → args[j]? = some v → Value.okWide Try.prog W .any base t v := hval0
  have hW' := hW
  obtain ⟨p, q, hA0, hV, rfl, hfz, hnd⟩ := hW
  have hA : DataW.TrodAll enc Try.prog W 0 (fun _ => true) true Try.f11.params.toList args.toList ds p := hA0
  rw [Try.params11] at hA hval
  obtain ⟨v0, vs0, d0, ds0, p0, q0, hargs, rfl, rfl, h0, r0⟩ := trodAll_cons hA
  obtain ⟨v1, vs1, d1, ds1, p1, q1, rfl, rfl, rfl, h1, r1⟩ := trodAll_cons r0
  obtain ⟨rfl, rfl, rfl⟩ := trodAll_nil r1
  obtain rfl : args = #[v0, v1] := by cases args; simp_all
  obtain ⟨rfl, rfl⟩ := trodVars_none hV
  have k0 := h0
  have lt0 : ∀ x ∈ p0, x.block < W.heap.size := by obtain ⟨m, hm⟩ := k0; exact DataW.trod_lt m _ _ _ hm
  obtain ⟨g0, rfl, w0⟩ := open_arr Try.underlying23 Try.underlying22 (by kernel_rfl) (by kernel_rfl) (hval 0 23 v0 rfl rfl) h0
  have k1 := h1
  have lt1 : ∀ x ∈ p1, x.block < W.heap.size := by obtain ⟨m, hm⟩ := k1; exact DataW.trod_lt m _ _ _ hm
  obtain ⟨g1, rfl, _, _, w1⟩ := open_int Try.underlying5 (hval 1 5 v1 rfl rfl) h1
  clear hA0 hval0
  refine (walk g0 g1 W (fun i hi => bounds_u16 (w0 i hi)) (bounds_u8 w1)).mono fun e W' ⟨he, bel⟩ => ?_
  subst he
  exact ⟨_, rfl, _, _, _, [], _, [], hW', trodAll_mk1 (shut_bool Try.underlying4 _), (trodAll_cons_mk (Below.trod laidOut (by kernel_rfl) (of_decide_eq_true (by kernel_rfl)) k0 bel lt0) (trodAll_cons_mk (Below.trod laidOut (by kernel_rfl) (of_decide_eq_true (by kernel_rfl)) k1 bel lt1) trodAll_mk0)), rfl, bel.frame _, fun h => by cases h⟩

theorem over : Rows.fnWidthsRow.holds Try.pinned (OpenSpec.ofChange Rows.fnWidthsSpec) :=
  OpenClaim.holds_of_wide 11 Try.f11 rfl rfl rfl rfl rfl rfl rfl ⟨rfl, rfl, rfl, rfl, rfl⟩ rfl rfl rfl rfl rfl (by kernel_rfl) Try.func11 (by kernel_rfl)
    (of_decide_eq_true (by kernel_rfl)) (by unfold Func.isWrapper; first | (rw [if_pos (by decide +kernel)]; kernel_rfl) | (rw [if_neg (by decide +kernel)]; exact ⟨rfl, rfl⟩))
    (fun os started H enc _ => lifted os started H enc)

/-- THE STATEMENT. -/
theorem proved : Rows.FnWidthsSaid := over
#print axioms proved
end Go.Proofs.Ytghngfeacpamhaa.fnWidths
