/-
  ByteDecode of ByteEncode gives the polynomial that was there, for numbers below 3329 (the law 'FnByteBack' returns true for every input); no further condition.
-/
import Derived.Test.YtghngfeacpamhaaRows
import Derived.Test.YtghngfeacpamhaaAsk
import Derived.Test.YtghngfeacpamhaaBye
import Derived.Test.YtghngfeacpamhaaImb
import Derived.Test.YtghngfeacpamhaaEq
import Derived.Test.YtghngfeacpamhaaOpen
import Derived.Lib.Hide
namespace Go.Proofs.Ytghngfeacpamhaa.fnByteBack
open Go.ChangeShapes Go.WideShapes Go.ChangeAt Go.RowKit


theorem own : ownKnob Try.prog.godebug = none := by kernel_rfl
theorem laidOut : laidOutB Try.prog = true := by kernel_rfl
theorem RedB_of (g : Nat → Int) (h : ∀ i, i < 256 → g i < 3329) : RedB g true := ⟨.inl ⟨rfl, h⟩⟩
theorem red_any (g : Nat → Int) (bb : Bool) (b : Nat) (t : TypeId) (w : World) (h : Has w b (arr .u16 256 g) t) (hb : RedB g bb) :
    Calls Try.prog 23 #[.slice (some ⟨b, 0, none⟩) 256 256] w fun e w' => e = .returned (.bool bb) ∧ w = w' := by
  have hc : ∀ i, i < 256 → w.cell? ⟨b, 0 + i, none⟩ = some (.int .u16 (g i)) := fun i hi => by rw [Nat.zero_add]; exact h.cell i hi
  rcases hb.out with ⟨rfl, hr⟩ | ⟨rfl, j, hj, hr⟩
  · exact reduced_yes g b 0 256 256 w (by omega) hc hr
  · exact reduced_no g b 0 256 256 w (by omega) hc j hj hr
set_option maxRecDepth 100000 in
set_option maxHeartbeats 1000000 in
theorem walk (f : Nat → Int) (w : World) (hf : ∀ i, i < 256 → 0 ≤ f i ∧ f i ≤ 65535) :
    Calls Try.prog 7 #[.agg (arr .u16 256 f)] w fun e w' => e = .returned (.bool true) ∧ Below w.heap.size w w' := by
  obtain ⟨b1, hb1⟩ := redB_any f
  have HF := Lib.hid hf; clear hf
  go_enter Try.func7, Try.ntmps7
  go_wp2_with fail
  obtain ⟨W, hW, h0, hw, HS⟩ := pack1 w (arr .u16 256 f) 23
  rw [← hW]
  clear hW
  refine (red_any f b1 _ 23 _ h0 hb1).mono ?_
  rintro e w1 ⟨rfl, rfl⟩
  cases b1
  · go_wp2
    go_ret
    exact ⟨rfl, hw⟩
  have hf' : ∀ i, i < 256 → 0 ≤ f i ∧ f i < 3329 := fun i hi => ⟨(HF.out i hi).1, hb1.yes i hi⟩
  have EF : ∀ i, i < 256 → dig (strm (byt (strm f 12)) 8) 12 i = f i := fun i hi => dig_byt f 12 i (hf' i hi).1 (by have := (hf' i hi).2; omega)
  have C1 := Lib.hid fun W => implByteEncode_any f W (fun i hi => by have := hf' i hi; omega)
  have C2 := Lib.hid fun W v (hv : Bys W v 384 (byt (strm f 12))) => implByteDecode_of v (dig (strm (byt (strm f 12)) 8) 12) true W fun W' h' =>
    polyDecode_any v (byt (strm f 12)) true W' (hv.below h') (fun i _ => byt_bd _ (strm_bd f 12) i) (RedB_of _ fun i hi => by rw [EF i hi]; exact (hf' i hi).2)
  have EA := Lib.hid (arr_congr (k := .u16) (n := 256) EF)
  clear EF HF hb1 hf'
  go_wp2_with (refine ld_arr rfl 23 _ rfl (w.heap.size) rfl 23 .u16 256 f _ h0.out Try.underlying23 size23 ?_; simp only [Act.put, List.setIfInBounds_toArray, List.set_cons_succ, List.set_cons_zero, World.size_alloc])
  refine (C1.out _).mono ?_
  rintro e w1 ⟨v, rfl, hv, hb⟩
  have d0 := h0.below hb h0.lt
  have db := hw.trans (hb.mono hw.size)
  clear hb hw h0 C1 HS
  go_wp2_with fail
  refine (C2.out _ v hv).mono ?_
  rintro e w2 ⟨G, rfl, hG, hb⟩
  have eG := (hG rfl).trans EA.out
  have e0 := d0.below hb d0.lt
  have eb := db.trans (hb.mono db.size)
  clear hb db d0 C2 EA hG hv
  rw [eG]
  clear eG
  go_wp2_with (first | (refine wpList_alloc_zero rfl 23 rfl _ zero23 ?_; simp only [Act.put, List.setIfInBounds_toArray, List.set_cons_succ, List.set_cons_zero, World.size_alloc]) | (refine st_arr rfl 23 _ _ rfl w2.heap.size rfl .u16 256 f rfl 23 .u16 _ (Has.new _ _ _).out size23 ?_; simp only [Act.put, List.setIfInBounds_toArray, List.set_cons_succ, List.set_cons_zero, World.size_alloc]))
  obtain ⟨W4, hW4, f0, f1, fb⟩ : ∃ W4, W4 = (w2.alloc (.cells (arr .u16 256 fun _ => 0) 23)).setRow w2.heap.size (arr .u16 256 f) ∧ Has W4 (w.heap.size) (arr .u16 256 f) 23 ∧ Has W4 w2.heap.size (arr .u16 256 f) 23 ∧ Below w.heap.size w W4 :=
    ⟨_, rfl, (e0.alloc _).row_other _ _ (Nat.ne_of_lt e0.lt), (Has.new _ _ _).row _, Below.setRow (eb.alloc eb.size _) _ eb.size _⟩
  rw [← hW4]
  clear hW4 e0 eb
  generalize w2.heap.size = bG at *
  refine wp_ld 23 _ rfl bG rfl 23 .u16 256 f _ f1.out Try.underlying23 size23 ?_
  simp only [Act.put, List.setIfInBounds_toArray, List.set_cons_succ, List.set_cons_zero]
  go_wp2_with fail
  refine wp_ld 23 _ rfl (w.heap.size) rfl 23 .u16 256 f _ f0.out Try.underlying23 size23 ?_
  simp only [Act.put, List.setIfInBounds_toArray, List.set_cons_succ, List.set_cons_zero]
  have hEq : ∀ w, (Op.equalIn 10000 23 (.agg (arr .u16 256 f)) (.agg (arr .u16 256 f))).run Try.prog w = .ok true w := fun w => run_eq_arr (w := w) 9998 23 22 256 Try.underlying23 Try.underlying22 (fun w => by kernel_rfl) f
  go_wp2_with fail
  go_ret
  exact ⟨rfl, fb⟩

set_option maxRecDepth 100000 in
theorem lifted (os : Os) (started : os.Started) (H : Type) (enc : TypeId × Value → H) :
    ReturnsInHanded {} Try.checked os 7 .any (Rows.fnByteBackSpec.pre6 enc Try.prog Try.f7 Rows.fnByteBackRow.domain false) (Rows.fnByteBackSpec.post enc Try.prog Try.f7 false true false false) := by
  refine returnsInHanded_of_change (C := Try.checked) own started (by kernel_rfl) Try.func7
    (ChangeSpec.witness6 (enc := enc) (C := Try.checked) false ⟨#[], #[.agg (Array.replicate 256 (.int .u16 0))], []⟩ 8 (by kernel_rfl) (by kernel_rfl) (by kernel_rfl) (by kernel_rfl)) ?_
  intro W base args ds gs before hval0 hW hcnd _
  have hval : ∀ (j : Nat) t v, Try.f7.params[j]? = some t → args[j]? = some v → Value.okWide Try.prog W .any base t v := hval0
  have hW' := hW
  obtain ⟨p, q, hA0, hV, rfl, hfz, hnd⟩ := hW
  have hA : DataW.TrodAll enc Try.prog W 0 (fun _ => true) true Try.f7.params.toList args.toList ds p := hA0
  rw [Try.params7] at hA hval
  obtain ⟨v0, vs0, d0, ds0, p0, q0, hargs, rfl, rfl, h0, r0⟩ := trodAll_cons hA
  obtain ⟨rfl, rfl, rfl⟩ := trodAll_nil r0
  obtain rfl : args = #[v0] := by cases args; simp_all
  obtain ⟨rfl, rfl⟩ := trodVars_none hV
  have k0 := h0
  have lt0 : ∀ x ∈ p0, x.block < W.heap.size := by obtain ⟨m, hm⟩ := k0; exact DataW.trod_lt m _ _ _ hm
  obtain ⟨g0, rfl, w0⟩ := open_arr Try.underlying23 Try.underlying22 (by kernel_rfl) (by kernel_rfl) (hval 0 23 v0 rfl rfl) h0
  clear hA0 hval0
  refine (walk g0 W (fun i hi => bounds_u16 (w0 i hi))).mono fun e W' ⟨he, bel⟩ => ?_
  subst he
  exact ⟨_, rfl, _, _, _, [], _, [], hW', trodAll_mk1 (shut_bool Try.underlying4 _), (trodAll_cons_mk (Below.trod laidOut (by kernel_rfl) (of_decide_eq_true (by kernel_rfl)) k0 bel lt0) trodAll_mk0), rfl, bel.frame _, fun h => by cases h⟩

theorem over : Rows.fnByteBackRow.holds Try.pinned (OpenSpec.ofChange Rows.fnByteBackSpec) :=
  OpenClaim.holds_of_wide 7 Try.f7 rfl rfl rfl rfl rfl rfl rfl ⟨rfl, rfl, rfl, rfl, rfl⟩ rfl rfl rfl rfl rfl (by kernel_rfl) Try.func7 (by kernel_rfl)
    (of_decide_eq_true (by kernel_rfl)) (by unfold Func.isWrapper; first | (rw [if_pos (by decide +kernel)]; kernel_rfl) | (rw [if_neg (by decide +kernel)]; exact ⟨rfl, rfl⟩))
    (fun os started H enc _ => lifted os started H enc)

/-- THE STATEMENT. -/
theorem proved : Rows.FnByteBackSaid := over
#print axioms proved
end Go.Proofs.Ytghngfeacpamhaa.fnByteBack
