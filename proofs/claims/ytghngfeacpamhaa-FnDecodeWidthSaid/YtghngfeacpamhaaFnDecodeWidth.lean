/-
  DecodeWidth gives the numbers of d bits each that 32 d bytes tell, decompressed, for the widths of ML-KEM (the law 'FnDecodeWidth' returns true for every input); no further condition.
-/
import Derived.Test.YtghngfeacpamhaaRows
import Derived.Test.YtghngfeacpamhaaAsk
import Derived.Test.YtghngfeacpamhaaImw
import Derived.Test.YtghngfeacpamhaaDig
import Derived.Test.YtghngfeacpamhaaCmp
import Derived.Test.YtghngfeacpamhaaOpb
import Derived.Test.YtghngfeacpamhaaBack
import Derived.Test.YtghngfeacpamhaaWidth
import Derived.Test.YtghngfeacpamhaaReg
import Derived.Test.YtghngfeacpamhaaOpen
import Derived.Lib.Hide
namespace Go.Proofs.Ytghngfeacpamhaa.fnDecodeWidth
open Go.ChangeShapes Go.WideShapes Go.ChangeAt Go.RowKit


theorem own : ownKnob Try.prog.godebug = none := by kernel_rfl
theorem laidOut : laidOutB Try.prog = true := by kernel_rfl
theorem width_nat (D : Int) (hD : 0 ≤ D ∧ D ≤ 255) : ∃ K : Nat, (K = 1 ∨ K = 4 ∨ K = 5 ∨ K = 10 ∨ K = 11) ∧ Hid (∀ w, Calls Try.prog 24 #[.int .u8 D] w fun e w' => e = .returned (.int .u8 K) ∧ w = w') := by
  have h : D % 5 = 0 ∨ D % 5 = 1 ∨ D % 5 = 2 ∨ D % 5 = 3 ∨ D % 5 = 4 := by omega
  rcases h with h | h | h | h | h
  · exact ⟨1, by omega, Lib.hid fun w => width_case D w 0 1 hD.1 h (by omega)⟩
  · exact ⟨4, by omega, Lib.hid fun w => width_case D w 1 4 hD.1 h (by omega)⟩
  · exact ⟨5, by omega, Lib.hid fun w => width_case D w 2 5 hD.1 h (by omega)⟩
  · exact ⟨10, by omega, Lib.hid fun w => width_case D w 3 10 hD.1 h (by omega)⟩
  · exact ⟨11, by omega, Lib.hid fun w => width_case D w 4 11 hD.1 h (by omega)⟩
set_option maxRecDepth 100000 in
set_option maxHeartbeats 1000000 in
theorem walk (v : Value) (g : Nat → Int) (n : Nat) (D : Int) (w : World) (hv : Byo w v n g) (hg : ∀ i, i < n → 0 ≤ g i ∧ g i < 256) (hD : 0 ≤ D ∧ D ≤ 255) :
    Calls Try.prog 8 #[v, .int .u8 D] w fun e w' => e = .returned (.bool true) ∧ Below w.heap.size w w' := by
  obtain ⟨a, cap, rfl, hcap, hmax, hbys⟩ := hv.out
  clear hv
  unfold maxLen at hmax
  obtain ⟨K, hK5, HW⟩ := width_nat D hD
  have HK := Lib.hid hK5
  have k0 : 1 ≤ K := by omega
  have k1 : K ≤ 11 := by omega
  have HG := Lib.hid hg; clear hg
  have HB := Lib.hid hbys; clear hbys hK5
  by_cases hbig : 2147483647 < n
  · have hb' : (2147483647 : Int) < (n : Int) := by omega
    clear HB HG HW
    go_enter Try.func8, Try.ntmps8
    go_wp2_with fail
    go_ret
    exact ⟨rfl, Below.refl _ _⟩
  have hb' : ¬ (2147483647 : Int) < (n : Int) := by omega
  have y0 : IntKind.i64.wrap (K : Int) = (K : Int) := IntWalk.i64_in _ (by omega)
  have y1 : IntKind.i64.wrap (32 * (K : Int)) = 32 * (K : Int) := IntWalk.i64_in _ (by omega)
  by_cases hn : n = 32 * K
  case neg =>
    have hn' : ((n : Int) != 32 * (K : Int)) = true := by simp; omega
    clear HB HG
    go_enter Try.func8, Try.ntmps8
    go_wp2_with fail
    refine (HW.out _).mono ?_
    rintro e w1 ⟨rfl, rfl⟩
    clear HW
    go_wp2_with fail
    go_ret
    exact ⟨rfl, Below.refl _ _⟩
  subst hn
  have hv := HB.out (by omega)
  clear HB
  have C1 := Lib.hid fun W hv => implDecodeWidth_any (.slice a (32 * K) cap) g K W HK.out hv HG.out
  have C2 := Lib.hid fun W hv => specDigits_any (.slice a (32 * K) cap) g K W k0 (by omega) hv HG.out
  have DB := dig_bd (strm g 8) (strm_bd g 8) K
  have C3 := Lib.hid fun W => specDecompress_any (dig (strm g 8) K) K W k0 k1 (fun i _ => DB i)
  have C4 := Lib.hid fun W => is_yes (fun i => dcmp K (dig (strm g 8) K i)) (fun i => dcmp K (dig (strm g 8) K i)) W (fun i hi => by have := back_any K _ k0 k1 (DB i).1 (DB i).2; omega) (fun _ _ => rfl)
  clear DB HG
  go_enter Try.func8, Try.ntmps8
  go_wp2_with fail
  refine (HW.out _).mono ?_
  rintro e w1 ⟨rfl, rfl⟩
  clear HW
  go_wp2_with fail
  refine (C1.out _ hv).mono ?_
  rintro e w1 ⟨rfl, hb⟩
  have hv1 := hv.below hb
  clear C1 hv
  go_wp2_with (first | (refine wpList_alloc_zero rfl 23 rfl _ zero23 ?_; simp only [Act.put, List.setIfInBounds_toArray, List.set_cons_succ, List.set_cons_zero, World.size_alloc]) | (refine st_arr rfl 23 _ _ rfl w1.heap.size rfl .u16 256 _ rfl 23 .u16 _ (Has.new _ _ _).out size23 ?_; simp only [Act.put, List.setIfInBounds_toArray, List.set_cons_succ, List.set_cons_zero, World.size_alloc]))
  obtain ⟨W4, hW4, f1, fb, hv4⟩ : ∃ W4, W4 = (w1.alloc (.cells (arr .u16 256 fun _ => 0) 23)).setRow w1.heap.size (arr .u16 256 (fun i => dcmp K (dig (strm g 8) K i))) ∧ Has W4 w1.heap.size (arr .u16 256 (fun i => dcmp K (dig (strm g 8) K i))) 23 ∧ Below w.heap.size w W4 ∧ Bys W4 (.slice a (32 * K) cap) (32 * K) g :=
    ⟨_, rfl, (Has.new _ _ _).row _, Below.setRow (hb.alloc hb.size _) _ hb.size _, hv1.below (Below.setRow ((Below.refl _ _).alloc (Nat.le_refl _) _) _ (Nat.le_refl _) _)⟩
  rw [← hW4]
  clear hW4 hb hv1
  generalize w1.heap.size = bG at *
  have lG := f1.lt
  have es : W4.heap.size ≤ W4.heap.size := Nat.le_refl _
  refine wp_region_quiet (C := fun w' => Below W4.heap.size W4 w') (by kernel_rfl) (by kernel_rfl) (Below.refl _ _).drew ?_
  refine quiet_val (by kernel_rfl) (.bool true) (fun _ => by kernel_rfl) ?_
  simp only [Act.put, List.setIfInBounds_toArray, List.set_cons_succ, List.set_cons_zero]
  refine quiet_val (by kernel_rfl) (.bool true) (fun _ => by kernel_rfl) ?_
  simp only [Act.put, List.setIfInBounds_toArray, List.set_cons_succ, List.set_cons_zero]
  refine quiet_ld (by kernel_rfl) 23 _ rfl (bG) rfl 23 .u16 256 (fun i => dcmp K (dig (strm g 8) K i)) _ (fun w' hc => (f1.below hc (by omega)).out) Try.underlying23 size23 ?_
  simp only [Act.put, List.setIfInBounds_toArray, List.set_cons_succ, List.set_cons_zero]
  refine quiet_val (by kernel_rfl) (.slice a (32 * K) cap) (fun _ => by kernel_rfl) ?_
  simp only [Act.put, List.setIfInBounds_toArray, List.set_cons_succ, List.set_cons_zero]
  refine quiet_val (by kernel_rfl) (.int .u8 K) (fun _ => by kernel_rfl) ?_
  simp only [Act.put, List.setIfInBounds_toArray, List.set_cons_succ, List.set_cons_zero]
  refine quiet_val (by kernel_rfl) (.int .i64 K) (fun _ => by go_simp) ?_
  simp only [Act.put, List.setIfInBounds_toArray, List.set_cons_succ, List.set_cons_zero]
  refine quiet_call (by kernel_rfl) 17 #[.slice a (32 * K) cap, .int .i64 K] _ (fun _ => by go_simp) (fun w' hc => quiet_of_any (C2.out w' (hv4.below hc)) hc es) ?_
  simp only [Act.put, List.setIfInBounds_toArray, List.set_cons_succ, List.set_cons_zero]
  refine quiet_val (by kernel_rfl) (.int .u8 K) (fun _ => by kernel_rfl) ?_
  simp only [Act.put, List.setIfInBounds_toArray, List.set_cons_succ, List.set_cons_zero]
  refine quiet_val (by kernel_rfl) (.int .i64 K) (fun _ => by go_simp) ?_
  simp only [Act.put, List.setIfInBounds_toArray, List.set_cons_succ, List.set_cons_zero]
  refine quiet_call (by kernel_rfl) 20 #[.agg (arr .i64 256 (dig (strm g 8) K)), .int .i64 K] _ (fun _ => by go_simp) (fun w' hc => quiet_of_any (C3.out w') hc es) ?_
  simp only [Act.put, List.setIfInBounds_toArray, List.set_cons_succ, List.set_cons_zero]
  refine quiet_call (by kernel_rfl) 18 #[.agg (arr .u16 256 (fun i => dcmp K (dig (strm g 8) K i))), .agg (arr .i64 256 (fun i => dcmp K (dig (strm g 8) K i)))] _ (fun _ => by go_simp) (fun w' hc => quiet_of_any (C4.out w') hc es) ?_
  simp only [Act.put, List.setIfInBounds_toArray, List.set_cons_succ, List.set_cons_zero]
  refine quiet_val (by kernel_rfl) (.bool true) (fun _ => by kernel_rfl) ?_
  simp only [Act.put, List.setIfInBounds_toArray, List.set_cons_succ, List.set_cons_zero]
  refine quiet_val (by kernel_rfl) (.bool true) (fun _ => by kernel_rfl) ?_
  simp only [Act.put, List.setIfInBounds_toArray, List.set_cons_succ, List.set_cons_zero]
  refine wpQuiet_nil ?_
  intro w5 hc
  have db := fb.trans (hc.mono fb.size)
  clear hc C2 C3 C4 hv4
  go_wp2
  go_ret
  exact ⟨rfl, db⟩

set_option maxRecDepth 100000 in
theorem lifted (os : Os) (started : os.Started) (H : Type) (enc : TypeId × Value → H) :
    ReturnsInHanded {} Try.checked os 8 .any (Rows.fnDecodeWidthSpec.pre6 enc Try.prog Try.f8 Rows.fnDecodeWidthRow.domain false) (Rows.fnDecodeWidthSpec.post enc Try.prog Try.f8 false true false false) := by
  refine returnsInHanded_of_change (C := Try.checked) own started (by kernel_rfl) Try.func8
    (ChangeSpec.witness6 (enc := enc) (C := Try.checked) false ⟨#[], #[.slice none 0 0, .int .u8 0], []⟩ 8 (by kernel_rfl) (by kernel_rfl) (by kernel_rfl) (by kernel_rfl)) ?_
  intro W base args ds gs before hval0 hW hcnd _
  have hval : ∀ (j : Nat) t v, Try.f8.params[j]? = some t → args[j]? = some v → Value.okWide Try.prog W .any base t v := hval0
  have hW' := hW
  obtain ⟨p, q, hA0, hV, rfl, hfz, hnd⟩ := hW
  have hA : DataW.TrodAll enc Try.prog W 0 (fun _ => true) true Try.f8.params.toList args.toList ds p := hA0
  rw [Try.params8] at hA hval
  obtain ⟨v0, vs0, d0, ds0, p0, q0, hargs, rfl, rfl, h0, r0⟩ := trodAll_cons hA
  obtain ⟨v1, vs1, d1, ds1, p1, q1, rfl, rfl, rfl, h1, r1⟩ := trodAll_cons r0
  obtain ⟨rfl, rfl, rfl⟩ := trodAll_nil r1
  obtain rfl : args = #[v0, v1] := by cases args; simp_all
  obtain ⟨rfl, rfl⟩ := trodVars_none hV
  have k0 := h0
  have lt0 : ∀ x ∈ p0, x.block < W.heap.size := by obtain ⟨m, hm⟩ := k0; exact DataW.trod_lt m _ _ _ hm
  obtain ⟨n0, g0, w0, b0⟩ := open_bytes Try.underlying29 Try.underlying5 (by kernel_rfl) (hval 0 29 v0 rfl rfl) h0
  have k1 := h1
  have lt1 : ∀ x ∈ p1, x.block < W.heap.size := by obtain ⟨m, hm⟩ := k1; exact DataW.trod_lt m _ _ _ hm
  obtain ⟨g1, rfl, _, _, w1⟩ := open_int Try.underlying5 (hval 1 5 v1 rfl rfl) h1
  clear hA0 hval0
  refine (walk v0 g0 n0 g1 W w0 b0 (bounds_u8 w1)).mono fun e W' ⟨he, bel⟩ => ?_
  subst he
  exact ⟨_, rfl, _, _, _, [], _, [], hW', trodAll_mk1 (shut_bool Try.underlying4 _), (trodAll_cons_mk (Below.trod laidOut (by kernel_rfl) (of_decide_eq_true (by kernel_rfl)) k0 bel lt0) (trodAll_cons_mk (Below.trod laidOut (by kernel_rfl) (of_decide_eq_true (by kernel_rfl)) k1 bel lt1) trodAll_mk0)), rfl, bel.frame _, fun h => by cases h⟩

theorem over : Rows.fnDecodeWidthRow.holds Try.pinned (OpenSpec.ofChange Rows.fnDecodeWidthSpec) :=
  OpenClaim.holds_of_wide 8 Try.f8 rfl rfl rfl rfl rfl rfl rfl ⟨rfl, rfl, rfl, rfl, rfl⟩ rfl rfl rfl rfl rfl (by kernel_rfl) Try.func8 (by kernel_rfl)
    (of_decide_eq_true (by kernel_rfl)) (by unfold Func.isWrapper; first | (rw [if_pos (by decide +kernel)]; kernel_rfl) | (rw [if_neg (by decide +kernel)]; exact ⟨rfl, rfl⟩))
    (fun os started H enc _ => lifted os started H enc)

/-- THE STATEMENT. -/
theorem proved : Rows.FnDecodeWidthSaid := over
#print axioms proved
end Go.Proofs.Ytghngfeacpamhaa.fnDecodeWidth
