/-
  Encode of Decode gives the 32 d bytes that were there (the law 'FnDecodeBack' returns true for every input); no further condition.
-/
import Derived.Test.YtghngfeacpamhaaRows
import Derived.Test.YtghngfeacpamhaaImc
import Derived.Test.YtghngfeacpamhaaOpb
import Derived.Test.YtghngfeacpamhaaBack
import Derived.Test.YtghngfeacpamhaaSfa
import Derived.Test.YtghngfeacpamhaaOpen
import Derived.Lib.Hide
namespace Go.Proofs.Ytghngfeacpamhaa.fnDecodeBack
open Go.ChangeShapes Go.WideShapes Go.ChangeAt Go.RowKit


theorem own : ownKnob Try.prog.godebug = none := by kernel_rfl
theorem laidOut : laidOutB Try.prog = true := by kernel_rfl
set_option maxRecDepth 100000 in
set_option maxHeartbeats 1000000 in
theorem walk (v : Value) (g : Nat → Int) (n : Nat) (D : Int) (w : World) (hv : Byo w v n g) (hg : ∀ i, i < n → 0 ≤ g i ∧ g i < 256) (hD : 0 ≤ D ∧ D ≤ 255) :
    Calls Try.prog 9 #[v, .int .u8 D] w fun e w' => e = .returned (.bool true) ∧ Below w.heap.size w w' := by
  obtain ⟨D0, D1⟩ := hD
  obtain ⟨a, cap, rfl, hcap, hmax, hbys⟩ := hv.out
  clear hv
  unfold maxLen at hmax
  obtain ⟨K, hK⟩ : ∃ K : Nat, 1 + D % 11 = (K : Int) := ⟨(1 + D % 11).toNat, by omega⟩
  have k0 : 1 ≤ K := by omega
  have k1 : K ≤ 11 := by omega
  have HG := Lib.hid hg; clear hg
  have HB := Lib.hid hbys; clear hbys
  by_cases hbig : 2147483647 < n
  · have hb' : (2147483647 : Int) < (n : Int) := by omega
    clear HB HG
    go_enter Try.func9, Try.ntmps9
    go_wp2_with fail
    go_ret
    exact ⟨rfl, Below.refl _ _⟩
  have hb' : ¬ (2147483647 : Int) < (n : Int) := by omega
  have y0 : IntKind.i64.wrap (K : Int) = (K : Int) := IntWalk.i64_in _ (by omega)
  have y1 : IntKind.i64.wrap (32 * (K : Int)) = 32 * (K : Int) := IntWalk.i64_in _ (by omega)
  by_cases hn : n = 32 * K
  case neg =>
    have hn' : ((n : Int) != 32 * (K : Int)) = true := by simp; omega
    clear HB HG
    go_enter Try.func9, Try.ntmps9
    go_wp2_with fail
    go_ret
    exact ⟨rfl, Below.refl _ _⟩
  subst hn
  have hv := HB.out (by omega)
  clear HB
  have C1 := Lib.hid fun W hv => implDecode_any (.slice a (32 * K) cap) g K W k0 k1 hv HG.out
  have DB := dig_bd (strm g 8) (strm_bd g 8) K
  have C2 := Lib.hid fun W => implEncode_any (fun i => dcmp K (dig (strm g 8) K i)) K W k0 k1 (fun i _ => (back_any K _ k0 k1 (DB i).1 (DB i).2).2)
  have EG := Lib.hid (show ∀ i, i < 32 * K → byt (strm (fun i => cmpr K (dcmp K (dig (strm g 8) K i))) K) i = g i by
    intro i hi
    rw [show (fun i => cmpr K (dcmp K (dig (strm g 8) K i))) = dig (strm g 8) K from funext fun i => (back_any K _ k0 k1 (DB i).1 (DB i).2).1]
    exact byt_dig g K i k0 (HG.out i hi).1 (HG.out i hi).2)
  clear DB HG
  go_enter Try.func9, Try.ntmps9
  go_wp2_with fail
  refine (C1.out _ hv).mono ?_
  rintro e w1 ⟨rfl, hb⟩
  have hv1 := hv.below hb
  have b1 := hb.size
  clear C1
  go_wp2_with fail
  refine (C2.out _).mono ?_
  rintro e w2 ⟨v2, rfl, hv2, hb2⟩
  have db := hb.trans (hb2.mono b1)
  have hv3 := hv1.below hb2
  clear C2 hb hb2 hv hv1 b1
  go_wp2_with fail
  refine (alike_yes v2 _ (32 * K) _ _ _ hv2 hv3 EG.out).mono ?_
  rintro e w3 ⟨rfl, rfl⟩
  clear hv2 hv3
  go_wp2_with fail
  go_ret
  exact ⟨rfl, db⟩

set_option maxRecDepth 100000 in
theorem lifted (os : Os) (started : os.Started) (H : Type) (enc : TypeId × Value → H) :
    ReturnsInHanded {} Try.checked os 9 .any (Rows.fnDecodeBackSpec.pre6 enc Try.prog Try.f9 Rows.fnDecodeBackRow.domain false) (Rows.fnDecodeBackSpec.post enc Try.prog Try.f9 false true false false) := by
  refine returnsInHanded_of_change (C := Try.checked) own started (by kernel_rfl) Try.func9
    (ChangeSpec.witness6 (enc := enc) (C := Try.checked) false ⟨#[], #[.slice none 0 0, .int .u8 0], []⟩ 8 (by kernel_rfl) (by kernel_rfl) (by kernel_rfl) (by kernel_rfl)) ?_
  intro W base args ds gs before hval0 hW hcnd _
  have hval : ∀ (j : Nat) t v, Try.f9.params[j]? = some t → args[j]? = some v → Value.okWide Try.prog W .any base t v := hval0
  have hW' := hW
  obtain ⟨p, q, hA0, hV, rfl, hfz, hnd⟩ := hW
  have hA : DataW.TrodAll enc Try.prog W 0 (fun _ => true) true Try.f9.params.toList args.toList ds p := hA0
  rw [Try.params9] at hA hval
  obtain ⟨v0, vs0, d0, ds0, p0, q0, hargs, rfl, rfl, h0, r0⟩ := trodAll_cons hA
  obtain ⟨v1, vs1, d1, ds1, p1, q1, rfl, rfl, rfl, h1, r1⟩ := trodAll_cons r0
  obtain ⟨rfl, rfl, rfl⟩ := trodAll_nil r1
  obtain rfl : args = #[v0, v1] := by cases args; simp_all
  obtain ⟨rfl, rfl⟩ := trodVars_none hV
  have k0 := h0
  have lt0 : ∀ x ∈ p0, x.block < W.heap.size := by obtain ⟨m, hm⟩ := k0; exact DataW.trod_lt m _ _ _ hm
  obtain ⟨n0, g0, w0, b0⟩ := open_bytes Try.underlying29 Try.underlying5 (by kernel_rfl) (hval 0 29 v0 rfl rfl) h0
  have k1 := h1
  have lt1 : ∀ x ∈ p1, x.block < W.heap.size := by obtain ⟨m, hm⟩ := k1; exact DataW.trod_lt m _ _ _ hm
  obtain ⟨g1, rfl, _, _, w1⟩ := open_int Try.underlying5 (hval 1 5 v1 rfl rfl) h1
  clear hA0 hval0
  refine (walk v0 g0 n0 g1 W w0 b0 (bounds_u8 w1)).mono fun e W' ⟨he, bel⟩ => ?_
  subst he
  exact ⟨_, rfl, _, _, _, [], _, [], hW', trodAll_mk1 (shut_bool Try.underlying4 _), (trodAll_cons_mk (Below.trod laidOut (by kernel_rfl) (of_decide_eq_true (by kernel_rfl)) k0 bel lt0) (trodAll_cons_mk (Below.trod laidOut (by kernel_rfl) (of_decide_eq_true (by kernel_rfl)) k1 bel lt1) trodAll_mk0)), rfl, bel.frame _, fun h => by cases h⟩

theorem over : Rows.fnDecodeBackRow.holds Try.pinned (OpenSpec.ofChange Rows.fnDecodeBackSpec) :=
  OpenClaim.holds_of_wide 9 Try.f9 rfl rfl rfl rfl rfl rfl rfl ⟨rfl, rfl, rfl, rfl, rfl⟩ rfl rfl rfl rfl rfl (by kernel_rfl) Try.func9 (by kernel_rfl)
    (of_decide_eq_true (by kernel_rfl)) (by unfold Func.isWrapper; first | (rw [if_pos (by decide +kernel)]; kernel_rfl) | (rw [if_neg (by decide +kernel)]; exact ⟨rfl, rfl⟩))
    (fun os started H enc _ => lifted os started H enc)

/-- THE STATEMENT. -/
theorem proved : Rows.FnDecodeBackSaid := over
#print axioms proved
end Go.Proofs.Ytghngfeacpamhaa.fnDecodeBack
