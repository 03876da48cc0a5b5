/-
  ByteDecode takes 384 bytes exactly if each number of 12 bits is below 3329, and tells these (the law 'FnByteDecode' returns true for every input); no further condition.
-/
import Derived.Test.YtghngfeacpamhaaRows
import Derived.Test.YtghngfeacpamhaaAsk
import Derived.Test.YtghngfeacpamhaaImb
import Derived.Test.YtghngfeacpamhaaDig
import Derived.Test.YtghngfeacpamhaaOpb
import Derived.Test.YtghngfeacpamhaaEq
import Derived.Test.YtghngfeacpamhaaOpen
import Derived.Lib.Hide
namespace Go.Proofs.Ytghngfeacpamhaa.fnByteDecode
open Go.ChangeShapes Go.WideShapes Go.ChangeAt Go.RowKit


theorem own : ownKnob Try.prog.godebug = none := by kernel_rfl
theorem laidOut : laidOutB Try.prog = true := by kernel_rfl
set_option maxRecDepth 100000 in
set_option maxHeartbeats 1000000 in
theorem walk (v : Value) (g : Nat → Int) (n : Nat) (w : World) (hv : Byo w v n g) (hg : ∀ i, i < n → 0 ≤ g i ∧ g i < 256) :
    Calls Try.prog 4 #[v] w fun e w' => e = .returned (.bool true) ∧ Below w.heap.size w w' := by
  have HV := hv
  obtain ⟨a, cap, rfl, hcap, hmax, hbys⟩ := hv.out
  clear hv
  unfold maxLen at hmax
  have HG := Lib.hid hg; clear hg
  have HB := Lib.hid hbys; clear hbys
  by_cases hbig : 2147483647 < n
  · have hb' : (2147483647 : Int) < (n : Int) := by omega
    clear HB HG HV
    go_enter Try.func4, Try.ntmps4
    go_wp2_with fail
    go_ret
    exact ⟨rfl, Below.refl _ _⟩
  have hb' : ¬ (2147483647 : Int) < (n : Int) := by omega
  by_cases hn : n = 384
  case neg =>
    have hn' : ((n : Int) != 384) = true := by simp; omega
    have C1 := Lib.hid (implByteDecode_of (.slice a n cap) g false w fun W' h' => polyDecode_short (.slice a n cap) g g n W' ⟨a, cap, rfl, hcap, by unfold maxLen; exact hmax, fun h => (HB.out h).below h'⟩ hn)
    clear HB HG HV
    go_enter Try.func4, Try.ntmps4
    go_wp2_with fail
    refine C1.out.mono ?_
    rintro e w1 ⟨G, rfl, _, hb⟩
    clear C1
    go_wp2_with (first | (refine wpList_alloc_zero rfl 23 rfl _ zero23 ?_; simp only [Act.put, List.setIfInBounds_toArray, List.set_cons_succ, List.set_cons_zero, World.size_alloc]) | (refine st_arr rfl 23 _ _ rfl w1.heap.size rfl .u16 256 _ rfl 23 .u16 _ (Has.new _ _ _).out size23 ?_; simp only [Act.put, List.setIfInBounds_toArray, List.set_cons_succ, List.set_cons_zero, World.size_alloc]))
    go_ret
    exact ⟨rfl, Below.setRow (hb.alloc hb.size _) _ hb.size _⟩
  subst hn
  have hv := HB.out (by omega)
  clear HB HV
  obtain ⟨bb, hbb⟩ := redB_any (dig (strm g 8) 12)
  have C1 := Lib.hid (implByteDecode_of (.slice a 384 cap) (dig (strm g 8) 12) bb w fun W' h' => polyDecode_any (.slice a 384 cap) g bb W' (hv.below h') HG.out hbb)
  have C2 := Lib.hid fun W (hv : Bys W (.slice a 384 cap) 384 g) => (show Calls Try.prog 17 #[.slice a 384 cap, .int .i64 12] W fun e w' => e = .returned (.agg (arr .i64 256 (dig (strm g 8) 12))) ∧ Below W.heap.size W w' from specDigits_any (.slice a 384 cap) g 12 W (by omega) (by omega) hv HG.out)
  have DB := dig_bd (strm g 8) (strm_bd g 8) 12
  rw [show (2 : Int) ^ 12 = 4096 from rfl] at DB
  have C4 := Lib.hid fun W => is_yes (dig (strm g 8) 12) (dig (strm g 8) 12) W (fun i _ => by have := DB i; omega) (fun _ _ => rfl)
  have HD := Lib.hid DB; clear DB
  have HR := Lib.hid hbb; clear hbb
  clear HG
  go_enter Try.func4, Try.ntmps4
  go_wp2_with fail
  refine C1.out.mono ?_
  rintro e w1 ⟨G, rfl, hy, hb⟩
  have HY := Lib.hid hy; clear hy
  have hv1 := hv.below hb
  clear C1 hv
  go_wp2_with (first | (refine wpList_alloc_zero rfl 23 rfl _ zero23 ?_; simp only [Act.put, List.setIfInBounds_toArray, List.set_cons_succ, List.set_cons_zero, World.size_alloc]) | (refine st_arr rfl 23 _ _ rfl w1.heap.size rfl .u16 256 _ rfl 23 .u16 _ (Has.new _ _ _).out size23 ?_; simp only [Act.put, List.setIfInBounds_toArray, List.set_cons_succ, List.set_cons_zero, World.size_alloc]))
  obtain ⟨W4, hW4, f1, fb, hv4⟩ : ∃ W4, W4 = (w1.alloc (.cells (arr .u16 256 fun _ => 0) 23)).setRow w1.heap.size (arr .u16 256 G) ∧ Has W4 w1.heap.size (arr .u16 256 G) 23 ∧ Below w.heap.size w W4 ∧ Bys W4 (.slice a 384 cap) 384 g :=
    ⟨_, rfl, (Has.new _ _ _).row _, Below.setRow (hb.alloc hb.size _) _ hb.size _, hv1.below (Below.setRow ((Below.refl _ _).alloc (Nat.le_refl _) _) _ (Nat.le_refl _) _)⟩
  rw [← hW4]
  clear hW4 hb hv1
  generalize w1.heap.size = bG at *
  refine (C2.out _ hv4).mono ?_
  rintro e w2 ⟨rfl, hb⟩
  have g1 := f1.below hb f1.lt
  have gb := fb.trans (hb.mono fb.size)
  clear hb fb f1 hv4 C2
  go_wp2_with (first | (refine wpList_alloc_zero rfl 25 rfl _ zero25 ?_; simp only [Act.put, List.setIfInBounds_toArray, List.set_cons_succ, List.set_cons_zero, World.size_alloc]) | (refine st_arr rfl 25 _ _ rfl w2.heap.size rfl .i64 256 _ rfl 25 .i64 _ (Has.new _ _ _).out size25 ?_; simp only [Act.put, List.setIfInBounds_toArray, List.set_cons_succ, List.set_cons_zero, World.size_alloc]) | (refine ld_arr rfl 25 _ rfl w2.heap.size rfl 25 .i64 256 _ _ ((Has.new _ _ _).row _).out Try.underlying25 size25 ?_; simp only [Act.put, List.setIfInBounds_toArray, List.set_cons_succ, List.set_cons_zero, World.size_alloc]))
  obtain ⟨W6, hW6, h1, h2, hb⟩ : ∃ W4, W4 = (w2.alloc (.cells (arr .i64 256 fun _ => 0) 25)).setRow w2.heap.size (arr .i64 256 (dig (strm g 8) 12)) ∧ Has W4 bG (arr .u16 256 G) 23 ∧ Has W4 w2.heap.size (arr .i64 256 (dig (strm g 8) 12)) 25 ∧ Below w.heap.size w W4 :=
    ⟨_, rfl, (g1.alloc _).row_other _ _ (Nat.ne_of_lt g1.lt), (Has.new _ _ _).row _, Below.setRow (gb.alloc gb.size _) _ gb.size _⟩
  rw [← hW6]
  clear hW6 g1 gb
  generalize w2.heap.size = bI at *
  go_loop [7, 24] (fun _ i => ∃ k : Nat, k ≤ 256 ∧ i = .int .i64 k ∧ Hid (∀ j, j < k → dig (strm g 8) 12 j < 3329)) (fun _ i => 256 - (intOf i).toNat)
  case atStart => exact ⟨0, by omega, rfl, Lib.hid fun j hj => by omega⟩
  case round =>
    obtain ⟨k, hk, rfl, HJ⟩ := hrel
    by_cases hlt : k < 256
    · have hi := index25 (dig (strm g 8) 12) k hlt
      have hd := HD.out k
      have hlt' : (k : Int) < 256 := by omega
      have HJ2 := Lib.hid fun (h : dig (strm g 8) 12 k < 3329) => (show ∀ j, j < k + 1 → dig (strm g 8) 12 j < 3329 from fun j hj => by
        by_cases e1 : j = k
        · rw [e1]; exact h
        exact HJ.out j (by omega))
      have HN := Lib.hid fun (h : 3329 ≤ dig (strm g 8) 12 k) => (show bb = false by
        cases bb
        · rfl
        · have := HR.out.yes k hlt; omega)
      generalize dig (strm g 8) 12 k = Fk at *
      by_cases hF : Fk < 3329
      · go_wp2_with fail
        go_round
        case rel => exact ⟨k + 1, by omega, by go_num, Lib.hid (HJ2.out hF)⟩
        case measure => simp [intOf]; omega
      · obtain rfl := HN.out (by omega)
        go_wp2_with fail
        go_ret
        exact ⟨rfl, hb⟩
    · obtain rfl : k = 256 := by omega
      obtain rfl : bb = true := by
        rcases HR.out.out with ⟨h, _⟩ | ⟨_, j, hj, hr⟩
        · exact h
        · have := HJ.out j hj; omega
      have eG := HY.out rfl
      rw [eG] at h1
      clear eG HY HJ HR HD
      go_wp2_with fail
      refine wp_ld 23 _ rfl bG rfl 23 .u16 256 (dig (strm g 8) 12) _ h1.out Try.underlying23 size23 ?_
      simp only [Act.put, List.setIfInBounds_toArray, List.set_cons_succ, List.set_cons_zero]
      go_wp2_with fail
      refine wp_ld 25 _ rfl bI rfl 25 .i64 256 (dig (strm g 8) 12) _ h2.out Try.underlying25 size25 ?_
      simp only [Act.put, List.setIfInBounds_toArray, List.set_cons_succ, List.set_cons_zero]
      go_wp2_with fail
      refine (C4.out _).mono ?_
      rintro e w9 ⟨rfl, hb9⟩
      have db := hb.trans (hb9.mono hb.size)
      clear C4 hb hb9 h1 h2
      go_wp2_with fail
      go_ret
      exact ⟨rfl, db⟩

set_option maxRecDepth 100000 in
theorem lifted (os : Os) (started : os.Started) (H : Type) (enc : TypeId × Value → H) :
    ReturnsInHanded {} Try.checked os 4 .any (Rows.fnByteDecodeSpec.pre6 enc Try.prog Try.f4 Rows.fnByteDecodeRow.domain false) (Rows.fnByteDecodeSpec.post enc Try.prog Try.f4 false true false false) := by
  refine returnsInHanded_of_change (C := Try.checked) own started (by kernel_rfl) Try.func4
    (ChangeSpec.witness6 (enc := enc) (C := Try.checked) false ⟨#[], #[.slice none 0 0], []⟩ 8 (by kernel_rfl) (by kernel_rfl) (by kernel_rfl) (by kernel_rfl)) ?_
  intro W base args ds gs before hval0 hW hcnd _
  have hval : ∀ (j : Nat) t v, Try.f4.params[j]? = some t → args[j]? = some v → Value.okWide Try.prog W .any base t v := hval0
  have hW' := hW
  obtain ⟨p, q, hA0, hV, rfl, hfz, hnd⟩ := hW
  have hA : DataW.TrodAll enc Try.prog W 0 (fun _ => true) true Try.f4.params.toList args.toList ds p := hA0
  rw [Try.params4] at hA hval
  obtain ⟨v0, vs0, d0, ds0, p0, q0, hargs, rfl, rfl, h0, r0⟩ := trodAll_cons hA
  obtain ⟨rfl, rfl, rfl⟩ := trodAll_nil r0
  obtain rfl : args = #[v0] := by cases args; simp_all
  obtain ⟨rfl, rfl⟩ := trodVars_none hV
  have k0 := h0
  have lt0 : ∀ x ∈ p0, x.block < W.heap.size := by obtain ⟨m, hm⟩ := k0; exact DataW.trod_lt m _ _ _ hm
  obtain ⟨n0, g0, w0, b0⟩ := open_bytes Try.underlying29 Try.underlying5 (by kernel_rfl) (hval 0 29 v0 rfl rfl) h0
  clear hA0 hval0
  refine (walk v0 g0 n0 W w0 b0).mono fun e W' ⟨he, bel⟩ => ?_
  subst he
  exact ⟨_, rfl, _, _, _, [], _, [], hW', trodAll_mk1 (shut_bool Try.underlying4 _), (trodAll_cons_mk (Below.trod laidOut (by kernel_rfl) (of_decide_eq_true (by kernel_rfl)) k0 bel lt0) trodAll_mk0), rfl, bel.frame _, fun h => by cases h⟩

theorem over : Rows.fnByteDecodeRow.holds Try.pinned (OpenSpec.ofChange Rows.fnByteDecodeSpec) :=
  OpenClaim.holds_of_wide 4 Try.f4 rfl rfl rfl rfl rfl rfl rfl ⟨rfl, rfl, rfl, rfl, rfl⟩ rfl rfl rfl rfl rfl (by kernel_rfl) Try.func4 (by kernel_rfl)
    (of_decide_eq_true (by kernel_rfl)) (by unfold Func.isWrapper; first | (rw [if_pos (by decide +kernel)]; kernel_rfl) | (rw [if_neg (by decide +kernel)]; exact ⟨rfl, rfl⟩))
    (fun os started H enc _ => lifted os started H enc)

/-- THE STATEMENT. -/
theorem proved : Rows.FnByteDecodeSaid := over
#print axioms proved
end Go.Proofs.Ytghngfeacpamhaa.fnByteDecode
