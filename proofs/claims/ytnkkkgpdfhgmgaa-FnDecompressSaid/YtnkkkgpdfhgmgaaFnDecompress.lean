/-
  Decompress is the nearest number to a step at each width of ML-KEM, for every input (the law 'FnDecompress' returns true); no further condition. The frame round the walk is the kit's proof skeleton.
-/
import Derived.Test.YtnkkkgpdfhgmgaaRows
import Derived.Test.YtnkkkgpdfhgmgaaWidth
import Derived.Test.YtnkkkgpdfhgmgaaImplA
import Derived.Test.YtnkkkgpdfhgmgaaReg
import Derived.WalkKit
import Derived.ProofKit
import Derived.OpenShut
import Derived.Lib.Hide
namespace Go.Proofs.Ytnkkkgpdfhgmgaa.fnDecompress
open Go.ChangeShapes Go.WideShapes Go.ChangeAt Go.RowKit
set_option linter.unusedVariables false      -- a walk need not use every 'w<i>' (that an integer argument fits its kind)

theorem own : ownKnob Try.prog.godebug = none := by kernel_rfl

/-! ### STEP 1: THE WALK: the Go text returns true. 'Grown w w'': the world has at most new blocks (Derived/RowKit3.lean). Part the cases AHEAD of 'go_enter' where a test parts the walk; take each callee by a contract of your own. -/
set_option maxHeartbeats 1000000 in
theorem in_1 (a0 : Int) (a1 : Int) (l0 : 0 ≤ a0) (u0 : a0 ≤ 65535) (l1 : 0 ≤ a1) (hm : a1 % 5 = 0) (c0 : a0 < 2) (w : World) :
    Calls Try.prog 10 #[.int .u16 a0, .int .u8 a1] w fun e w' => e = .returned (.bool true) ∧ Grown w w' := by
  have hd : 0 ≤ dcmp 1 a0 ∧ dcmp 1 a0 ≤ 65535 := by simp only [dcmp]; omega
  have he : (dcmp 1 a0 == (6658 * a0 + 2) / 4) = true := by simp only [dcmp]; simp
  have hg : decide ((2 : Int) ≤ a0) = false := by simp; omega
  obtain ⟨d0, d1⟩ := hd
  have hc := fun W : World => implDecompress_1 a0 W l0 c0
  generalize hD : dcmp 1 a0 = D at *
  have HC := Lib.hid hc; clear hc hD
  go_enter Try.func10, Try.ntmps10
  go_wp2_with (go_at_call 23; refine (width_case _ _ 0 1 (by omega) hm (by omega)).mono ?_; rintro e w1 ⟨rfl, rfl⟩)
  go_quiet ((go_at_call 24; exact quiet_flip (HC.out _)))
  go_wp2
  go_ret
  exact ⟨rfl, by repeat (first | exact Grown.refl _ | apply Grown.drew | apply Grown.alloc)⟩
set_option maxHeartbeats 1000000 in
theorem out_1 (a0 : Int) (a1 : Int) (l0 : 0 ≤ a0) (u0 : a0 ≤ 65535) (l1 : 0 ≤ a1) (hm : a1 % 5 = 0) (c0 : 2 ≤ a0) (w : World) :
    Calls Try.prog 10 #[.int .u16 a0, .int .u8 a1] w fun e w' => e = .returned (.bool true) ∧ Grown w w' := by
  have hg : decide ((2 : Int) ≤ a0) = true := by simp; omega
  go_enter Try.func10, Try.ntmps10
  go_wp2_with (go_at_call 23; refine (width_case _ _ 0 1 (by omega) hm (by omega)).mono ?_; rintro e w1 ⟨rfl, rfl⟩)
  go_quiet (fail)
  go_wp2
  go_ret
  exact ⟨rfl, by repeat (first | exact Grown.refl _ | apply Grown.drew | apply Grown.alloc)⟩
set_option maxHeartbeats 1000000 in
theorem in_4 (a0 : Int) (a1 : Int) (l0 : 0 ≤ a0) (u0 : a0 ≤ 65535) (l1 : 0 ≤ a1) (hm : a1 % 5 = 1) (c0 : a0 < 16) (w : World) :
    Calls Try.prog 10 #[.int .u16 a0, .int .u8 a1] w fun e w' => e = .returned (.bool true) ∧ Grown w w' := by
  have hd : 0 ≤ dcmp 4 a0 ∧ dcmp 4 a0 ≤ 65535 := by simp only [dcmp]; omega
  have he : (dcmp 4 a0 == (6658 * a0 + 16) / 32) = true := by simp only [dcmp]; simp
  have hg : decide ((16 : Int) ≤ a0) = false := by simp; omega
  obtain ⟨d0, d1⟩ := hd
  have hc := fun W : World => implDecompress_4 a0 W l0 c0
  generalize hD : dcmp 4 a0 = D at *
  have HC := Lib.hid hc; clear hc hD
  go_enter Try.func10, Try.ntmps10
  go_wp2_with (go_at_call 23; refine (width_case _ _ 1 4 (by omega) hm (by omega)).mono ?_; rintro e w1 ⟨rfl, rfl⟩)
  go_quiet ((go_at_call 24; exact quiet_flip (HC.out _)))
  go_wp2
  go_ret
  exact ⟨rfl, by repeat (first | exact Grown.refl _ | apply Grown.drew | apply Grown.alloc)⟩
set_option maxHeartbeats 1000000 in
theorem out_4 (a0 : Int) (a1 : Int) (l0 : 0 ≤ a0) (u0 : a0 ≤ 65535) (l1 : 0 ≤ a1) (hm : a1 % 5 = 1) (c0 : 16 ≤ a0) (w : World) :
    Calls Try.prog 10 #[.int .u16 a0, .int .u8 a1] w fun e w' => e = .returned (.bool true) ∧ Grown w w' := by
  have hg : decide ((16 : Int) ≤ a0) = true := by simp; omega
  go_enter Try.func10, Try.ntmps10
  go_wp2_with (go_at_call 23; refine (width_case _ _ 1 4 (by omega) hm (by omega)).mono ?_; rintro e w1 ⟨rfl, rfl⟩)
  go_quiet (fail)
  go_wp2
  go_ret
  exact ⟨rfl, by repeat (first | exact Grown.refl _ | apply Grown.drew | apply Grown.alloc)⟩
set_option maxHeartbeats 1000000 in
theorem in_5 (a0 : Int) (a1 : Int) (l0 : 0 ≤ a0) (u0 : a0 ≤ 65535) (l1 : 0 ≤ a1) (hm : a1 % 5 = 2) (c0 : a0 < 32) (w : World) :
    Calls Try.prog 10 #[.int .u16 a0, .int .u8 a1] w fun e w' => e = .returned (.bool true) ∧ Grown w w' := by
  have hd : 0 ≤ dcmp 5 a0 ∧ dcmp 5 a0 ≤ 65535 := by simp only [dcmp]; omega
  have he : (dcmp 5 a0 == (6658 * a0 + 32) / 64) = true := by simp only [dcmp]; simp
  have hg : decide ((32 : Int) ≤ a0) = false := by simp; omega
  obtain ⟨d0, d1⟩ := hd
  have hc := fun W : World => implDecompress_5 a0 W l0 c0
  generalize hD : dcmp 5 a0 = D at *
  have HC := Lib.hid hc; clear hc hD
  go_enter Try.func10, Try.ntmps10
  go_wp2_with (go_at_call 23; refine (width_case _ _ 2 5 (by omega) hm (by omega)).mono ?_; rintro e w1 ⟨rfl, rfl⟩)
  go_quiet ((go_at_call 24; exact quiet_flip (HC.out _)))
  go_wp2
  go_ret
  exact ⟨rfl, by repeat (first | exact Grown.refl _ | apply Grown.drew | apply Grown.alloc)⟩
set_option maxHeartbeats 1000000 in
theorem out_5 (a0 : Int) (a1 : Int) (l0 : 0 ≤ a0) (u0 : a0 ≤ 65535) (l1 : 0 ≤ a1) (hm : a1 % 5 = 2) (c0 : 32 ≤ a0) (w : World) :
    Calls Try.prog 10 #[.int .u16 a0, .int .u8 a1] w fun e w' => e = .returned (.bool true) ∧ Grown w w' := by
  have hg : decide ((32 : Int) ≤ a0) = true := by simp; omega
  go_enter Try.func10, Try.ntmps10
  go_wp2_with (go_at_call 23; refine (width_case _ _ 2 5 (by omega) hm (by omega)).mono ?_; rintro e w1 ⟨rfl, rfl⟩)
  go_quiet (fail)
  go_wp2
  go_ret
  exact ⟨rfl, by repeat (first | exact Grown.refl _ | apply Grown.drew | apply Grown.alloc)⟩
set_option maxHeartbeats 1000000 in
theorem in_10 (a0 : Int) (a1 : Int) (l0 : 0 ≤ a0) (u0 : a0 ≤ 65535) (l1 : 0 ≤ a1) (hm : a1 % 5 = 3) (c0 : a0 < 1024) (w : World) :
    Calls Try.prog 10 #[.int .u16 a0, .int .u8 a1] w fun e w' => e = .returned (.bool true) ∧ Grown w w' := by
  have hd : 0 ≤ dcmp 10 a0 ∧ dcmp 10 a0 ≤ 65535 := by simp only [dcmp]; omega
  have he : (dcmp 10 a0 == (6658 * a0 + 1024) / 2048) = true := by simp only [dcmp]; simp
  have hg : decide ((1024 : Int) ≤ a0) = false := by simp; omega
  obtain ⟨d0, d1⟩ := hd
  have hc := fun W : World => implDecompress_10 a0 W l0 c0
  generalize hD : dcmp 10 a0 = D at *
  have HC := Lib.hid hc; clear hc hD
  go_enter Try.func10, Try.ntmps10
  go_wp2_with (go_at_call 23; refine (width_case _ _ 3 10 (by omega) hm (by omega)).mono ?_; rintro e w1 ⟨rfl, rfl⟩)
  go_quiet ((go_at_call 24; exact quiet_flip (HC.out _)))
  go_wp2
  go_ret
  exact ⟨rfl, by repeat (first | exact Grown.refl _ | apply Grown.drew | apply Grown.alloc)⟩
set_option maxHeartbeats 1000000 in
theorem out_10 (a0 : Int) (a1 : Int) (l0 : 0 ≤ a0) (u0 : a0 ≤ 65535) (l1 : 0 ≤ a1) (hm : a1 % 5 = 3) (c0 : 1024 ≤ a0) (w : World) :
    Calls Try.prog 10 #[.int .u16 a0, .int .u8 a1] w fun e w' => e = .returned (.bool true) ∧ Grown w w' := by
  have hg : decide ((1024 : Int) ≤ a0) = true := by simp; omega
  go_enter Try.func10, Try.ntmps10
  go_wp2_with (go_at_call 23; refine (width_case _ _ 3 10 (by omega) hm (by omega)).mono ?_; rintro e w1 ⟨rfl, rfl⟩)
  go_quiet (fail)
  go_wp2
  go_ret
  exact ⟨rfl, by repeat (first | exact Grown.refl _ | apply Grown.drew | apply Grown.alloc)⟩
set_option maxHeartbeats 1000000 in
theorem in_11 (a0 : Int) (a1 : Int) (l0 : 0 ≤ a0) (u0 : a0 ≤ 65535) (l1 : 0 ≤ a1) (hm : a1 % 5 = 4) (c0 : a0 < 2048) (w : World) :
    Calls Try.prog 10 #[.int .u16 a0, .int .u8 a1] w fun e w' => e = .returned (.bool true) ∧ Grown w w' := by
  have hd : 0 ≤ dcmp 11 a0 ∧ dcmp 11 a0 ≤ 65535 := by simp only [dcmp]; omega
  have he : (dcmp 11 a0 == (6658 * a0 + 2048) / 4096) = true := by simp only [dcmp]; simp
  have hg : decide ((2048 : Int) ≤ a0) = false := by simp; omega
  obtain ⟨d0, d1⟩ := hd
  have hc := fun W : World => implDecompress_11 a0 W l0 c0
  generalize hD : dcmp 11 a0 = D at *
  have HC := Lib.hid hc; clear hc hD
  go_enter Try.func10, Try.ntmps10
  go_wp2_with (go_at_call 23; refine (width_case _ _ 4 11 (by omega) hm (by omega)).mono ?_; rintro e w1 ⟨rfl, rfl⟩)
  go_quiet ((go_at_call 24; exact quiet_flip (HC.out _)))
  go_wp2
  go_ret
  exact ⟨rfl, by repeat (first | exact Grown.refl _ | apply Grown.drew | apply Grown.alloc)⟩
set_option maxHeartbeats 1000000 in
theorem out_11 (a0 : Int) (a1 : Int) (l0 : 0 ≤ a0) (u0 : a0 ≤ 65535) (l1 : 0 ≤ a1) (hm : a1 % 5 = 4) (c0 : 2048 ≤ a0) (w : World) :
    Calls Try.prog 10 #[.int .u16 a0, .int .u8 a1] w fun e w' => e = .returned (.bool true) ∧ Grown w w' := by
  have hg : decide ((2048 : Int) ≤ a0) = true := by simp; omega
  go_enter Try.func10, Try.ntmps10
  go_wp2_with (go_at_call 23; refine (width_case _ _ 4 11 (by omega) hm (by omega)).mono ?_; rintro e w1 ⟨rfl, rfl⟩)
  go_quiet (fail)
  go_wp2
  go_ret
  exact ⟨rfl, by repeat (first | exact Grown.refl _ | apply Grown.drew | apply Grown.alloc)⟩

set_option maxHeartbeats 1000000 in
theorem walk (a0 : Int) (a1 : Int) (w0 : (Lit.int .u16 a0).wf = true) (w1 : (Lit.int .u8 a1).wf = true) (w : World) :
    Calls Try.prog 10 #[.int .u16 a0, .int .u8 a1] w fun e w' => e = .returned (.bool true) ∧ Grown w w' := by
  obtain ⟨l0, u0⟩ := bounds_u16 w0
  obtain ⟨l1, u1⟩ := bounds_u8 w1
  clear w0 w1
  obtain hm | hm | hm | hm | hm : a1 % 5 = 0 ∨ a1 % 5 = 1 ∨ a1 % 5 = 2 ∨ a1 % 5 = 3 ∨ a1 % 5 = 4 := by omega
  · rcases Int.lt_or_le a0 2 with c0 | c0
    · exact in_1 a0 a1 l0 u0 l1 hm c0 w
    · exact out_1 a0 a1 l0 u0 l1 hm c0 w
  · rcases Int.lt_or_le a0 16 with c0 | c0
    · exact in_4 a0 a1 l0 u0 l1 hm c0 w
    · exact out_4 a0 a1 l0 u0 l1 hm c0 w
  · rcases Int.lt_or_le a0 32 with c0 | c0
    · exact in_5 a0 a1 l0 u0 l1 hm c0 w
    · exact out_5 a0 a1 l0 u0 l1 hm c0 w
  · rcases Int.lt_or_le a0 1024 with c0 | c0
    · exact in_10 a0 a1 l0 u0 l1 hm c0 w
    · exact out_10 a0 a1 l0 u0 l1 hm c0 w
  · rcases Int.lt_or_le a0 2048 with c0 | c0
    · exact in_11 a0 a1 l0 u0 l1 hm c0 w
    · exact out_11 a0 a1 l0 u0 l1 hm c0 w

/-! ### THE ROW's STEP: WRITTEN OUT: LEAVE IT -/
set_option maxRecDepth 100000 in
theorem lifted (os : Os) (started : os.Started) (H : Type) (enc : TypeId × Value → H) :
    ReturnsInHanded {} Try.checked os 10 .any (Rows.fnDecompressSpec.pre6 enc Try.prog Try.f10 Rows.fnDecompressRow.domain false) (Rows.fnDecompressSpec.post enc Try.prog Try.f10 false true false false) := by
  refine returnsInHanded_of_change (C := Try.checked) own started (by kernel_rfl) Try.func10
    (ChangeSpec.witness6 (enc := enc) (C := Try.checked) false ⟨#[], #[.int .u16 0, .int .u8 0], []⟩ 8 (by kernel_rfl) (by kernel_rfl) (by kernel_rfl) (by kernel_rfl)) ?_
  intro W base args ds gs before hval0 hW hcnd _
  have hval : ∀ (j : Nat) t v, Try.f10.params[j]? = some t → args[j]? = some v → Value.okWide Try.prog W .any base t v := hval0
  have hW' := hW
  obtain ⟨p, q, hA0, hV, rfl, hfz, hnd⟩ := hW
  have hA : DataW.TrodAll enc Try.prog W 0 (fun _ => true) true Try.f10.params.toList args.toList ds p := hA0
  rw [Try.params10] at hA hval
  obtain ⟨v0, vs0, d0, ds0, p0, q0, hargs, rfl, rfl, h0, r0⟩ := trodAll_cons hA
  obtain ⟨v1, vs1, d1, ds1, p1, q1, rfl, rfl, rfl, h1, r1⟩ := trodAll_cons r0
  obtain ⟨rfl, rfl, rfl⟩ := trodAll_nil r1
  obtain rfl : args = #[v0, v1] := by cases args; simp_all
  obtain ⟨rfl, rfl⟩ := trodVars_none hV
  obtain ⟨a0, rfl, rfl, rfl, w0⟩ := open_int Try.underlying22 (hval 0 22 v0 rfl rfl) h0
  obtain ⟨a1, rfl, rfl, rfl, w1⟩ := open_int Try.underlying5 (hval 1 5 v1 rfl rfl) h1
  clear hA0 hval0
  simp only [List.append_nil] at hW'
  refine (walk a0 a1 w0 w1 W).mono fun e W' ⟨he, hg⟩ => ?_
  subst he
  exact ⟨_, rfl, post_of_same (pa := []) (pv := []) hW' (fun _ _ _ => (trodAll_cons_mk (shut_bool Try.underlying4 _) trodAll_mk0)) (fun sp _ => (trodAll_cons_mk (shut_int Try.underlying22 w0) (trodAll_cons_mk (shut_int Try.underlying5 w1) trodAll_mk0))) (fun _ _ => rfl) rfl
    (hg.frame _) hg.2.1 (ok_one (by kernel_rfl) rfl (okWide_bool_mk Try.underlying4 _))⟩

theorem over : Rows.fnDecompressRow.holds Try.pinned (OpenSpec.ofChange Rows.fnDecompressSpec) :=
  OpenClaim.holds_of_wide 10 Try.f10 rfl rfl rfl rfl rfl rfl rfl ⟨rfl, rfl, rfl, rfl, rfl⟩ rfl rfl rfl rfl rfl (by kernel_rfl) Try.func10 (by kernel_rfl)
    (of_decide_eq_true (by kernel_rfl)) (by unfold Func.isWrapper; first | (rw [if_pos (by decide +kernel)]; kernel_rfl) | (rw [if_neg (by decide +kernel)]; exact ⟨rfl, rfl⟩))
    (fun os started H enc _ => lifted os started H enc)

/-- ████ THE STATEMENT ████ -/
theorem proved : Rows.FnDecompressSaid :=
  over
#print axioms proved
end Go.Proofs.Ytnkkkgpdfhgmgaa.fnDecompress
