/-
  Compress is the nearest of 2 to the d steps at each width of ML-KEM, for every input (the law 'FnCompress' returns true); no further condition. The frame round the walk is the kit's proof skeleton.
-/
import Derived.Test.YtnkkkgpdfhgmgaaRows
import Derived.Test.YtnkkkgpdfhgmgaaWidth
import Derived.Test.YtnkkkgpdfhgmgaaImplA
import Derived.Test.YtnkkkgpdfhgmgaaReg
import Derived.Test.YtnkkkgpdfhgmgaaRedFew
import Derived.WalkKit
import Derived.ProofKit
import Derived.OpenShut
import Derived.Lib.Hide
namespace Go.Proofs.Ytnkkkgpdfhgmgaa.fnCompress
open Go.ChangeShapes Go.WideShapes Go.ChangeAt Go.RowKit
set_option linter.unusedVariables false      -- a walk need not use every 'w<i>' (that an integer argument fits its kind)

theorem own : ownKnob Try.prog.godebug = none := by kernel_rfl

/-! ### STEP 1: THE WALK: the Go text returns true. 'Grown w w'': the world has at most new blocks (Derived/RowKit3.lean). Part the cases AHEAD of 'go_enter' where a test parts the walk; take each callee by a contract of your own. -/
set_option maxHeartbeats 1000000 in
theorem in_1 (a0 : Int) (a1 : Int) (l0 : 0 ≤ a0) (u0 : a0 ≤ 65535) (l1 : 0 ≤ a1) (hm : a1 % 5 = 0) (c0 : a0 < 3329) (w : World) :
    Calls Try.prog 12 #[.int .u16 a0, .int .u8 a1] w fun e w' => e = .returned (.bool true) ∧ Grown w w' := by
  have hd : 0 ≤ cmpr 1 a0 ∧ cmpr 1 a0 ≤ 65535 := by simp only [cmpr]; omega
  have he : (cmpr 1 a0 == (2 * (a0 * 2) + 3329) / 6658 % 2) = true := by simp only [cmpr]; simp
  obtain ⟨d0, d1⟩ := hd
  have hc := fun W : World => implCompress_1 a0 W l0 c0
  generalize hD : cmpr 1 a0 = D at *
  have HC := Lib.hid hc; clear hc hD
  go_enter Try.func12, Try.ntmps12
  go_wp2_with (go_at_call 23; refine (width_case _ _ 0 1 (by omega) hm (by omega)).mono ?_; rintro e w1 ⟨rfl, rfl⟩)
  refine wp_region_pre_quiet 5 (fun w w' => ∃ m, w' = w.drewN m) (fun w => ⟨0, rfl⟩) (by kernel_rfl) (by kernel_rfl) rfl (by kernel_rfl) (by kernel_rfl) ?_
  simp only [List.take_succ_cons, List.take_zero, List.drop_succ_cons, List.drop_zero]
  go_wp2_with (go_at_call 16; refine (reduced1_drew_yes a0 _ c0).mono ?_; rintro e w1 ⟨rfl, rfl⟩)
  obtain ⟨W1, hW1, hg⟩ : ∃ W1, (w.alloc (.cells #[.int .u16 a0] 22)).drew = W1 ∧ Grown w W1 := ⟨_, rfl, by repeat (first | exact Grown.refl _ | apply Grown.drew | apply Grown.alloc)⟩
  rw [hW1]
  clear hW1
  refine ⟨?_⟩
  repeat (go_big_quiet_step ((go_at_call 26; exact quiet_flip (HC.out _))))
  refine wpQuiet_nil ?_
  intro _ hw'
  obtain ⟨nq, hw''⟩ := hw'
  subst hw''
  go_wp2
  go_ret
  exact ⟨rfl, by repeat (first | exact hg | apply Grown.drew | apply Grown.alloc)⟩
set_option maxHeartbeats 1000000 in
theorem out_1 (a0 : Int) (a1 : Int) (l0 : 0 ≤ a0) (u0 : a0 ≤ 65535) (l1 : 0 ≤ a1) (hm : a1 % 5 = 0) (c0 : 3329 ≤ a0) (w : World) :
    Calls Try.prog 12 #[.int .u16 a0, .int .u8 a1] w fun e w' => e = .returned (.bool true) ∧ Grown w w' := by
  go_enter Try.func12, Try.ntmps12
  go_wp2_with (go_at_call 23; refine (width_case _ _ 0 1 (by omega) hm (by omega)).mono ?_; rintro e w1 ⟨rfl, rfl⟩)
  refine wp_region_pre_quiet 5 (fun w w' => ∃ m, w' = w.drewN m) (fun w => ⟨0, rfl⟩) (by kernel_rfl) (by kernel_rfl) rfl (by kernel_rfl) (by kernel_rfl) ?_
  simp only [List.take_succ_cons, List.take_zero, List.drop_succ_cons, List.drop_zero]
  go_wp2_with (go_at_call 16; refine (reduced1_drew_no a0 _ c0).mono ?_; rintro e w1 ⟨rfl, rfl⟩)
  obtain ⟨W1, hW1, hg⟩ : ∃ W1, (w.alloc (.cells #[.int .u16 a0] 22)).drew = W1 ∧ Grown w W1 := ⟨_, rfl, by repeat (first | exact Grown.refl _ | apply Grown.drew | apply Grown.alloc)⟩
  rw [hW1]
  clear hW1
  refine ⟨?_⟩
  repeat (go_big_quiet_step (fail))
  refine wpQuiet_nil ?_
  intro _ hw'
  obtain ⟨nq, hw''⟩ := hw'
  subst hw''
  go_wp2
  go_ret
  exact ⟨rfl, by repeat (first | exact hg | apply Grown.drew | apply Grown.alloc)⟩
set_option maxHeartbeats 1000000 in
theorem in_4 (a0 : Int) (a1 : Int) (l0 : 0 ≤ a0) (u0 : a0 ≤ 65535) (l1 : 0 ≤ a1) (hm : a1 % 5 = 1) (c0 : a0 < 3329) (w : World) :
    Calls Try.prog 12 #[.int .u16 a0, .int .u8 a1] w fun e w' => e = .returned (.bool true) ∧ Grown w w' := by
  have hd : 0 ≤ cmpr 4 a0 ∧ cmpr 4 a0 ≤ 65535 := by simp only [cmpr]; omega
  have he : (cmpr 4 a0 == (2 * (a0 * 16) + 3329) / 6658 % 16) = true := by simp only [cmpr]; simp
  obtain ⟨d0, d1⟩ := hd
  have hc := fun W : World => implCompress_4 a0 W l0 c0
  generalize hD : cmpr 4 a0 = D at *
  have HC := Lib.hid hc; clear hc hD
  go_enter Try.func12, Try.ntmps12
  go_wp2_with (go_at_call 23; refine (width_case _ _ 1 4 (by omega) hm (by omega)).mono ?_; rintro e w1 ⟨rfl, rfl⟩)
  refine wp_region_pre_quiet 5 (fun w w' => ∃ m, w' = w.drewN m) (fun w => ⟨0, rfl⟩) (by kernel_rfl) (by kernel_rfl) rfl (by kernel_rfl) (by kernel_rfl) ?_
  simp only [List.take_succ_cons, List.take_zero, List.drop_succ_cons, List.drop_zero]
  go_wp2_with (go_at_call 16; refine (reduced1_drew_yes a0 _ c0).mono ?_; rintro e w1 ⟨rfl, rfl⟩)
  obtain ⟨W1, hW1, hg⟩ : ∃ W1, (w.alloc (.cells #[.int .u16 a0] 22)).drew = W1 ∧ Grown w W1 := ⟨_, rfl, by repeat (first | exact Grown.refl _ | apply Grown.drew | apply Grown.alloc)⟩
  rw [hW1]
  clear hW1
  refine ⟨?_⟩
  repeat (go_big_quiet_step ((go_at_call 26; exact quiet_flip (HC.out _))))
  refine wpQuiet_nil ?_
  intro _ hw'
  obtain ⟨nq, hw''⟩ := hw'
  subst hw''
  go_wp2
  go_ret
  exact ⟨rfl, by repeat (first | exact hg | apply Grown.drew | apply Grown.alloc)⟩
set_option maxHeartbeats 1000000 in
theorem out_4 (a0 : Int) (a1 : Int) (l0 : 0 ≤ a0) (u0 : a0 ≤ 65535) (l1 : 0 ≤ a1) (hm : a1 % 5 = 1) (c0 : 3329 ≤ a0) (w : World) :
    Calls Try.prog 12 #[.int .u16 a0, .int .u8 a1] w fun e w' => e = .returned (.bool true) ∧ Grown w w' := by
  go_enter Try.func12, Try.ntmps12
  go_wp2_with (go_at_call 23; refine (width_case _ _ 1 4 (by omega) hm (by omega)).mono ?_; rintro e w1 ⟨rfl, rfl⟩)
  refine wp_region_pre_quiet 5 (fun w w' => ∃ m, w' = w.drewN m) (fun w => ⟨0, rfl⟩) (by kernel_rfl) (by kernel_rfl) rfl (by kernel_rfl) (by kernel_rfl) ?_
  simp only [List.take_succ_cons, List.take_zero, List.drop_succ_cons, List.drop_zero]
  go_wp2_with (go_at_call 16; refine (reduced1_drew_no a0 _ c0).mono ?_; rintro e w1 ⟨rfl, rfl⟩)
  obtain ⟨W1, hW1, hg⟩ : ∃ W1, (w.alloc (.cells #[.int .u16 a0] 22)).drew = W1 ∧ Grown w W1 := ⟨_, rfl, by repeat (first | exact Grown.refl _ | apply Grown.drew | apply Grown.alloc)⟩
  rw [hW1]
  clear hW1
  refine ⟨?_⟩
  repeat (go_big_quiet_step (fail))
  refine wpQuiet_nil ?_
  intro _ hw'
  obtain ⟨nq, hw''⟩ := hw'
  subst hw''
  go_wp2
  go_ret
  exact ⟨rfl, by repeat (first | exact hg | apply Grown.drew | apply Grown.alloc)⟩
set_option maxHeartbeats 1000000 in
theorem in_5 (a0 : Int) (a1 : Int) (l0 : 0 ≤ a0) (u0 : a0 ≤ 65535) (l1 : 0 ≤ a1) (hm : a1 % 5 = 2) (c0 : a0 < 3329) (w : World) :
    Calls Try.prog 12 #[.int .u16 a0, .int .u8 a1] w fun e w' => e = .returned (.bool true) ∧ Grown w w' := by
  have hd : 0 ≤ cmpr 5 a0 ∧ cmpr 5 a0 ≤ 65535 := by simp only [cmpr]; omega
  have he : (cmpr 5 a0 == (2 * (a0 * 32) + 3329) / 6658 % 32) = true := by simp only [cmpr]; simp
  obtain ⟨d0, d1⟩ := hd
  have hc := fun W : World => implCompress_5 a0 W l0 c0
  generalize hD : cmpr 5 a0 = D at *
  have HC := Lib.hid hc; clear hc hD
  go_enter Try.func12, Try.ntmps12
  go_wp2_with (go_at_call 23; refine (width_case _ _ 2 5 (by omega) hm (by omega)).mono ?_; rintro e w1 ⟨rfl, rfl⟩)
  refine wp_region_pre_quiet 5 (fun w w' => ∃ m, w' = w.drewN m) (fun w => ⟨0, rfl⟩) (by kernel_rfl) (by kernel_rfl) rfl (by kernel_rfl) (by kernel_rfl) ?_
  simp only [List.take_succ_cons, List.take_zero, List.drop_succ_cons, List.drop_zero]
  go_wp2_with (go_at_call 16; refine (reduced1_drew_yes a0 _ c0).mono ?_; rintro e w1 ⟨rfl, rfl⟩)
  obtain ⟨W1, hW1, hg⟩ : ∃ W1, (w.alloc (.cells #[.int .u16 a0] 22)).drew = W1 ∧ Grown w W1 := ⟨_, rfl, by repeat (first | exact Grown.refl _ | apply Grown.drew | apply Grown.alloc)⟩
  rw [hW1]
  clear hW1
  refine ⟨?_⟩
  repeat (go_big_quiet_step ((go_at_call 26; exact quiet_flip (HC.out _))))
  refine wpQuiet_nil ?_
  intro _ hw'
  obtain ⟨nq, hw''⟩ := hw'
  subst hw''
  go_wp2
  go_ret
  exact ⟨rfl, by repeat (first | exact hg | apply Grown.drew | apply Grown.alloc)⟩
set_option maxHeartbeats 1000000 in
theorem out_5 (a0 : Int) (a1 : Int) (l0 : 0 ≤ a0) (u0 : a0 ≤ 65535) (l1 : 0 ≤ a1) (hm : a1 % 5 = 2) (c0 : 3329 ≤ a0) (w : World) :
    Calls Try.prog 12 #[.int .u16 a0, .int .u8 a1] w fun e w' => e = .returned (.bool true) ∧ Grown w w' := by
  go_enter Try.func12, Try.ntmps12
  go_wp2_with (go_at_call 23; refine (width_case _ _ 2 5 (by omega) hm (by omega)).mono ?_; rintro e w1 ⟨rfl, rfl⟩)
  refine wp_region_pre_quiet 5 (fun w w' => ∃ m, w' = w.drewN m) (fun w => ⟨0, rfl⟩) (by kernel_rfl) (by kernel_rfl) rfl (by kernel_rfl) (by kernel_rfl) ?_
  simp only [List.take_succ_cons, List.take_zero, List.drop_succ_cons, List.drop_zero]
  go_wp2_with (go_at_call 16; refine (reduced1_drew_no a0 _ c0).mono ?_; rintro e w1 ⟨rfl, rfl⟩)
  obtain ⟨W1, hW1, hg⟩ : ∃ W1, (w.alloc (.cells #[.int .u16 a0] 22)).drew = W1 ∧ Grown w W1 := ⟨_, rfl, by repeat (first | exact Grown.refl _ | apply Grown.drew | apply Grown.alloc)⟩
  rw [hW1]
  clear hW1
  refine ⟨?_⟩
  repeat (go_big_quiet_step (fail))
  refine wpQuiet_nil ?_
  intro _ hw'
  obtain ⟨nq, hw''⟩ := hw'
  subst hw''
  go_wp2
  go_ret
  exact ⟨rfl, by repeat (first | exact hg | apply Grown.drew | apply Grown.alloc)⟩
set_option maxHeartbeats 1000000 in
theorem in_10 (a0 : Int) (a1 : Int) (l0 : 0 ≤ a0) (u0 : a0 ≤ 65535) (l1 : 0 ≤ a1) (hm : a1 % 5 = 3) (c0 : a0 < 3329) (w : World) :
    Calls Try.prog 12 #[.int .u16 a0, .int .u8 a1] w fun e w' => e = .returned (.bool true) ∧ Grown w w' := by
  have hd : 0 ≤ cmpr 10 a0 ∧ cmpr 10 a0 ≤ 65535 := by simp only [cmpr]; omega
  have he : (cmpr 10 a0 == (2 * (a0 * 1024) + 3329) / 6658 % 1024) = true := by simp only [cmpr]; simp
  obtain ⟨d0, d1⟩ := hd
  have hc := fun W : World => implCompress_10 a0 W l0 c0
  generalize hD : cmpr 10 a0 = D at *
  have HC := Lib.hid hc; clear hc hD
  go_enter Try.func12, Try.ntmps12
  go_wp2_with (go_at_call 23; refine (width_case _ _ 3 10 (by omega) hm (by omega)).mono ?_; rintro e w1 ⟨rfl, rfl⟩)
  refine wp_region_pre_quiet 5 (fun w w' => ∃ m, w' = w.drewN m) (fun w => ⟨0, rfl⟩) (by kernel_rfl) (by kernel_rfl) rfl (by kernel_rfl) (by kernel_rfl) ?_
  simp only [List.take_succ_cons, List.take_zero, List.drop_succ_cons, List.drop_zero]
  go_wp2_with (go_at_call 16; refine (reduced1_drew_yes a0 _ c0).mono ?_; rintro e w1 ⟨rfl, rfl⟩)
  obtain ⟨W1, hW1, hg⟩ : ∃ W1, (w.alloc (.cells #[.int .u16 a0] 22)).drew = W1 ∧ Grown w W1 := ⟨_, rfl, by repeat (first | exact Grown.refl _ | apply Grown.drew | apply Grown.alloc)⟩
  rw [hW1]
  clear hW1
  refine ⟨?_⟩
  repeat (go_big_quiet_step ((go_at_call 26; exact quiet_flip (HC.out _))))
  refine wpQuiet_nil ?_
  intro _ hw'
  obtain ⟨nq, hw''⟩ := hw'
  subst hw''
  go_wp2
  go_ret
  exact ⟨rfl, by repeat (first | exact hg | apply Grown.drew | apply Grown.alloc)⟩
set_option maxHeartbeats 1000000 in
theorem out_10 (a0 : Int) (a1 : Int) (l0 : 0 ≤ a0) (u0 : a0 ≤ 65535) (l1 : 0 ≤ a1) (hm : a1 % 5 = 3) (c0 : 3329 ≤ a0) (w : World) :
    Calls Try.prog 12 #[.int .u16 a0, .int .u8 a1] w fun e w' => e = .returned (.bool true) ∧ Grown w w' := by
  go_enter Try.func12, Try.ntmps12
  go_wp2_with (go_at_call 23; refine (width_case _ _ 3 10 (by omega) hm (by omega)).mono ?_; rintro e w1 ⟨rfl, rfl⟩)
  refine wp_region_pre_quiet 5 (fun w w' => ∃ m, w' = w.drewN m) (fun w => ⟨0, rfl⟩) (by kernel_rfl) (by kernel_rfl) rfl (by kernel_rfl) (by kernel_rfl) ?_
  simp only [List.take_succ_cons, List.take_zero, List.drop_succ_cons, List.drop_zero]
  go_wp2_with (go_at_call 16; refine (reduced1_drew_no a0 _ c0).mono ?_; rintro e w1 ⟨rfl, rfl⟩)
  obtain ⟨W1, hW1, hg⟩ : ∃ W1, (w.alloc (.cells #[.int .u16 a0] 22)).drew = W1 ∧ Grown w W1 := ⟨_, rfl, by repeat (first | exact Grown.refl _ | apply Grown.drew | apply Grown.alloc)⟩
  rw [hW1]
  clear hW1
  refine ⟨?_⟩
  repeat (go_big_quiet_step (fail))
  refine wpQuiet_nil ?_
  intro _ hw'
  obtain ⟨nq, hw''⟩ := hw'
  subst hw''
  go_wp2
  go_ret
  exact ⟨rfl, by repeat (first | exact hg | apply Grown.drew | apply Grown.alloc)⟩
set_option maxHeartbeats 1000000 in
theorem in_11 (a0 : Int) (a1 : Int) (l0 : 0 ≤ a0) (u0 : a0 ≤ 65535) (l1 : 0 ≤ a1) (hm : a1 % 5 = 4) (c0 : a0 < 3329) (w : World) :
    Calls Try.prog 12 #[.int .u16 a0, .int .u8 a1] w fun e w' => e = .returned (.bool true) ∧ Grown w w' := by
  have hd : 0 ≤ cmpr 11 a0 ∧ cmpr 11 a0 ≤ 65535 := by simp only [cmpr]; omega
  have he : (cmpr 11 a0 == (2 * (a0 * 2048) + 3329) / 6658 % 2048) = true := by simp only [cmpr]; simp
  obtain ⟨d0, d1⟩ := hd
  have hc := fun W : World => implCompress_11 a0 W l0 c0
  generalize hD : cmpr 11 a0 = D at *
  have HC := Lib.hid hc; clear hc hD
  go_enter Try.func12, Try.ntmps12
  go_wp2_with (go_at_call 23; refine (width_case _ _ 4 11 (by omega) hm (by omega)).mono ?_; rintro e w1 ⟨rfl, rfl⟩)
  refine wp_region_pre_quiet 5 (fun w w' => ∃ m, w' = w.drewN m) (fun w => ⟨0, rfl⟩) (by kernel_rfl) (by kernel_rfl) rfl (by kernel_rfl) (by kernel_rfl) ?_
  simp only [List.take_succ_cons, List.take_zero, List.drop_succ_cons, List.drop_zero]
  go_wp2_with (go_at_call 16; refine (reduced1_drew_yes a0 _ c0).mono ?_; rintro e w1 ⟨rfl, rfl⟩)
  obtain ⟨W1, hW1, hg⟩ : ∃ W1, (w.alloc (.cells #[.int .u16 a0] 22)).drew = W1 ∧ Grown w W1 := ⟨_, rfl, by repeat (first | exact Grown.refl _ | apply Grown.drew | apply Grown.alloc)⟩
  rw [hW1]
  clear hW1
  refine ⟨?_⟩
  repeat (go_big_quiet_step ((go_at_call 26; exact quiet_flip (HC.out _))))
  refine wpQuiet_nil ?_
  intro _ hw'
  obtain ⟨nq, hw''⟩ := hw'
  subst hw''
  go_wp2
  go_ret
  exact ⟨rfl, by repeat (first | exact hg | apply Grown.drew | apply Grown.alloc)⟩
set_option maxHeartbeats 1000000 in
theorem out_11 (a0 : Int) (a1 : Int) (l0 : 0 ≤ a0) (u0 : a0 ≤ 65535) (l1 : 0 ≤ a1) (hm : a1 % 5 = 4) (c0 : 3329 ≤ a0) (w : World) :
    Calls Try.prog 12 #[.int .u16 a0, .int .u8 a1] w fun e w' => e = .returned (.bool true) ∧ Grown w w' := by
  go_enter Try.func12, Try.ntmps12
  go_wp2_with (go_at_call 23; refine (width_case _ _ 4 11 (by omega) hm (by omega)).mono ?_; rintro e w1 ⟨rfl, rfl⟩)
  refine wp_region_pre_quiet 5 (fun w w' => ∃ m, w' = w.drewN m) (fun w => ⟨0, rfl⟩) (by kernel_rfl) (by kernel_rfl) rfl (by kernel_rfl) (by kernel_rfl) ?_
  simp only [List.take_succ_cons, List.take_zero, List.drop_succ_cons, List.drop_zero]
  go_wp2_with (go_at_call 16; refine (reduced1_drew_no a0 _ c0).mono ?_; rintro e w1 ⟨rfl, rfl⟩)
  obtain ⟨W1, hW1, hg⟩ : ∃ W1, (w.alloc (.cells #[.int .u16 a0] 22)).drew = W1 ∧ Grown w W1 := ⟨_, rfl, by repeat (first | exact Grown.refl _ | apply Grown.drew | apply Grown.alloc)⟩
  rw [hW1]
  clear hW1
  refine ⟨?_⟩
  repeat (go_big_quiet_step (fail))
  refine wpQuiet_nil ?_
  intro _ hw'
  obtain ⟨nq, hw''⟩ := hw'
  subst hw''
  go_wp2
  go_ret
  exact ⟨rfl, by repeat (first | exact hg | apply Grown.drew | apply Grown.alloc)⟩

set_option maxHeartbeats 1000000 in
theorem walk (a0 : Int) (a1 : Int) (w0 : (Lit.int .u16 a0).wf = true) (w1 : (Lit.int .u8 a1).wf = true) (w : World) :
    Calls Try.prog 12 #[.int .u16 a0, .int .u8 a1] w fun e w' => e = .returned (.bool true) ∧ Grown w w' := by
  obtain ⟨l0, u0⟩ := bounds_u16 w0
  obtain ⟨l1, u1⟩ := bounds_u8 w1
  clear w0 w1
  obtain hm | hm | hm | hm | hm : a1 % 5 = 0 ∨ a1 % 5 = 1 ∨ a1 % 5 = 2 ∨ a1 % 5 = 3 ∨ a1 % 5 = 4 := by omega
  · rcases Int.lt_or_le a0 3329 with c0 | c0
    · exact in_1 a0 a1 l0 u0 l1 hm c0 w
    · exact out_1 a0 a1 l0 u0 l1 hm c0 w
  · rcases Int.lt_or_le a0 3329 with c0 | c0
    · exact in_4 a0 a1 l0 u0 l1 hm c0 w
    · exact out_4 a0 a1 l0 u0 l1 hm c0 w
  · rcases Int.lt_or_le a0 3329 with c0 | c0
    · exact in_5 a0 a1 l0 u0 l1 hm c0 w
    · exact out_5 a0 a1 l0 u0 l1 hm c0 w
  · rcases Int.lt_or_le a0 3329 with c0 | c0
    · exact in_10 a0 a1 l0 u0 l1 hm c0 w
    · exact out_10 a0 a1 l0 u0 l1 hm c0 w
  · rcases Int.lt_or_le a0 3329 with c0 | c0
    · exact in_11 a0 a1 l0 u0 l1 hm c0 w
    · exact out_11 a0 a1 l0 u0 l1 hm c0 w

/-! ### THE ROW's STEP: WRITTEN OUT: LEAVE IT -/
set_option maxRecDepth 100000 in
theorem lifted (os : Os) (started : os.Started) (H : Type) (enc : TypeId × Value → H) :
    ReturnsInHanded {} Try.checked os 12 .any (Rows.fnCompressSpec.pre6 enc Try.prog Try.f12 Rows.fnCompressRow.domain false) (Rows.fnCompressSpec.post enc Try.prog Try.f12 false true false false) := by
  refine returnsInHanded_of_change (C := Try.checked) own started (by kernel_rfl) Try.func12
    (ChangeSpec.witness6 (enc := enc) (C := Try.checked) false ⟨#[], #[.int .u16 0, .int .u8 0], []⟩ 8 (by kernel_rfl) (by kernel_rfl) (by kernel_rfl) (by kernel_rfl)) ?_
  intro W base args ds gs before hval0 hW hcnd _
  have hval : ∀ (j : Nat) t v, Try.f12.params[j]? = some t → args[j]? = some v → Value.okWide Try.prog W .any base t v := hval0
  have hW' := hW
  obtain ⟨p, q, hA0, hV, rfl, hfz, hnd⟩ := hW
  have hA : DataW.TrodAll enc Try.prog W 0 (fun _ => true) true Try.f12.params.toList args.toList ds p := hA0
  rw [Try.params12] at hA hval
  obtain ⟨v0, vs0, d0, ds0, p0, q0, hargs, rfl, rfl, h0, r0⟩ := trodAll_cons hA
  obtain ⟨v1, vs1, d1, ds1, p1, q1, rfl, rfl, rfl, h1, r1⟩ := trodAll_cons r0
  obtain ⟨rfl, rfl, rfl⟩ := trodAll_nil r1
  obtain rfl : args = #[v0, v1] := by cases args; simp_all
  obtain ⟨rfl, rfl⟩ := trodVars_none hV
  obtain ⟨a0, rfl, rfl, rfl, w0⟩ := open_int Try.underlying22 (hval 0 22 v0 rfl rfl) h0
  obtain ⟨a1, rfl, rfl, rfl, w1⟩ := open_int Try.underlying5 (hval 1 5 v1 rfl rfl) h1
  clear hA0 hval0
  simp only [List.append_nil] at hW'
  refine (walk a0 a1 w0 w1 W).mono fun e W' ⟨he, hg⟩ => ?_
  subst he
  exact ⟨_, rfl, post_of_same (pa := []) (pv := []) hW' (fun _ _ _ => (trodAll_cons_mk (shut_bool Try.underlying4 _) trodAll_mk0)) (fun sp _ => (trodAll_cons_mk (shut_int Try.underlying22 w0) (trodAll_cons_mk (shut_int Try.underlying5 w1) trodAll_mk0))) (fun _ _ => rfl) rfl
    (hg.frame _) hg.2.1 (ok_one (by kernel_rfl) rfl (okWide_bool_mk Try.underlying4 _))⟩

theorem over : Rows.fnCompressRow.holds Try.pinned (OpenSpec.ofChange Rows.fnCompressSpec) :=
  OpenClaim.holds_of_wide 12 Try.f12 rfl rfl rfl rfl rfl rfl rfl ⟨rfl, rfl, rfl, rfl, rfl⟩ rfl rfl rfl rfl rfl (by kernel_rfl) Try.func12 (by kernel_rfl)
    (of_decide_eq_true (by kernel_rfl)) (by unfold Func.isWrapper; first | (rw [if_pos (by decide +kernel)]; kernel_rfl) | (rw [if_neg (by decide +kernel)]; exact ⟨rfl, rfl⟩))
    (fun os started H enc _ => lifted os started H enc)

/-- ████ THE STATEMENT ████ -/
theorem proved : Rows.FnCompressSaid :=
  over
#print axioms proved
end Go.Proofs.Ytnkkkgpdfhgmgaa.fnCompress
