/-
  The thin package's Compress and Decompress at the five widths, and FieldCheck: what each returns. Conditions: a field element below 3329 for Compress, a step below 2 to the d for Decompress.
-/
import Derived.Test.YtnkkkgpdfhgmgaaComp
import Derived.Test.YtnkkkgpdfhgmgaaReg
namespace Go.Proofs.Ytnkkkgpdfhgmgaa
open Go.RowKit

set_option maxHeartbeats 400000 in
theorem implCompress_1 (y : Int) (w : World) (h0 : 0 ≤ y) (h1 : y < 3329) :
    Calls Try.prog 26 #[.int .u16 y, .int .u8 1] w fun e w' => e = .returned (.int .u16 (cmpr 1 y)) ∧ w = w' := by
  have hd : 0 ≤ cmpr 1 y ∧ cmpr 1 y ≤ 65535 := by simp only [cmpr]; omega
  go_enter Try.func26, Try.ntmps26
  go_wp2_with (first | (go_at_call 46; refine (compress_1 _ _ (by omega) (by omega)).mono ?_; rintro e w' ⟨rfl, rfl⟩) | go_in)
  go_ret
  exact ⟨rfl, rfl⟩
set_option maxHeartbeats 400000 in
theorem implDecompress_1 (y : Int) (w : World) (h0 : 0 ≤ y) (h1 : y < 2) :
    Calls Try.prog 24 #[.int .u16 y, .int .u8 1] w fun e w' => e = .returned (.int .u16 (dcmp 1 y)) ∧ w = w' := by
  have hd : 0 ≤ dcmp 1 y ∧ dcmp 1 y ≤ 65535 := by simp only [dcmp]; omega
  go_enter Try.func24, Try.ntmps24
  go_wp2_with (first | (go_at_call 44; refine (decompress_1 _ _ (by omega) (by omega)).mono ?_; rintro e w' ⟨rfl, rfl⟩) | go_in)
  go_ret
  exact ⟨rfl, rfl⟩

set_option maxHeartbeats 400000 in
theorem implCompress_4 (y : Int) (w : World) (h0 : 0 ≤ y) (h1 : y < 3329) :
    Calls Try.prog 26 #[.int .u16 y, .int .u8 4] w fun e w' => e = .returned (.int .u16 (cmpr 4 y)) ∧ w = w' := by
  have hd : 0 ≤ cmpr 4 y ∧ cmpr 4 y ≤ 65535 := by simp only [cmpr]; omega
  go_enter Try.func26, Try.ntmps26
  go_wp2_with (first | (go_at_call 46; refine (compress_4 _ _ (by omega) (by omega)).mono ?_; rintro e w' ⟨rfl, rfl⟩) | go_in)
  go_ret
  exact ⟨rfl, rfl⟩
set_option maxHeartbeats 400000 in
theorem implDecompress_4 (y : Int) (w : World) (h0 : 0 ≤ y) (h1 : y < 16) :
    Calls Try.prog 24 #[.int .u16 y, .int .u8 4] w fun e w' => e = .returned (.int .u16 (dcmp 4 y)) ∧ w = w' := by
  have hd : 0 ≤ dcmp 4 y ∧ dcmp 4 y ≤ 65535 := by simp only [dcmp]; omega
  go_enter Try.func24, Try.ntmps24
  go_wp2_with (first | (go_at_call 44; refine (decompress_4 _ _ (by omega) (by omega)).mono ?_; rintro e w' ⟨rfl, rfl⟩) | go_in)
  go_ret
  exact ⟨rfl, rfl⟩

set_option maxHeartbeats 400000 in
theorem implCompress_5 (y : Int) (w : World) (h0 : 0 ≤ y) (h1 : y < 3329) :
    Calls Try.prog 26 #[.int .u16 y, .int .u8 5] w fun e w' => e = .returned (.int .u16 (cmpr 5 y)) ∧ w = w' := by
  have hd : 0 ≤ cmpr 5 y ∧ cmpr 5 y ≤ 65535 := by simp only [cmpr]; omega
  go_enter Try.func26, Try.ntmps26
  go_wp2_with (first | (go_at_call 46; refine (compress_5 _ _ (by omega) (by omega)).mono ?_; rintro e w' ⟨rfl, rfl⟩) | go_in)
  go_ret
  exact ⟨rfl, rfl⟩
set_option maxHeartbeats 400000 in
theorem implDecompress_5 (y : Int) (w : World) (h0 : 0 ≤ y) (h1 : y < 32) :
    Calls Try.prog 24 #[.int .u16 y, .int .u8 5] w fun e w' => e = .returned (.int .u16 (dcmp 5 y)) ∧ w = w' := by
  have hd : 0 ≤ dcmp 5 y ∧ dcmp 5 y ≤ 65535 := by simp only [dcmp]; omega
  go_enter Try.func24, Try.ntmps24
  go_wp2_with (first | (go_at_call 44; refine (decompress_5 _ _ (by omega) (by omega)).mono ?_; rintro e w' ⟨rfl, rfl⟩) | go_in)
  go_ret
  exact ⟨rfl, rfl⟩

set_option maxHeartbeats 400000 in
theorem implCompress_10 (y : Int) (w : World) (h0 : 0 ≤ y) (h1 : y < 3329) :
    Calls Try.prog 26 #[.int .u16 y, .int .u8 10] w fun e w' => e = .returned (.int .u16 (cmpr 10 y)) ∧ w = w' := by
  have hd : 0 ≤ cmpr 10 y ∧ cmpr 10 y ≤ 65535 := by simp only [cmpr]; omega
  go_enter Try.func26, Try.ntmps26
  go_wp2_with (first | (go_at_call 46; refine (compress_10 _ _ (by omega) (by omega)).mono ?_; rintro e w' ⟨rfl, rfl⟩) | go_in)
  go_ret
  exact ⟨rfl, rfl⟩
set_option maxHeartbeats 400000 in
theorem implDecompress_10 (y : Int) (w : World) (h0 : 0 ≤ y) (h1 : y < 1024) :
    Calls Try.prog 24 #[.int .u16 y, .int .u8 10] w fun e w' => e = .returned (.int .u16 (dcmp 10 y)) ∧ w = w' := by
  have hd : 0 ≤ dcmp 10 y ∧ dcmp 10 y ≤ 65535 := by simp only [dcmp]; omega
  go_enter Try.func24, Try.ntmps24
  go_wp2_with (first | (go_at_call 44; refine (decompress_10 _ _ (by omega) (by omega)).mono ?_; rintro e w' ⟨rfl, rfl⟩) | go_in)
  go_ret
  exact ⟨rfl, rfl⟩

set_option maxHeartbeats 400000 in
theorem implCompress_11 (y : Int) (w : World) (h0 : 0 ≤ y) (h1 : y < 3329) :
    Calls Try.prog 26 #[.int .u16 y, .int .u8 11] w fun e w' => e = .returned (.int .u16 (cmpr 11 y)) ∧ w = w' := by
  have hd : 0 ≤ cmpr 11 y ∧ cmpr 11 y ≤ 65535 := by simp only [cmpr]; omega
  go_enter Try.func26, Try.ntmps26
  go_wp2_with (first | (go_at_call 46; refine (compress_11 _ _ (by omega) (by omega)).mono ?_; rintro e w' ⟨rfl, rfl⟩) | go_in)
  go_ret
  exact ⟨rfl, rfl⟩
set_option maxHeartbeats 400000 in
theorem implDecompress_11 (y : Int) (w : World) (h0 : 0 ≤ y) (h1 : y < 2048) :
    Calls Try.prog 24 #[.int .u16 y, .int .u8 11] w fun e w' => e = .returned (.int .u16 (dcmp 11 y)) ∧ w = w' := by
  have hd : 0 ≤ dcmp 11 y ∧ dcmp 11 y ≤ 65535 := by simp only [dcmp]; omega
  go_enter Try.func24, Try.ntmps24
  go_wp2_with (first | (go_at_call 44; refine (decompress_11 _ _ (by omega) (by omega)).mono ?_; rintro e w' ⟨rfl, rfl⟩) | go_in)
  go_ret
  exact ⟨rfl, rfl⟩

set_option maxHeartbeats 400000 in
theorem fieldCheck_yes (a : Int) (w : World) (h1 : a < 3329) :
    Calls Try.prog 39 #[.int .u16 a] w fun e w' => e = .returned (.tuple #[.int .u16 a, .nilIface]) ∧ w = w' := by
  go_enter Try.func39, Try.ntmps39
  go_wp2
  go_ret2
  exact ⟨rfl, rfl⟩
set_option maxHeartbeats 400000 in
theorem fieldCheck_no (a : Int) (w : World) (h1 : 3329 ≤ a) :
    Calls Try.prog 39 #[.int .u16 a] w fun e w' => ∃ t v, e = .returned (.tuple #[.int .u16 0, .iface t v]) ∧ ∃ c T, w' = w.alloc (.cells c T) := by
  go_enter Try.func39, Try.ntmps39
  go_wp2
  go_ret2
  exact ⟨_, _, rfl, _, _, rfl⟩
set_option maxHeartbeats 400000 in
theorem implCheck_yes (a : Int) (w : World) (h1 : a < 3329) :
    Calls Try.prog 18 #[.int .u16 a] w fun e w' => e = .returned (.tuple #[.int .u16 a, .bool true]) ∧ ∃ n, w' = w.drewN n := by
  go_enter Try.func18, Try.ntmps18
  go_wp2_with (first | (go_at_call 39; refine (fieldCheck_yes _ _ (by omega)).mono ?_; rintro e w' ⟨rfl, rfl⟩) | go_in)
  go_quiet (fail)
  go_wp2
  go_ret2
  exact ⟨rfl, _, rfl⟩
set_option maxHeartbeats 400000 in
theorem implCheck_no (a : Int) (w : World) (h1 : 3329 ≤ a) :
    Calls Try.prog 18 #[.int .u16 a] w fun e w' => e = .returned (.tuple #[.int .u16 0, .bool false]) ∧ ∃ c T n, w' = (w.alloc (.cells c T)).drewN n := by
  go_enter Try.func18, Try.ntmps18
  go_wp2_with (first | (go_at_call 39; refine (fieldCheck_no _ _ (by omega)).mono ?_; rintro e w' ⟨t, v, rfl, c, T, rfl⟩) | go_in)
  go_quiet (fail)
  go_wp2
  go_ret2
  exact ⟨rfl, _, _, _, rfl⟩
end Go.Proofs.Ytnkkkgpdfhgmgaa
