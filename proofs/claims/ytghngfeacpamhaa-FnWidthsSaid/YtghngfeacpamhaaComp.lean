/-
  compress and decompress (FIPS 203, definitions 4.7 and 4.8) for every width d from 1 to 11: what each returns. Conditions: a field element below 3329 for compress; a number below 2 to the d for decompress.
-/
import Derived.Test.YtghngfeacpamhaaField
namespace Go.Proofs.Ytghngfeacpamhaa
open Go.RowKit

/-- The nearest of 2 to the d steps, a half goes up. -/
def cmpr (d : Nat) (x : Int) : Int := (2 * (x * 2 ^ d) + 3329) / 6658 % 2 ^ d
/-- The nearest number to a step, a half goes up. -/
def dcmp (d : Nat) (y : Int) : Int := (6658 * y + 2 ^ d) / 2 ^ (d + 1)

theorem u32_mask1 (a : Int) (h0 : 0 ≤ a) (h1 : a < 4294967296) : bits .and .u32 a 1 = a % 2 := by
  rw [u32_and a 1 h0 h1 (by omega) (by omega)]
  rw [show (1 : Int).toNat = 1 from rfl, nat_mask1]; omega
theorem u32_mask2 (a : Int) (h0 : 0 ≤ a) (h1 : a < 4294967296) : bits .and .u32 a 3 = a % 4 := by
  rw [u32_and a 3 h0 h1 (by omega) (by omega)]
  rw [show (3 : Int).toNat = 3 from rfl, nat_mask2]; omega
theorem u32_mask3 (a : Int) (h0 : 0 ≤ a) (h1 : a < 4294967296) : bits .and .u32 a 7 = a % 8 := by
  rw [u32_and a 7 h0 h1 (by omega) (by omega)]
  rw [show (7 : Int).toNat = 7 from rfl, nat_mask3]; omega
theorem u32_mask4 (a : Int) (h0 : 0 ≤ a) (h1 : a < 4294967296) : bits .and .u32 a 15 = a % 16 := by
  rw [u32_and a 15 h0 h1 (by omega) (by omega)]
  rw [show (15 : Int).toNat = 15 from rfl, nat_mask4]; omega
theorem u32_mask5 (a : Int) (h0 : 0 ≤ a) (h1 : a < 4294967296) : bits .and .u32 a 31 = a % 32 := by
  rw [u32_and a 31 h0 h1 (by omega) (by omega)]
  rw [show (31 : Int).toNat = 31 from rfl, nat_mask5]; omega
theorem u32_mask6 (a : Int) (h0 : 0 ≤ a) (h1 : a < 4294967296) : bits .and .u32 a 63 = a % 64 := by
  rw [u32_and a 63 h0 h1 (by omega) (by omega)]
  rw [show (63 : Int).toNat = 63 from rfl, nat_mask6]; omega
theorem u32_mask7 (a : Int) (h0 : 0 ≤ a) (h1 : a < 4294967296) : bits .and .u32 a 127 = a % 128 := by
  rw [u32_and a 127 h0 h1 (by omega) (by omega)]
  rw [show (127 : Int).toNat = 127 from rfl, nat_mask7]; omega
theorem u32_mask8 (a : Int) (h0 : 0 ≤ a) (h1 : a < 4294967296) : bits .and .u32 a 255 = a % 256 := by
  rw [u32_and a 255 h0 h1 (by omega) (by omega)]
  rw [show (255 : Int).toNat = 255 from rfl, nat_mask8]; omega
theorem u32_mask9 (a : Int) (h0 : 0 ≤ a) (h1 : a < 4294967296) : bits .and .u32 a 511 = a % 512 := by
  rw [u32_and a 511 h0 h1 (by omega) (by omega)]
  rw [show (511 : Int).toNat = 511 from rfl, nat_mask9]; omega
theorem u32_mask10 (a : Int) (h0 : 0 ≤ a) (h1 : a < 4294967296) : bits .and .u32 a 1023 = a % 1024 := by
  rw [u32_and a 1023 h0 h1 (by omega) (by omega)]
  rw [show (1023 : Int).toNat = 1023 from rfl, nat_mask10]; omega
theorem u32_mask11 (a : Int) (h0 : 0 ≤ a) (h1 : a < 4294967296) : bits .and .u32 a 2047 = a % 2048 := by
  rw [u32_and a 2047 h0 h1 (by omega) (by omega)]
  rw [show (2047 : Int).toNat = 2047 from rfl, nat_mask11]; omega

/-- The rounding of a Barrett quotient: the rest r is below 2 times 3329, and one is put on where it passes a half, once more where it passes 1 1/2. -/
theorem round_up (D Q a b : Int) (h0 : 0 ≤ D - Q * 3329) (h1 : D - Q * 3329 < 6658)
    (ha : a = (1664 - (D - Q * 3329)) % 4294967296 / 2147483648) (hb : b = (4993 - (D - Q * 3329)) % 4294967296 / 2147483648) :
    0 ≤ a ∧ a ≤ 1 ∧ 0 ≤ b ∧ b ≤ 1 ∧ Q + a + b = (2 * D + 3329) / 6658 := by
  obtain ⟨r, hr⟩ : ∃ r, r = D - Q * 3329 := ⟨_, rfl⟩
  rw [← hr] at h0 h1 ha hb
  rcases Int.lt_or_le 1664 r with h | h
  · have a1 : a = 1 := by omega
    rcases Int.lt_or_le 4993 r with g | g
    · have b1 : b = 1 := by omega
      omega
    · have b1 : b = 0 := by omega
      omega
  · have a1 : a = 0 := by omega
    have b1 : b = 0 := by omega
    omega

theorem bit31 (n : Int) : n / 2147483648 % 2 = n % 4294967296 / 2147483648 := by omega
theorem twice (n : Int) : n % 4294967296 % 4294967296 = n % 4294967296 := by omega
theorem half_up (u : Int) : u / 2 + u % 2 = (u + 1) / 2 := by omega
theorem low16 (S : Int) (h0 : 0 ≤ S) (h1 : S < 65536) : S % 4294967296 % 65536 = S := by omega
theorem low_of (S p : Int) (h0 : 0 ≤ S) (h1 : S < 4294967296) (hp : 0 < p) (hp' : p ≤ 65536) : S % 4294967296 % p % 65536 = S % p := by
  rw [Int.emod_eq_of_lt h0 h1]
  exact Int.emod_eq_of_lt (Int.emod_nonneg _ (by omega)) (Int.lt_of_lt_of_le (Int.emod_lt_of_pos _ hp) hp')

set_option maxHeartbeats 400000 in
theorem compress_1 (x : Int) (w : World) (h0 : 0 ≤ x) (h1 : x < 3329) :
    Calls Try.prog 61 #[.int .u16 x, .int .u8 1] w fun e w' => e = .returned (.int .u16 (cmpr 1 x)) ∧ w = w' := by
  go_enter Try.func61, Try.ntmps61
  go_wp2
  go_ret
  refine ⟨ret_int ?_, rfl⟩
  have hb := barrett (x * 2) (by omega) (by omega)
  obtain ⟨q0, q1⟩ : 0 ≤ x * 2 * 5039 / 16777216 ∧ x * 2 * 5039 / 16777216 < 4294967 := by omega
  have hc := round_up (x * 2) (x * 2 * 5039 / 16777216) _ _ hb.1 hb.2 rfl rfl
  show _ = (2 * (x * 2) + 3329) / 6658 % 2
  rw [← hc.2.2.2.2]
  rw [IntKind.wrap_u16, u32_mask1 _ (by omega) (by omega)]
  rw [u32_mask1 _ (by omega) (by omega), u32_mask1 _ (by omega) (by omega)]
  simp only [bit31, twice]
  exact low_of _ 2 (by omega) (by omega) (by omega) (by omega)

set_option maxHeartbeats 400000 in
theorem compress_2 (x : Int) (w : World) (h0 : 0 ≤ x) (h1 : x < 3329) :
    Calls Try.prog 61 #[.int .u16 x, .int .u8 2] w fun e w' => e = .returned (.int .u16 (cmpr 2 x)) ∧ w = w' := by
  go_enter Try.func61, Try.ntmps61
  go_wp2
  go_ret
  refine ⟨ret_int ?_, rfl⟩
  have hb := barrett (x * 4) (by omega) (by omega)
  obtain ⟨q0, q1⟩ : 0 ≤ x * 4 * 5039 / 16777216 ∧ x * 4 * 5039 / 16777216 < 4294967 := by omega
  have hc := round_up (x * 4) (x * 4 * 5039 / 16777216) _ _ hb.1 hb.2 rfl rfl
  show _ = (2 * (x * 4) + 3329) / 6658 % 4
  rw [← hc.2.2.2.2]
  rw [IntKind.wrap_u16, u32_mask2 _ (by omega) (by omega)]
  rw [u32_mask1 _ (by omega) (by omega), u32_mask1 _ (by omega) (by omega)]
  simp only [bit31, twice]
  exact low_of _ 4 (by omega) (by omega) (by omega) (by omega)

set_option maxHeartbeats 400000 in
theorem compress_3 (x : Int) (w : World) (h0 : 0 ≤ x) (h1 : x < 3329) :
    Calls Try.prog 61 #[.int .u16 x, .int .u8 3] w fun e w' => e = .returned (.int .u16 (cmpr 3 x)) ∧ w = w' := by
  go_enter Try.func61, Try.ntmps61
  go_wp2
  go_ret
  refine ⟨ret_int ?_, rfl⟩
  have hb := barrett (x * 8) (by omega) (by omega)
  obtain ⟨q0, q1⟩ : 0 ≤ x * 8 * 5039 / 16777216 ∧ x * 8 * 5039 / 16777216 < 4294967 := by omega
  have hc := round_up (x * 8) (x * 8 * 5039 / 16777216) _ _ hb.1 hb.2 rfl rfl
  show _ = (2 * (x * 8) + 3329) / 6658 % 8
  rw [← hc.2.2.2.2]
  rw [IntKind.wrap_u16, u32_mask3 _ (by omega) (by omega)]
  rw [u32_mask1 _ (by omega) (by omega), u32_mask1 _ (by omega) (by omega)]
  simp only [bit31, twice]
  exact low_of _ 8 (by omega) (by omega) (by omega) (by omega)

set_option maxHeartbeats 400000 in
theorem compress_4 (x : Int) (w : World) (h0 : 0 ≤ x) (h1 : x < 3329) :
    Calls Try.prog 61 #[.int .u16 x, .int .u8 4] w fun e w' => e = .returned (.int .u16 (cmpr 4 x)) ∧ w = w' := by
  go_enter Try.func61, Try.ntmps61
  go_wp2
  go_ret
  refine ⟨ret_int ?_, rfl⟩
  have hb := barrett (x * 16) (by omega) (by omega)
  obtain ⟨q0, q1⟩ : 0 ≤ x * 16 * 5039 / 16777216 ∧ x * 16 * 5039 / 16777216 < 4294967 := by omega
  have hc := round_up (x * 16) (x * 16 * 5039 / 16777216) _ _ hb.1 hb.2 rfl rfl
  show _ = (2 * (x * 16) + 3329) / 6658 % 16
  rw [← hc.2.2.2.2]
  rw [IntKind.wrap_u16, u32_mask4 _ (by omega) (by omega)]
  rw [u32_mask1 _ (by omega) (by omega), u32_mask1 _ (by omega) (by omega)]
  simp only [bit31, twice]
  exact low_of _ 16 (by omega) (by omega) (by omega) (by omega)

set_option maxHeartbeats 400000 in
theorem compress_5 (x : Int) (w : World) (h0 : 0 ≤ x) (h1 : x < 3329) :
    Calls Try.prog 61 #[.int .u16 x, .int .u8 5] w fun e w' => e = .returned (.int .u16 (cmpr 5 x)) ∧ w = w' := by
  go_enter Try.func61, Try.ntmps61
  go_wp2
  go_ret
  refine ⟨ret_int ?_, rfl⟩
  have hb := barrett (x * 32) (by omega) (by omega)
  obtain ⟨q0, q1⟩ : 0 ≤ x * 32 * 5039 / 16777216 ∧ x * 32 * 5039 / 16777216 < 4294967 := by omega
  have hc := round_up (x * 32) (x * 32 * 5039 / 16777216) _ _ hb.1 hb.2 rfl rfl
  show _ = (2 * (x * 32) + 3329) / 6658 % 32
  rw [← hc.2.2.2.2]
  rw [IntKind.wrap_u16, u32_mask5 _ (by omega) (by omega)]
  rw [u32_mask1 _ (by omega) (by omega), u32_mask1 _ (by omega) (by omega)]
  simp only [bit31, twice]
  exact low_of _ 32 (by omega) (by omega) (by omega) (by omega)

set_option maxHeartbeats 400000 in
theorem compress_6 (x : Int) (w : World) (h0 : 0 ≤ x) (h1 : x < 3329) :
    Calls Try.prog 61 #[.int .u16 x, .int .u8 6] w fun e w' => e = .returned (.int .u16 (cmpr 6 x)) ∧ w = w' := by
  go_enter Try.func61, Try.ntmps61
  go_wp2
  go_ret
  refine ⟨ret_int ?_, rfl⟩
  have hb := barrett (x * 64) (by omega) (by omega)
  obtain ⟨q0, q1⟩ : 0 ≤ x * 64 * 5039 / 16777216 ∧ x * 64 * 5039 / 16777216 < 4294967 := by omega
  have hc := round_up (x * 64) (x * 64 * 5039 / 16777216) _ _ hb.1 hb.2 rfl rfl
  show _ = (2 * (x * 64) + 3329) / 6658 % 64
  rw [← hc.2.2.2.2]
  rw [IntKind.wrap_u16, u32_mask6 _ (by omega) (by omega)]
  rw [u32_mask1 _ (by omega) (by omega), u32_mask1 _ (by omega) (by omega)]
  simp only [bit31, twice]
  exact low_of _ 64 (by omega) (by omega) (by omega) (by omega)

set_option maxHeartbeats 400000 in
theorem compress_7 (x : Int) (w : World) (h0 : 0 ≤ x) (h1 : x < 3329) :
    Calls Try.prog 61 #[.int .u16 x, .int .u8 7] w fun e w' => e = .returned (.int .u16 (cmpr 7 x)) ∧ w = w' := by
  go_enter Try.func61, Try.ntmps61
  go_wp2
  go_ret
  refine ⟨ret_int ?_, rfl⟩
  have hb := barrett (x * 128) (by omega) (by omega)
  obtain ⟨q0, q1⟩ : 0 ≤ x * 128 * 5039 / 16777216 ∧ x * 128 * 5039 / 16777216 < 4294967 := by omega
  have hc := round_up (x * 128) (x * 128 * 5039 / 16777216) _ _ hb.1 hb.2 rfl rfl
  show _ = (2 * (x * 128) + 3329) / 6658 % 128
  rw [← hc.2.2.2.2]
  rw [IntKind.wrap_u16, u32_mask7 _ (by omega) (by omega)]
  rw [u32_mask1 _ (by omega) (by omega), u32_mask1 _ (by omega) (by omega)]
  simp only [bit31, twice]
  exact low_of _ 128 (by omega) (by omega) (by omega) (by omega)

set_option maxHeartbeats 400000 in
theorem compress_8 (x : Int) (w : World) (h0 : 0 ≤ x) (h1 : x < 3329) :
    Calls Try.prog 61 #[.int .u16 x, .int .u8 8] w fun e w' => e = .returned (.int .u16 (cmpr 8 x)) ∧ w = w' := by
  go_enter Try.func61, Try.ntmps61
  go_wp2
  go_ret
  refine ⟨ret_int ?_, rfl⟩
  have hb := barrett (x * 256) (by omega) (by omega)
  obtain ⟨q0, q1⟩ : 0 ≤ x * 256 * 5039 / 16777216 ∧ x * 256 * 5039 / 16777216 < 4294967 := by omega
  have hc := round_up (x * 256) (x * 256 * 5039 / 16777216) _ _ hb.1 hb.2 rfl rfl
  show _ = (2 * (x * 256) + 3329) / 6658 % 256
  rw [← hc.2.2.2.2]
  rw [IntKind.wrap_u16, u32_mask8 _ (by omega) (by omega)]
  rw [u32_mask1 _ (by omega) (by omega), u32_mask1 _ (by omega) (by omega)]
  simp only [bit31, twice]
  exact low_of _ 256 (by omega) (by omega) (by omega) (by omega)

set_option maxHeartbeats 400000 in
theorem compress_9 (x : Int) (w : World) (h0 : 0 ≤ x) (h1 : x < 3329) :
    Calls Try.prog 61 #[.int .u16 x, .int .u8 9] w fun e w' => e = .returned (.int .u16 (cmpr 9 x)) ∧ w = w' := by
  go_enter Try.func61, Try.ntmps61
  go_wp2
  go_ret
  refine ⟨ret_int ?_, rfl⟩
  have hb := barrett (x * 512) (by omega) (by omega)
  obtain ⟨q0, q1⟩ : 0 ≤ x * 512 * 5039 / 16777216 ∧ x * 512 * 5039 / 16777216 < 4294967 := by omega
  have hc := round_up (x * 512) (x * 512 * 5039 / 16777216) _ _ hb.1 hb.2 rfl rfl
  show _ = (2 * (x * 512) + 3329) / 6658 % 512
  rw [← hc.2.2.2.2]
  rw [IntKind.wrap_u16, u32_mask9 _ (by omega) (by omega)]
  rw [u32_mask1 _ (by omega) (by omega), u32_mask1 _ (by omega) (by omega)]
  simp only [bit31, twice]
  exact low_of _ 512 (by omega) (by omega) (by omega) (by omega)

set_option maxHeartbeats 400000 in
theorem compress_10 (x : Int) (w : World) (h0 : 0 ≤ x) (h1 : x < 3329) :
    Calls Try.prog 61 #[.int .u16 x, .int .u8 10] w fun e w' => e = .returned (.int .u16 (cmpr 10 x)) ∧ w = w' := by
  go_enter Try.func61, Try.ntmps61
  go_wp2
  go_ret
  refine ⟨ret_int ?_, rfl⟩
  have hb := barrett (x * 1024) (by omega) (by omega)
  obtain ⟨q0, q1⟩ : 0 ≤ x * 1024 * 5039 / 16777216 ∧ x * 1024 * 5039 / 16777216 < 4294967 := by omega
  have hc := round_up (x * 1024) (x * 1024 * 5039 / 16777216) _ _ hb.1 hb.2 rfl rfl
  show _ = (2 * (x * 1024) + 3329) / 6658 % 1024
  rw [← hc.2.2.2.2]
  rw [IntKind.wrap_u16, u32_mask10 _ (by omega) (by omega)]
  rw [u32_mask1 _ (by omega) (by omega), u32_mask1 _ (by omega) (by omega)]
  simp only [bit31, twice]
  exact low_of _ 1024 (by omega) (by omega) (by omega) (by omega)

set_option maxHeartbeats 400000 in
theorem compress_11 (x : Int) (w : World) (h0 : 0 ≤ x) (h1 : x < 3329) :
    Calls Try.prog 61 #[.int .u16 x, .int .u8 11] w fun e w' => e = .returned (.int .u16 (cmpr 11 x)) ∧ w = w' := by
  go_enter Try.func61, Try.ntmps61
  go_wp2
  go_ret
  refine ⟨ret_int ?_, rfl⟩
  have hb := barrett (x * 2048) (by omega) (by omega)
  obtain ⟨q0, q1⟩ : 0 ≤ x * 2048 * 5039 / 16777216 ∧ x * 2048 * 5039 / 16777216 < 4294967 := by omega
  have hc := round_up (x * 2048) (x * 2048 * 5039 / 16777216) _ _ hb.1 hb.2 rfl rfl
  show _ = (2 * (x * 2048) + 3329) / 6658 % 2048
  rw [← hc.2.2.2.2]
  rw [IntKind.wrap_u16, u32_mask11 _ (by omega) (by omega)]
  rw [u32_mask1 _ (by omega) (by omega), u32_mask1 _ (by omega) (by omega)]
  simp only [bit31, twice]
  exact low_of _ 2048 (by omega) (by omega) (by omega) (by omega)

set_option maxHeartbeats 400000 in
theorem decompress_1 (y : Int) (w : World) (h0 : 0 ≤ y) (h1 : y < 2) :
    Calls Try.prog 60 #[.int .u16 y, .int .u8 1] w fun e w' => e = .returned (.int .u16 (dcmp 1 y)) ∧ w = w' := by
  go_enter Try.func60, Try.ntmps60
  go_wp2
  go_ret
  refine ⟨ret_int ?_, rfl⟩
  show _ = (6658 * y + 2) / 4
  rw [IntKind.wrap_u16, u32_mask1 _ (by omega) (by omega)]
  obtain ⟨u, hu⟩ : ∃ u, u = y * 3329 / 1 := ⟨_, rfl⟩
  have u1 : y * 3329 / 2 = u / 2 := by omega
  have u2 : (6658 * y + 2) / 4 = (u + 1) / 2 := by omega
  have u3 : 0 ≤ u ∧ u < 6658 := by omega
  rw [u1, u2]
  rw [show y * 3329 = u from by omega]
  rw [half_up u]
  exact low16 _ (by omega) (by omega)

set_option maxHeartbeats 400000 in
theorem decompress_2 (y : Int) (w : World) (h0 : 0 ≤ y) (h1 : y < 4) :
    Calls Try.prog 60 #[.int .u16 y, .int .u8 2] w fun e w' => e = .returned (.int .u16 (dcmp 2 y)) ∧ w = w' := by
  go_enter Try.func60, Try.ntmps60
  go_wp2
  go_ret
  refine ⟨ret_int ?_, rfl⟩
  show _ = (6658 * y + 4) / 8
  rw [IntKind.wrap_u16, u32_mask1 _ (by omega) (by omega)]
  obtain ⟨u, hu⟩ : ∃ u, u = y * 3329 / 2 := ⟨_, rfl⟩
  have u1 : y * 3329 / 4 = u / 2 := by omega
  have u2 : (6658 * y + 4) / 8 = (u + 1) / 2 := by omega
  have u3 : 0 ≤ u ∧ u < 6658 := by omega
  rw [u1, u2]
  rw [← hu]
  rw [half_up u]
  exact low16 _ (by omega) (by omega)

set_option maxHeartbeats 400000 in
theorem decompress_3 (y : Int) (w : World) (h0 : 0 ≤ y) (h1 : y < 8) :
    Calls Try.prog 60 #[.int .u16 y, .int .u8 3] w fun e w' => e = .returned (.int .u16 (dcmp 3 y)) ∧ w = w' := by
  go_enter Try.func60, Try.ntmps60
  go_wp2
  go_ret
  refine ⟨ret_int ?_, rfl⟩
  show _ = (6658 * y + 8) / 16
  rw [IntKind.wrap_u16, u32_mask1 _ (by omega) (by omega)]
  obtain ⟨u, hu⟩ : ∃ u, u = y * 3329 / 4 := ⟨_, rfl⟩
  have u1 : y * 3329 / 8 = u / 2 := by omega
  have u2 : (6658 * y + 8) / 16 = (u + 1) / 2 := by omega
  have u3 : 0 ≤ u ∧ u < 6658 := by omega
  rw [u1, u2]
  rw [← hu]
  rw [half_up u]
  exact low16 _ (by omega) (by omega)

set_option maxHeartbeats 400000 in
theorem decompress_4 (y : Int) (w : World) (h0 : 0 ≤ y) (h1 : y < 16) :
    Calls Try.prog 60 #[.int .u16 y, .int .u8 4] w fun e w' => e = .returned (.int .u16 (dcmp 4 y)) ∧ w = w' := by
  go_enter Try.func60, Try.ntmps60
  go_wp2
  go_ret
  refine ⟨ret_int ?_, rfl⟩
  show _ = (6658 * y + 16) / 32
  rw [IntKind.wrap_u16, u32_mask1 _ (by omega) (by omega)]
  obtain ⟨u, hu⟩ : ∃ u, u = y * 3329 / 8 := ⟨_, rfl⟩
  have u1 : y * 3329 / 16 = u / 2 := by omega
  have u2 : (6658 * y + 16) / 32 = (u + 1) / 2 := by omega
  have u3 : 0 ≤ u ∧ u < 6658 := by omega
  rw [u1, u2]
  rw [← hu]
  rw [half_up u]
  exact low16 _ (by omega) (by omega)

set_option maxHeartbeats 400000 in
theorem decompress_5 (y : Int) (w : World) (h0 : 0 ≤ y) (h1 : y < 32) :
    Calls Try.prog 60 #[.int .u16 y, .int .u8 5] w fun e w' => e = .returned (.int .u16 (dcmp 5 y)) ∧ w = w' := by
  go_enter Try.func60, Try.ntmps60
  go_wp2
  go_ret
  refine ⟨ret_int ?_, rfl⟩
  show _ = (6658 * y + 32) / 64
  rw [IntKind.wrap_u16, u32_mask1 _ (by omega) (by omega)]
  obtain ⟨u, hu⟩ : ∃ u, u = y * 3329 / 16 := ⟨_, rfl⟩
  have u1 : y * 3329 / 32 = u / 2 := by omega
  have u2 : (6658 * y + 32) / 64 = (u + 1) / 2 := by omega
  have u3 : 0 ≤ u ∧ u < 6658 := by omega
  rw [u1, u2]
  rw [← hu]
  rw [half_up u]
  exact low16 _ (by omega) (by omega)

set_option maxHeartbeats 400000 in
theorem decompress_6 (y : Int) (w : World) (h0 : 0 ≤ y) (h1 : y < 64) :
    Calls Try.prog 60 #[.int .u16 y, .int .u8 6] w fun e w' => e = .returned (.int .u16 (dcmp 6 y)) ∧ w = w' := by
  go_enter Try.func60, Try.ntmps60
  go_wp2
  go_ret
  refine ⟨ret_int ?_, rfl⟩
  show _ = (6658 * y + 64) / 128
  rw [IntKind.wrap_u16, u32_mask1 _ (by omega) (by omega)]
  obtain ⟨u, hu⟩ : ∃ u, u = y * 3329 / 32 := ⟨_, rfl⟩
  have u1 : y * 3329 / 64 = u / 2 := by omega
  have u2 : (6658 * y + 64) / 128 = (u + 1) / 2 := by omega
  have u3 : 0 ≤ u ∧ u < 6658 := by omega
  rw [u1, u2]
  rw [← hu]
  rw [half_up u]
  exact low16 _ (by omega) (by omega)

set_option maxHeartbeats 400000 in
theorem decompress_7 (y : Int) (w : World) (h0 : 0 ≤ y) (h1 : y < 128) :
    Calls Try.prog 60 #[.int .u16 y, .int .u8 7] w fun e w' => e = .returned (.int .u16 (dcmp 7 y)) ∧ w = w' := by
  go_enter Try.func60, Try.ntmps60
  go_wp2
  go_ret
  refine ⟨ret_int ?_, rfl⟩
  show _ = (6658 * y + 128) / 256
  rw [IntKind.wrap_u16, u32_mask1 _ (by omega) (by omega)]
  obtain ⟨u, hu⟩ : ∃ u, u = y * 3329 / 64 := ⟨_, rfl⟩
  have u1 : y * 3329 / 128 = u / 2 := by omega
  have u2 : (6658 * y + 128) / 256 = (u + 1) / 2 := by omega
  have u3 : 0 ≤ u ∧ u < 6658 := by omega
  rw [u1, u2]
  rw [← hu]
  rw [half_up u]
  exact low16 _ (by omega) (by omega)

set_option maxHeartbeats 400000 in
theorem decompress_8 (y : Int) (w : World) (h0 : 0 ≤ y) (h1 : y < 256) :
    Calls Try.prog 60 #[.int .u16 y, .int .u8 8] w fun e w' => e = .returned (.int .u16 (dcmp 8 y)) ∧ w = w' := by
  go_enter Try.func60, Try.ntmps60
  go_wp2
  go_ret
  refine ⟨ret_int ?_, rfl⟩
  show _ = (6658 * y + 256) / 512
  rw [IntKind.wrap_u16, u32_mask1 _ (by omega) (by omega)]
  obtain ⟨u, hu⟩ : ∃ u, u = y * 3329 / 128 := ⟨_, rfl⟩
  have u1 : y * 3329 / 256 = u / 2 := by omega
  have u2 : (6658 * y + 256) / 512 = (u + 1) / 2 := by omega
  have u3 : 0 ≤ u ∧ u < 6658 := by omega
  rw [u1, u2]
  rw [← hu]
  rw [half_up u]
  exact low16 _ (by omega) (by omega)

set_option maxHeartbeats 400000 in
theorem decompress_9 (y : Int) (w : World) (h0 : 0 ≤ y) (h1 : y < 512) :
    Calls Try.prog 60 #[.int .u16 y, .int .u8 9] w fun e w' => e = .returned (.int .u16 (dcmp 9 y)) ∧ w = w' := by
  go_enter Try.func60, Try.ntmps60
  go_wp2
  go_ret
  refine ⟨ret_int ?_, rfl⟩
  show _ = (6658 * y + 512) / 1024
  rw [IntKind.wrap_u16, u32_mask1 _ (by omega) (by omega)]
  obtain ⟨u, hu⟩ : ∃ u, u = y * 3329 / 256 := ⟨_, rfl⟩
  have u1 : y * 3329 / 512 = u / 2 := by omega
  have u2 : (6658 * y + 512) / 1024 = (u + 1) / 2 := by omega
  have u3 : 0 ≤ u ∧ u < 6658 := by omega
  rw [u1, u2]
  rw [← hu]
  rw [half_up u]
  exact low16 _ (by omega) (by omega)

set_option maxHeartbeats 400000 in
theorem decompress_10 (y : Int) (w : World) (h0 : 0 ≤ y) (h1 : y < 1024) :
    Calls Try.prog 60 #[.int .u16 y, .int .u8 10] w fun e w' => e = .returned (.int .u16 (dcmp 10 y)) ∧ w = w' := by
  go_enter Try.func60, Try.ntmps60
  go_wp2
  go_ret
  refine ⟨ret_int ?_, rfl⟩
  show _ = (6658 * y + 1024) / 2048
  rw [IntKind.wrap_u16, u32_mask1 _ (by omega) (by omega)]
  obtain ⟨u, hu⟩ : ∃ u, u = y * 3329 / 512 := ⟨_, rfl⟩
  have u1 : y * 3329 / 1024 = u / 2 := by omega
  have u2 : (6658 * y + 1024) / 2048 = (u + 1) / 2 := by omega
  have u3 : 0 ≤ u ∧ u < 6658 := by omega
  rw [u1, u2]
  rw [← hu]
  rw [half_up u]
  exact low16 _ (by omega) (by omega)

set_option maxHeartbeats 400000 in
theorem decompress_11 (y : Int) (w : World) (h0 : 0 ≤ y) (h1 : y < 2048) :
    Calls Try.prog 60 #[.int .u16 y, .int .u8 11] w fun e w' => e = .returned (.int .u16 (dcmp 11 y)) ∧ w = w' := by
  go_enter Try.func60, Try.ntmps60
  go_wp2
  go_ret
  refine ⟨ret_int ?_, rfl⟩
  show _ = (6658 * y + 2048) / 4096
  rw [IntKind.wrap_u16, u32_mask1 _ (by omega) (by omega)]
  obtain ⟨u, hu⟩ : ∃ u, u = y * 3329 / 1024 := ⟨_, rfl⟩
  have u1 : y * 3329 / 2048 = u / 2 := by omega
  have u2 : (6658 * y + 2048) / 4096 = (u + 1) / 2 := by omega
  have u3 : 0 ≤ u ∧ u < 6658 := by omega
  rw [u1, u2]
  rw [← hu]
  rw [half_up u]
  exact low16 _ (by omega) (by omega)


theorem compress_any (d : Nat) (x : Int) (w : World) (d0 : 1 ≤ d) (d1 : d ≤ 11) (h0 : 0 ≤ x) (h1 : x < 3329) :
    Calls Try.prog 61 #[.int .u16 x, .int .u8 (d : Int)] w fun e w' => e = .returned (.int .u16 (cmpr d x)) ∧ w = w' := by
  obtain rfl | rfl | rfl | rfl | rfl | rfl | rfl | rfl | rfl | rfl | rfl : d = 1 ∨ d = 2 ∨ d = 3 ∨ d = 4 ∨ d = 5 ∨ d = 6 ∨ d = 7 ∨ d = 8 ∨ d = 9 ∨ d = 10 ∨ d = 11 := by omega
  · exact compress_1 x w h0 h1
  · exact compress_2 x w h0 h1
  · exact compress_3 x w h0 h1
  · exact compress_4 x w h0 h1
  · exact compress_5 x w h0 h1
  · exact compress_6 x w h0 h1
  · exact compress_7 x w h0 h1
  · exact compress_8 x w h0 h1
  · exact compress_9 x w h0 h1
  · exact compress_10 x w h0 h1
  · exact compress_11 x w h0 h1
theorem decompress_any (d : Nat) (y : Int) (w : World) (d0 : 1 ≤ d) (d1 : d ≤ 11) (h0 : 0 ≤ y) (h1 : y < 2 ^ d) :
    Calls Try.prog 60 #[.int .u16 y, .int .u8 (d : Int)] w fun e w' => e = .returned (.int .u16 (dcmp d y)) ∧ w = w' := by
  obtain rfl | rfl | rfl | rfl | rfl | rfl | rfl | rfl | rfl | rfl | rfl : d = 1 ∨ d = 2 ∨ d = 3 ∨ d = 4 ∨ d = 5 ∨ d = 6 ∨ d = 7 ∨ d = 8 ∨ d = 9 ∨ d = 10 ∨ d = 11 := by omega
  · exact decompress_1 y w h0 h1
  · exact decompress_2 y w h0 h1
  · exact decompress_3 y w h0 h1
  · exact decompress_4 y w h0 h1
  · exact decompress_5 y w h0 h1
  · exact decompress_6 y w h0 h1
  · exact decompress_7 y w h0 h1
  · exact decompress_8 y w h0 h1
  · exact decompress_9 y w h0 h1
  · exact decompress_10 y w h0 h1
  · exact decompress_11 y w h0 h1
end Go.Proofs.Ytghngfeacpamhaa
