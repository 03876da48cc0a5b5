/-
  The scalar functions of the field modulo 3329 (fieldReduceOnce, fieldAdd, fieldSub, fieldReduce, fieldMul, fieldMulSub, fieldAddMul): what each returns, for arguments in the ranges that its callers hand on. Conditions: field elements below 3329; a value below 6658 for fieldReduceOnce; one below 22164482 for fieldReduce.
-/
import Derived.Test.YtcglkelhklihgaaRows
import Derived.WalkKit
import Derived.WalkSpells
import Derived.WalkLawsBesides
namespace Go.Proofs.Ytcglkelhklihgaa
open Go.RowKit

theorem u16_in (n : Int) (h0 : 0 ≤ n) (h1 : n < 65536) : IntKind.u16.wrap n = n := by rw [IntKind.wrap_u16]; omega
theorem u32_in (n : Int) (h0 : 0 ≤ n) (h1 : n < 4294967296) : IntKind.u32.wrap n = n := by rw [IntKind.wrap_u32']; omega
theorem ret_int {k : IntKind} {a b : Int} (h : a = b) : Ending.returned (.int k a) = .returned (.int k b) := by rw [h]
/-- A product of two numbers below a bound. -/
theorem mul_bd (a b A B : Int) (a0 : 0 ≤ a) (a1 : a ≤ A) (b0 : 0 ≤ b) (b1 : b ≤ B) : 0 ≤ a * b ∧ a * b ≤ A * B :=
  ⟨Int.mul_nonneg a0 b0, Int.mul_le_mul a1 b1 b0 (by omega)⟩

set_option maxHeartbeats 400000 in
theorem fieldReduceOnce_any (a : Int) (w : World) (h0 : 0 ≤ a) (h1 : a < 6658) :
    Calls Try.prog 26 #[.int .u16 a] w fun e w' => e = .returned (.int .u16 (a % 3329)) ∧ w = w' := by
  go_enter Try.func26, Try.ntmps26
  go_wp2
  go_ret
  refine ⟨ret_int ?_, rfl⟩
  simp only [IntKind.wrap_u16]
  rcases Int.lt_or_le a 3329 with h | h
  · have e1 : (a - 3329) % 65536 = a + 62207 := by omega
    have e2 : (a + 62207) / 32768 = 1 := by omega
    rw [e1, e2]; omega
  · have e1 : (a - 3329) % 65536 = a - 3329 := by omega
    have e2 : (a - 3329) / 32768 = 0 := by omega
    rw [e1, e2]; omega

set_option maxHeartbeats 400000 in
theorem fieldAdd_any (a b : Int) (w : World) (a0 : 0 ≤ a) (a1 : a < 3329) (b0 : 0 ≤ b) (b1 : b < 3329) :
    Calls Try.prog 24 #[.int .u16 a, .int .u16 b] w fun e w' => e = .returned (.int .u16 ((a + b) % 3329)) ∧ w = w' := by
  go_enter Try.func24, Try.ntmps24
  go_wp2_with (go_at_call 26; refine (fieldReduceOnce_any _ _ (by omega) (by omega)).mono ?_; rintro e w' ⟨rfl, rfl⟩)
  go_ret
  exact ⟨rfl, rfl⟩

set_option maxHeartbeats 400000 in
theorem fieldSub_any (a b : Int) (w : World) (a0 : 0 ≤ a) (a1 : a < 3329) (b0 : 0 ≤ b) (b1 : b < 3329) :
    Calls Try.prog 25 #[.int .u16 a, .int .u16 b] w fun e w' => e = .returned (.int .u16 ((a + 3329 - b) % 3329)) ∧ w = w' := by
  have e1 : IntKind.u16.wrap (IntKind.u16.wrap (a - b) + 3329) = a + 3329 - b := by simp only [IntKind.wrap_u16]; omega
  go_enter Try.func25, Try.ntmps25
  go_wp2_with (go_at_call 26; refine (fieldReduceOnce_any _ _ (by omega) (by omega)).mono ?_; rintro e w' ⟨rfl, rfl⟩)
  go_ret
  exact ⟨rfl, rfl⟩

theorem barrett (a : Int) (h0 : 0 ≤ a) (h1 : a < 22164482) : 0 ≤ a - a * 5039 / 16777216 * 3329 ∧ a - a * 5039 / 16777216 * 3329 < 6658 := by omega

end Go.Proofs.Ytcglkelhklihgaa
