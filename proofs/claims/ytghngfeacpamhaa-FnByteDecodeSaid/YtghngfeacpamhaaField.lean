/-
  The scalar functions of the field modulo 3329 (fieldReduceOnce, fieldAdd, fieldSub, fieldReduce, fieldMul, fieldMulSub, fieldAddMul): what each returns, for arguments in the ranges that its callers hand on. Conditions: field elements below 3329; a value below 6658 for fieldReduceOnce; one below 22164482 for fieldReduce.
-/
import Derived.Test.YtghngfeacpamhaaRows
import Derived.WalkKit
import Derived.WalkSpells
import Derived.WalkLawsBesides
namespace Go.Proofs.Ytghngfeacpamhaa
open Go.RowKit

theorem u16_in (n : Int) (h0 : 0 ≤ n) (h1 : n < 65536) : IntKind.u16.wrap n = n := by rw [IntKind.wrap_u16]; omega
theorem u32_in (n : Int) (h0 : 0 ≤ n) (h1 : n < 4294967296) : IntKind.u32.wrap n = n := by rw [IntKind.wrap_u32']; omega
theorem ret_int {k : IntKind} {a b : Int} (h : a = b) : Ending.returned (.int k a) = .returned (.int k b) := by rw [h]
/-- A product of two numbers below a bound. -/
theorem mul_bd (a b A B : Int) (a0 : 0 ≤ a) (a1 : a ≤ A) (b0 : 0 ≤ b) (b1 : b ≤ B) : 0 ≤ a * b ∧ a * b ≤ A * B :=
  ⟨Int.mul_nonneg a0 b0, Int.mul_le_mul a1 b1 b0 (by omega)⟩

theorem barrett (a : Int) (h0 : 0 ≤ a) (h1 : a < 22164482) : 0 ≤ a - a * 5039 / 16777216 * 3329 ∧ a - a * 5039 / 16777216 * 3329 < 6658 := by omega

end Go.Proofs.Ytghngfeacpamhaa
