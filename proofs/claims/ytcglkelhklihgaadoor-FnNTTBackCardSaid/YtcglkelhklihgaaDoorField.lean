/-
  The scalar functions of the field modulo 3329 (fieldReduceOnce, fieldAdd, fieldSub, fieldReduce, fieldMul, fieldMulSub, fieldAddMul): what each returns, for arguments in the ranges that its callers hand on. Conditions: field elements below 3329; a value below 6658 for fieldReduceOnce; one below 22164482 for fieldReduce.
-/
import Derived.Test.YtcglkelhklihgaaDoorRows
import Derived.WalkKit
import Derived.WalkSpells
import Derived.WalkLawsBesides
namespace Go.Proofs.YtcglkelhklihgaaDoor
open Go.RowKit

theorem u16_in (n : Int) (h0 : 0 ≤ n) (h1 : n < 65536) : IntKind.u16.wrap n = n := by rw [IntKind.wrap_u16]; omega
theorem u32_in (n : Int) (h0 : 0 ≤ n) (h1 : n < 4294967296) : IntKind.u32.wrap n = n := by rw [IntKind.wrap_u32']; omega
theorem ret_int {k : IntKind} {a b : Int} (h : a = b) : Ending.returned (.int k a) = .returned (.int k b) := by rw [h]
/-- A product of two numbers below a bound. -/
theorem mul_bd (a b A B : Int) (a0 : 0 ≤ a) (a1 : a ≤ A) (b0 : 0 ≤ b) (b1 : b ≤ B) : 0 ≤ a * b ∧ a * b ≤ A * B :=
  ⟨Int.mul_nonneg a0 b0, Int.mul_le_mul a1 b1 b0 (by omega)⟩

set_option maxHeartbeats 400000 in
theorem fieldReduceOnce_any (a : Int) (w : World) (h0 : 0 ≤ a) (h1 : a < 6658) :
    Calls Tryd.prog 43 #[.int .u16 a] w fun e w' => e = .returned (.int .u16 (a % 3329)) ∧ w = w' := by
  go_enter Tryd.func43, Tryd.ntmps43
  go_wp2
  go_ret
  refine ⟨ret_int ?_, rfl⟩
  simp only [IntKind.wrap_u16]
  rcases Int.lt_or_le a 3329 with h | h
  · have e1 : (a - 3329) % 65536 = a + 62207 := by omega
    have e2 : (a + 62207) / 32768 = 1 := by omega
    rw [e1, e2]; omega
  · have e1 : (a - 3329) % 65536 = a - 3329 := by omega
    have e2 : (a - 3329) / 32768 = 0 := by omega
    rw [e1, e2]; omega

set_option maxHeartbeats 400000 in
theorem fieldAdd_any (a b : Int) (w : World) (a0 : 0 ≤ a) (a1 : a < 3329) (b0 : 0 ≤ b) (b1 : b < 3329) :
    Calls Tryd.prog 40 #[.int .u16 a, .int .u16 b] w fun e w' => e = .returned (.int .u16 ((a + b) % 3329)) ∧ w = w' := by
  go_enter Tryd.func40, Tryd.ntmps40
  go_wp2_with (go_at_call 43; refine (fieldReduceOnce_any _ _ (by omega) (by omega)).mono ?_; rintro e w' ⟨rfl, rfl⟩)
  go_ret
  exact ⟨rfl, rfl⟩

set_option maxHeartbeats 400000 in
theorem fieldSub_any (a b : Int) (w : World) (a0 : 0 ≤ a) (a1 : a < 3329) (b0 : 0 ≤ b) (b1 : b < 3329) :
    Calls Tryd.prog 39 #[.int .u16 a, .int .u16 b] w fun e w' => e = .returned (.int .u16 ((a + 3329 - b) % 3329)) ∧ w = w' := by
  have e1 : IntKind.u16.wrap (IntKind.u16.wrap (a - b) + 3329) = a + 3329 - b := by simp only [IntKind.wrap_u16]; omega
  go_enter Tryd.func39, Tryd.ntmps39
  go_wp2_with (go_at_call 43; refine (fieldReduceOnce_any _ _ (by omega) (by omega)).mono ?_; rintro e w' ⟨rfl, rfl⟩)
  go_ret
  exact ⟨rfl, rfl⟩

theorem barrett (a : Int) (h0 : 0 ≤ a) (h1 : a < 22164482) : 0 ≤ a - a * 5039 / 16777216 * 3329 ∧ a - a * 5039 / 16777216 * 3329 < 6658 := by omega

set_option maxHeartbeats 400000 in
theorem fieldReduce_any (a : Int) (w : World) (h0 : 0 ≤ a) (h1 : a < 22164482) :
    Calls Tryd.prog 42 #[.int .u32 a] w fun e w' => e = .returned (.int .u16 (a % 3329)) ∧ w = w' := by
  have hb := barrett a h0 h1
  go_enter Tryd.func42, Tryd.ntmps42
  go_wp2_with (go_at_call 43; refine (fieldReduceOnce_any _ _ hb.1 hb.2).mono ?_; rintro e w' ⟨rfl, rfl⟩)
  go_ret
  exact ⟨ret_int (by omega), rfl⟩

set_option maxHeartbeats 400000 in
theorem fieldMul_any (a b : Int) (w : World) (a0 : 0 ≤ a) (a1 : a < 3329) (b0 : 0 ≤ b) (b1 : b < 3329) :
    Calls Tryd.prog 38 #[.int .u16 a, .int .u16 b] w fun e w' => e = .returned (.int .u16 ((a * b) % 3329)) ∧ w = w' := by
  obtain ⟨m0, m1⟩ := mul_bd a b 3328 3328 a0 (by omega) b0 (by omega)
  go_enter Tryd.func38, Tryd.ntmps38
  go_wp2_with (go_at_call 42; refine (fieldReduce_any _ _ (by omega) (by omega)).mono ?_; rintro e w' ⟨rfl, rfl⟩)
  go_ret
  exact ⟨rfl, rfl⟩

set_option maxHeartbeats 400000 in
theorem fieldMulSub_any (a b c : Int) (w : World) (a0 : 0 ≤ a) (a1 : a < 3329) (b0 : 0 ≤ b) (b1 : b < 3329) (c0 : 0 ≤ c) (c1 : c < 3329) :
    Calls Tryd.prog 41 #[.int .u16 a, .int .u16 b, .int .u16 c] w fun e w' => e = .returned (.int .u16 ((a * (b + 3329 - c)) % 3329)) ∧ w = w' := by
  obtain ⟨m0, m1⟩ := mul_bd a (b + 3329 - c) 3328 6657 a0 (by omega) (by omega) (by omega)
  have e1 : IntKind.u16.wrap (IntKind.u16.wrap (b - c) + 3329) = b + 3329 - c := by simp only [IntKind.wrap_u16]; omega
  go_enter Tryd.func41, Tryd.ntmps41
  go_wp2_with (go_at_call 42; refine (fieldReduce_any _ _ (by omega) (by omega)).mono ?_; rintro e w' ⟨rfl, rfl⟩)
  go_ret
  exact ⟨rfl, rfl⟩

set_option maxHeartbeats 400000 in
theorem fieldAddMul_any (a b c d : Int) (w : World) (a0 : 0 ≤ a) (a1 : a < 3329) (b0 : 0 ≤ b) (b1 : b < 3329) (c0 : 0 ≤ c) (c1 : c < 3329) (d0 : 0 ≤ d) (d1 : d < 3329) :
    Calls Tryd.prog 37 #[.int .u16 a, .int .u16 b, .int .u16 c, .int .u16 d] w fun e w' => e = .returned (.int .u16 ((a * b + c * d) % 3329)) ∧ w = w' := by
  obtain ⟨m0, m1⟩ := mul_bd a b 3328 3328 a0 (by omega) b0 (by omega)
  obtain ⟨n0, n1⟩ := mul_bd c d 3328 3328 c0 (by omega) d0 (by omega)
  go_enter Tryd.func37, Tryd.ntmps37
  go_wp2_with (go_at_call 42; refine (fieldReduce_any _ _ (by omega) (by omega)).mono ?_; rintro e w' ⟨rfl, rfl⟩)
  go_ret
  exact ⟨rfl, rfl⟩
end Go.Proofs.YtcglkelhklihgaaDoor
