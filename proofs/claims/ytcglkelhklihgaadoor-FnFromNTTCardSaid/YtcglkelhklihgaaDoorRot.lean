/-
  spec.reversed, spec.power and spec.root: what each returns. Conditions: a number below 128 for reversed and root, one from 0 on (below 1000000) for power.
-/
import Derived.Test.YtcglkelhklihgaaDoorTyp
import Derived.Test.YtcglkelhklihgaaDoorField
import Derived.Test.YtcglkelhklihgaaDoorNtt
import Derived.Lib.Hide
namespace Go.Proofs.YtcglkelhklihgaaDoor
open Go.RowKit

/-- The bits that were taken, from the other end. -/
def rvl (n : Nat) : Nat → Nat
  | 0 => 0
  | k + 1 => 2 * rvl n k + n / 2 ^ k % 2
theorem rvl_bd (n : Nat) : ∀ k, rvl n k < 2 ^ k := by
  intro k
  induction k with
  | zero => exact Nat.one_pos
  | succ k ih => rw [Nat.pow_succ]; simp only [rvl]; omega
theorem rvl_seven (n : Nat) : rvl n 7 = rev7 n := by
  simp only [rvl, rev7]
  simp only [Nat.reducePow, Nat.div_one]
  omega
set_option maxRecDepth 100000 in
set_option maxHeartbeats 1000000 in
theorem reversed_any (n : Nat) (w : World) (hn : n < 128) :
    Calls Tryd.prog 29 #[.int .i64 n] w fun e w' => e = .returned (.int .i64 (rev7 n : Nat)) ∧ w = w' := by
  go_enter Tryd.func29, Tryd.ntmps29
  go_wp2
  go_loop [0, 3, 4] (fun a o i => ∃ k : Nat, k ≤ 7 ∧ i = .int .i64 k ∧ o = .int .i64 (rvl n k : Nat) ∧ a = .int .i64 (n / 2 ^ k : Nat)) (fun _ _ i => 7 - (intOf i).toNat)
  case atStart => exact ⟨0, by omega, rfl, rfl, by simp⟩
  case round =>
    obtain ⟨k, hk, rfl, rfl, rfl⟩ := hrel
    by_cases hlt : k < 7
    · have h1 := rvl_bd n k
      have h2 : 2 ^ k ≤ 64 := Nat.pow_le_pow_right (by omega) (show k ≤ 6 by omega)
      have h3 : n / 2 ^ k ≤ n := Nat.div_le_self _ _
      have h4 : rvl n (k + 1) = 2 * rvl n k + n / 2 ^ k % 2 := rfl
      have h5 : n / 2 ^ (k + 1) = n / 2 ^ k / 2 := by rw [Nat.pow_succ, Nat.div_div_eq_div_mul]
      have H4 := Lib.hid h4; clear h4
      have H5 := Lib.hid h5; clear h5
      generalize n / 2 ^ k = q at *
      generalize rvl n k = o at *
      generalize 2 ^ k = p at *
      go_wp2
      go_round
      case rel => exact ⟨k + 1, by omega, by go_num, by rw [H4.out]; go_num, by rw [H5.out]; go_num⟩
      case measure => simp [intOf]; omega
    · obtain rfl : k = 7 := by omega
      have H := Lib.hid (rvl_seven n)
      generalize rvl n 7 = o at *
      go_wp2
      go_ret
      exact ⟨by rw [← H.out]; rfl, rfl⟩
set_option maxRecDepth 100000 in
set_option maxHeartbeats 1000000 in
theorem power_any (n : Nat) (w : World) (hn : n < 1000000) :
    Calls Tryd.prog 28 #[.int .i64 n] w fun e w' => e = .returned (.int .i64 (pw 17 (n % 256))) ∧ w = w' := by
  go_enter Tryd.func28, Tryd.ntmps28
  go_wp2
  go_loop [3, 4] (fun o i => ∃ k : Nat, k ≤ n % 256 ∧ i = .int .i64 (n % 256 - k : Nat) ∧ o = .int .i64 (pw 17 k)) (fun _ i => (intOf i).toNat)
  case atStart => exact ⟨0, by omega, by go_num, rfl⟩
  case round =>
    obtain ⟨k, hk, rfl, rfl⟩ := hrel
    obtain ⟨p0, p1⟩ := pw_bd 17 k
    have H := Lib.hid (show pw 17 (k + 1) = pw 17 k * 17 % 3329 from rfl)
    generalize hm : n % 256 = m at *
    have hm2 : m < 256 := by omega
    have HM := Lib.hid hm; clear hm
    by_cases hlt : k < m
    · generalize pw 17 k = o at *
      go_wp2
      go_round
      case rel => exact ⟨k + 1, by omega, by go_num, by rw [H.out]⟩
      case measure => simp [intOf]; omega
    · obtain rfl : k = m := by omega
      clear H
      generalize hO : pw 17 k = o at *
      have HO := Lib.hid hO; clear hO
      go_wp2
      go_ret
      exact ⟨ret_int (by rw [HM.out, HO.out]), rfl⟩
theorem rev7_bd (n : Nat) : rev7 n < 128 := by unfold rev7; omega
set_option maxRecDepth 100000 in
set_option maxHeartbeats 1000000 in
theorem root_any (n : Nat) (w : World) (hn : n < 128) :
    Calls Tryd.prog 23 #[.int .i64 n] w fun e w' => e = .returned (.int .i64 (gam n)) ∧ w = w' := by
  have h1 := rev7_bd n
  have C1 := Lib.hid fun W => reversed_any n W hn
  have C2 := Lib.hid fun W => power_any (2 * rev7 n + 1) W (by omega)
  have H := Lib.hid (show gam n = pw 17 ((2 * rev7 n + 1) % 256) by rw [Nat.mod_eq_of_lt (by omega)]; rfl)
  generalize rev7 n = q at *
  go_enter Tryd.func23, Tryd.ntmps23
  go_wp2_with fail
  refine (C1.out _).mono ?_
  rintro e w1 ⟨rfl, rfl⟩
  go_wp2_with fail
  rw [show (2 * (q : Int) + 1) = ((2 * q + 1 : Nat) : Int) from by omega]
  refine (C2.out _).mono ?_
  rintro e w1 ⟨rfl, rfl⟩
  rw [← H.out]
  go_wp2
  go_ret
  exact ⟨rfl, rfl⟩
end Go.Proofs.YtcglkelhklihgaaDoor
