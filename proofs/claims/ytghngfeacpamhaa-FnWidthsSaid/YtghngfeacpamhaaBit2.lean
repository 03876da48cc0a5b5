/-
  Streams of bits in plain numbers: a part of bits; forty bits as five bytes and as four numbers of ten bits. No program in sight.
-/
import Derived.Test.YtghngfeacpamhaaBit
namespace Go.Proofs.Ytghngfeacpamhaa
theorem bts_sub (B : Nat → Int) (hB : ∀ i, 0 ≤ B i ∧ B i ≤ 1) (lo n a b : Nat) (h : a + b ≤ n) : bts B lo n / 2 ^ a % 2 ^ b = bts B (lo + a) b := by
  obtain ⟨m, rfl⟩ : ∃ m, n = a + (b + m) := ⟨n - a - b, by omega⟩
  rw [bts_add B lo a (b + m), bts_add B (lo + a) b m]
  obtain ⟨h0, h1⟩ := bts_bd B hB lo a
  obtain ⟨h2, h3⟩ := bts_bd B hB (lo + a) b
  rw [Int.add_mul_ediv_left _ _ (Int.ne_of_gt (two_pos a)), Int.ediv_eq_zero_of_lt h0 h1, Int.zero_add, Int.add_mul_emod_self_left, Int.emod_eq_of_lt h2 h3]
/-- Forty bits: five bytes. -/
theorem bts_five (g : Nat → Int) (k : Nat) (h : ∀ j, j < 5 → 0 ≤ g (5 * k + j) ∧ g (5 * k + j) < 256) :
    bts (strm g 8) (k * 40) 40 = g (5 * k) + g (5 * k + 1) * 256 + g (5 * k + 2) * 65536 + g (5 * k + 3) * 16777216 + g (5 * k + 4) * 4294967296 := by
  have e : ∀ j, j < 5 → bts (strm g 8) (k * 40 + j * 8) 8 = g (5 * k + j) := fun j hj => by
    have h1 := bts_strm g 8 (5 * k + j) 0 8 (by omega)
    rw [show k * 40 + j * 8 = (5 * k + j) * 8 + 0 by omega, h1, Int.pow_zero, Int.ediv_one]
    exact Int.emod_eq_of_lt (h j hj).1 (by have := (h j hj).2; omega)
  have e0 := e 0 (by omega)
  have e1 := e 1 (by omega)
  have e2 := e 2 (by omega)
  have e3 := e 3 (by omega)
  have e4 := e 4 (by omega)
  rw [Nat.zero_mul, Nat.add_zero, Nat.add_zero] at e0
  rw [show (40 : Nat) = 8 + (8 + (8 + (8 + 8))) from rfl, bts_add, bts_add, bts_add, bts_add]
  rw [show k * (8 + (8 + (8 + (8 + 8)))) = k * 40 from rfl, show k * 40 + 8 = k * 40 + 1 * 8 by omega, show k * 40 + 1 * 8 + 8 = k * 40 + 2 * 8 by omega, show k * 40 + 2 * 8 + 8 = k * 40 + 3 * 8 by omega, show k * 40 + 3 * 8 + 8 = k * 40 + 4 * 8 by omega, e0, e1, e2, e3, e4]
  rw [show (2 : Int) ^ 8 = 256 from rfl]
  omega
/-- Forty bits: four numbers of ten bits. -/
theorem bts_four (F : Nat → Int) (k : Nat) (h : ∀ j, j < 4 → 0 ≤ F (4 * k + j) ∧ F (4 * k + j) < 1024) :
    bts (strm F 10) (k * 40) 40 = F (4 * k) + F (4 * k + 1) * 1024 + F (4 * k + 2) * 1048576 + F (4 * k + 3) * 1073741824 := by
  have e : ∀ j, j < 4 → bts (strm F 10) (k * 40 + j * 10) 10 = F (4 * k + j) := fun j hj => by
    have h1 := bts_strm F 10 (4 * k + j) 0 10 (by omega)
    rw [show k * 40 + j * 10 = (4 * k + j) * 10 + 0 by omega, h1, Int.pow_zero, Int.ediv_one]
    exact Int.emod_eq_of_lt (h j hj).1 (by have := (h j hj).2; omega)
  have e0 := e 0 (by omega)
  have e1 := e 1 (by omega)
  have e2 := e 2 (by omega)
  have e3 := e 3 (by omega)
  rw [Nat.zero_mul, Nat.add_zero, Nat.add_zero] at e0
  rw [show (40 : Nat) = 10 + (10 + (10 + 10)) from rfl, bts_add, bts_add, bts_add]
  rw [show k * (10 + (10 + (10 + 10))) = k * 40 from rfl, show k * 40 + 10 = k * 40 + 1 * 10 by omega, show k * 40 + 1 * 10 + 10 = k * 40 + 2 * 10 by omega, show k * 40 + 2 * 10 + 10 = k * 40 + 3 * 10 by omega, e0, e1, e2, e3]
  rw [show (2 : Int) ^ 10 = 1024 from rfl]
  omega
/-- The numbers of ten bits that five bytes tell; the bytes of four numbers. -/
theorem dig10 (g : Nat → Int) (k j : Nat) (hj : j < 4) : dig (strm g 8) 10 (4 * k + j) = bts (strm g 8) (k * 40) 40 / 2 ^ (j * 10) % 1024 := by
  have h := bts_sub (strm g 8) (strm_bd g 8) (k * 40) 40 (j * 10) 10 (by omega)
  unfold dig
  rw [show (4 * k + j) * 10 = k * 40 + j * 10 by omega, ← h]
  rfl
theorem byt10 (F : Nat → Int) (k j : Nat) (hj : j < 5) : byt (strm F 10) (5 * k + j) = bts (strm F 10) (k * 40) 40 / 2 ^ (j * 8) % 256 := by
  have h := bts_sub (strm F 10) (strm_bd F 10) (k * 40) 40 (j * 8) 8 (by omega)
  unfold byt
  rw [show (5 * k + j) * 8 = k * 40 + j * 8 by omega, ← h]
  rfl
theorem byt4 (F : Nat → Int) (k : Nat) (h0 : 0 ≤ F (2 * k) ∧ F (2 * k) < 16) (h1 : 0 ≤ F (2 * k + 1) ∧ F (2 * k + 1) < 16) : byt (strm F 4) k = F (2 * k) + F (2 * k + 1) * 16 := by
  have e0 := bts_strm F 4 (2 * k) 0 4 (by omega)
  have e1 := bts_strm F 4 (2 * k + 1) 0 4 (by omega)
  unfold byt
  rw [show (8 : Nat) = 4 + 4 from rfl, bts_add, show k * (4 + 4) = 2 * k * 4 + 0 by omega, e0, show 2 * k * 4 + 0 + 4 = (2 * k + 1) * 4 + 0 by omega, e1]
  simp
  omega
end Go.Proofs.Ytghngfeacpamhaa
