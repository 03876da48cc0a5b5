/-
  Streams of bits in plain numbers: bits of numbers, of bytes; the bytes of numbers of d bits each; the numbers of bytes. No program in sight.
-/
import Derived.Test.YtghngfeacpamhaaArr2
namespace Go.Proofs.Ytghngfeacpamhaa

/-- Bit k of x. -/
def bt (x : Int) (k : Nat) : Int := x / 2 ^ k % 2
/-- n bits of a stream from lo on, the lowest first. -/
def bts (B : Nat → Int) (lo : Nat) : Nat → Int
  | 0 => 0
  | n + 1 => bts B lo n + B (lo + n) * 2 ^ n
/-- The stream of the d low bits of each number. -/
def strm (f : Nat → Int) (d : Nat) : Nat → Int := fun at' => bt (f (at' / d)) (at' % d)
theorem two_pos (n : Nat) : (0 : Int) < 2 ^ n := Int.pow_pos (by omega)
theorem two_succ (n : Nat) : (2 : Int) ^ (n + 1) = 2 ^ n * 2 := Int.pow_succ 2 n
theorem two_add (a b : Nat) : (2 : Int) ^ (a + b) = 2 ^ a * 2 ^ b := Int.pow_add 2 a b
theorem bt_bd (x : Int) (k : Nat) : 0 ≤ bt x k ∧ bt x k ≤ 1 := by unfold bt; omega
theorem strm_bd (f : Nat → Int) (d i : Nat) : 0 ≤ strm f d i ∧ strm f d i ≤ 1 := bt_bd _ _
theorem bts_bd (B : Nat → Int) (hB : ∀ i, 0 ≤ B i ∧ B i ≤ 1) (lo : Nat) : ∀ n, 0 ≤ bts B lo n ∧ bts B lo n < 2 ^ n
  | 0 => by simp [bts]
  | n + 1 => by
    obtain ⟨h0, h1⟩ := bts_bd B hB lo n
    obtain ⟨b0, b1⟩ := hB (lo + n)
    have hp := two_pos n
    have e : B (lo + n) = 0 ∨ B (lo + n) = 1 := by omega
    show 0 ≤ bts B lo n + B (lo + n) * 2 ^ n ∧ bts B lo n + B (lo + n) * 2 ^ n < 2 ^ (n + 1)
    rw [two_succ]
    rcases e with e | e <;> rw [e] <;> omega
theorem bts_add (B : Nat → Int) (lo a : Nat) : ∀ b, bts B lo (a + b) = bts B lo a + 2 ^ a * bts B (lo + a) b
  | 0 => by simp [bts]
  | b + 1 => by
    show bts B lo (a + b) + B (lo + (a + b)) * 2 ^ (a + b) = _ + 2 ^ a * (bts B (lo + a) b + B (lo + a + b) * 2 ^ b)
    rw [bts_add B lo a b, two_add, Int.mul_add, ← Nat.add_assoc, Int.add_assoc, Int.mul_left_comm (B _)]
theorem bts_congr {B C : Nat → Int} (lo : Nat) : ∀ n, (∀ i, lo ≤ i → i < lo + n → B i = C i) → bts B lo n = bts C lo n
  | 0, _ => rfl
  | n + 1, h => by
    show bts B lo n + B (lo + n) * 2 ^ n = bts C lo n + C (lo + n) * 2 ^ n
    rw [bts_congr lo n fun i h0 h1 => h i h0 (by omega), h (lo + n) (by omega) (by omega)]
theorem mod_two_succ (y : Int) (n : Nat) : y % 2 ^ (n + 1) = y % 2 ^ n + y / 2 ^ n % 2 * 2 ^ n := by
  have hp := two_pos n
  rw [two_succ, Int.emod_def y (2 ^ n * 2), Int.emod_def y (2 ^ n), Int.emod_def (y / 2 ^ n) 2, ← Int.ediv_ediv_of_nonneg (Int.le_of_lt hp), Int.sub_mul, Int.mul_assoc (2 ^ n) 2, Int.mul_comm (2 ^ n) (2 * _), Int.mul_comm (y / 2 ^ n) (2 ^ n)]
  omega
/-- The bits of one number. -/
theorem bts_strm (f : Nat → Int) (d i c : Nat) : ∀ n, c + n ≤ d → bts (strm f d) (i * d + c) n = f i / 2 ^ c % 2 ^ n
  | 0, _ => by simp [bts]
  | n + 1, h => by
    show bts (strm f d) (i * d + c) n + strm f d (i * d + c + n) * 2 ^ n = _
    have e1 : (i * d + c + n) / d = i := by
      rw [Nat.add_assoc, Nat.mul_comm, Nat.mul_add_div (by omega), Nat.div_eq_of_lt (by omega)]; rfl
    have e2 : (i * d + c + n) % d = c + n := by
      rw [Nat.add_assoc, Nat.mul_comm, Nat.mul_add_mod, Nat.mod_eq_of_lt (by omega)]
    rw [bts_strm f d i c n (by omega), mod_two_succ]
    unfold strm bt
    rw [e1, e2, two_add, Int.ediv_ediv_of_nonneg (Int.le_of_lt (two_pos c))]
/-- A bit of bits. -/
theorem bt_bts (B : Nat → Int) (hB : ∀ i, 0 ≤ B i ∧ B i ≤ 1) (lo : Nat) (n k : Nat) (h : k < n) : bt (bts B lo n) k = B (lo + k) := by
  obtain ⟨m, rfl⟩ : ∃ m, n = k + (m + 1) := ⟨n - k - 1, by omega⟩
  rw [bts_add, Nat.add_comm m 1, bts_add]
  obtain ⟨h0, h1⟩ := bts_bd B hB lo k
  obtain ⟨b0, b1⟩ := hB (lo + k)
  have hp := two_pos k
  unfold bt
  rw [Int.add_mul_ediv_left _ _ (Int.ne_of_gt hp), Int.ediv_eq_zero_of_lt h0 h1]
  show (0 + ((0 + B (lo + k + 0) * 2 ^ 0) + 2 ^ 1 * _)) % 2 = _
  simp only [Nat.add_zero, Int.pow_zero, Int.mul_one, Int.pow_one]
  omega
/-- The bytes of a stream; the numbers of d bits of a stream. -/
def byt (B : Nat → Int) (m : Nat) : Int := bts B (m * 8) 8
def dig (B : Nat → Int) (d i : Nat) : Int := bts B (i * d) d
theorem byt_bd (B : Nat → Int) (hB : ∀ i, 0 ≤ B i ∧ B i ≤ 1) (m : Nat) : 0 ≤ byt B m ∧ byt B m < 256 := bts_bd B hB _ 8
theorem dig_bd (B : Nat → Int) (hB : ∀ i, 0 ≤ B i ∧ B i ≤ 1) (d i : Nat) : 0 ≤ dig B d i ∧ dig B d i < 2 ^ d := bts_bd B hB _ d
theorem strm_dig (B : Nat → Int) (hB : ∀ i, 0 ≤ B i ∧ B i ≤ 1) (d : Nat) (hd : 0 < d) (i : Nat) : strm (dig B d) d i = B i := by
  unfold strm dig
  rw [bt_bts B hB _ _ _ (Nat.mod_lt _ hd), Nat.mul_comm, Nat.div_add_mod]
theorem strm_byt (B : Nat → Int) (hB : ∀ i, 0 ≤ B i ∧ B i ≤ 1) (i : Nat) : strm (byt B) 8 i = B i := strm_dig B hB 8 (by omega) i
theorem dig_strm (f : Nat → Int) (d i : Nat) (h0 : 0 ≤ f i) (h1 : f i < 2 ^ d) : dig (strm f d) d i = f i := by
  unfold dig
  have := bts_strm f d i 0 d (by omega)
  rw [Nat.add_zero] at this
  rw [this, Int.pow_zero, Int.ediv_one, Int.emod_eq_of_lt h0 h1]
theorem byt_strm (b : Nat → Int) (i : Nat) (h0 : 0 ≤ b i) (h1 : b i < 256) : byt (strm b 8) i = b i := dig_strm b 8 i h0 h1
/-- There and back. -/
theorem dig_byt (f : Nat → Int) (d i : Nat) (h0 : 0 ≤ f i) (h1 : f i < 2 ^ d) : dig (strm (byt (strm f d)) 8) d i = f i := by
  rw [show strm (byt (strm f d)) 8 = strm f d from funext (strm_byt _ (strm_bd f d))]
  exact dig_strm f d i h0 h1
theorem byt_dig (b : Nat → Int) (d i : Nat) (hd : 0 < d) (h0 : 0 ≤ b i) (h1 : b i < 256) : byt (strm (dig (strm b 8) d) d) i = b i := by
  rw [show strm (dig (strm b 8) d) d = strm b 8 from funext (strm_dig _ (strm_bd b 8) d hd)]
  exact byt_strm b i h0 h1
theorem dig_congr {B C : Nat → Int} (d i : Nat) (h : ∀ t, t < (i + 1) * d → B t = C t) : dig B d i = dig C d i := bts_congr _ _ fun t _ h1 => h t (by rw [Nat.succ_mul]; exact h1)
theorem byt_congr {B C : Nat → Int} (m : Nat) (h : ∀ t, m * 8 ≤ t → t < m * 8 + 8 → B t = C t) : byt B m = byt C m := bts_congr _ _ h
theorem strm_congr {f g : Nat → Int} {d : Nat} (n : Nat) (h : ∀ i, i < n → f i = g i) (t : Nat) (ht : t < n * d) : strm f d t = strm g d t := by
  unfold strm
  rw [h (t / d) (Nat.div_lt_of_lt_mul (by rw [Nat.mul_comm]; exact ht))]

theorem upd_self (f : Nat → Int) (i : Nat) (x : Int) : upd f i x i = x := by simp [upd]
theorem upd_other (f : Nat → Int) (i : Nat) (x : Int) (m : Nat) (h : m ≠ i) : upd f i x m = f m := by simp [upd, h]
/-- The bytes, of which n bits have been laid. -/
def cut (B : Nat → Int) (n m : Nat) : Int := bts B (m * 8) (min 8 (n - m * 8))
theorem cut_zero (B : Nat → Int) : cut B 0 = fun _ => 0 := by funext m; simp [cut, bts]
theorem cut_all (B : Nat → Int) (n m : Nat) (h : m * 8 + 8 ≤ n) : cut B n m = byt B m := by
  unfold cut byt; rw [Nat.min_eq_left (by omega)]
theorem cut_at (B : Nat → Int) (n : Nat) : cut B n (n / 8) = bts B (n / 8 * 8) (n % 8) := by
  unfold cut; rw [show min 8 (n - n / 8 * 8) = n % 8 by omega]
theorem cut_succ (B : Nat → Int) (n : Nat) : upd (cut B n) (n / 8) (cut B n (n / 8) + B n * 2 ^ (n % 8)) = cut B (n + 1) := by
  funext m
  by_cases h : m = n / 8
  · subst h
    rw [upd_self, cut_at]
    unfold cut
    rw [show min 8 (n + 1 - n / 8 * 8) = n % 8 + 1 by omega]
    show _ = bts B (n / 8 * 8) (n % 8) + B (n / 8 * 8 + n % 8) * 2 ^ (n % 8)
    rw [Nat.mul_comm, Nat.div_add_mod]
  · rw [upd_other _ _ _ _ h]
    unfold cut
    rw [show min 8 (n + 1 - m * 8) = min 8 (n - m * 8) by omega]
theorem cut_bd (B : Nat → Int) (hB : ∀ i, 0 ≤ B i ∧ B i ≤ 1) (n : Nat) : 0 ≤ cut B n (n / 8) ∧ cut B n (n / 8) < 2 ^ (n % 8) := by
  rw [cut_at]; exact bts_bd B hB _ _
end Go.Proofs.Ytghngfeacpamhaa
