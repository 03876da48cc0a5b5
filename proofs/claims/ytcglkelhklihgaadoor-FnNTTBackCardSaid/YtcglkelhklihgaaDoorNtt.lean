/-
  The number-theoretic transform of ML-KEM in plain numbers: the layers of the package's loops, and that they give the residues of the polynomial (and, backward, the polynomial of the residues), modulo 3329. No program in sight; no condition but numbers below 3329 where it is said.
-/
import Derived.Test.YtcglkelhklihgaaDoorArr
namespace Go.Proofs.YtcglkelhklihgaaDoor

/-- Equal modulo 3329. -/
def Eqm (a b : Int) : Prop := a % 3329 = b % 3329
theorem Eqm.refl (a : Int) : Eqm a a := rfl
theorem Eqm.of_eq {a b : Int} (h : a = b) : Eqm a b := by rw [h]; rfl
theorem Eqm.symm {a b : Int} (h : Eqm a b) : Eqm b a := Eq.symm h
theorem Eqm.trans {a b c : Int} (h : Eqm a b) (k : Eqm b c) : Eqm a c := Eq.trans h k
theorem Eqm.add {a b c d : Int} (h : Eqm a b) (k : Eqm c d) : Eqm (a + c) (b + d) := by
  unfold Eqm at *; omega
theorem Eqm.sub {a b c d : Int} (h : Eqm a b) (k : Eqm c d) : Eqm (a - c) (b - d) := by
  unfold Eqm at *; omega
theorem Eqm.neg {a b : Int} (h : Eqm a b) : Eqm (-a) (-b) := by
  unfold Eqm at *; omega
theorem Eqm.mul {a b c d : Int} (h : Eqm a b) (k : Eqm c d) : Eqm (a * c) (b * d) := by
  unfold Eqm at *; rw [Int.mul_emod, h, k, ← Int.mul_emod]
theorem Eqm.pow {a b : Int} (h : Eqm a b) (n : Nat) : Eqm (a ^ n) (b ^ n) := by
  induction n with
  | zero => rw [Int.pow_zero, Int.pow_zero]; exact Eqm.refl _
  | succ n ih => rw [Int.pow_succ, Int.pow_succ]; exact ih.mul h
theorem Eqm.emod (a : Int) : Eqm (a % 3329) a := by unfold Eqm; omega
theorem Eqm.emod_l {a b : Int} (h : Eqm a b) : Eqm (a % 3329) b := (Eqm.emod a).trans h
/-- Two reduced numbers that are equal modulo 3329 are equal. -/
theorem Eqm.eq {a b : Int} (h : Eqm a b) (a0 : 0 ≤ a) (a1 : a < 3329) (b0 : 0 ≤ b) (b1 : b < 3329) : a = b := by
  unfold Eqm at h; omega

/-- A finite sum. -/
def sm (n : Nat) (f : Nat → Int) : Int := match n with
  | 0 => 0
  | n + 1 => sm n f + f n
theorem sm_congr {n : Nat} {f g : Nat → Int} (h : ∀ i, i < n → Eqm (f i) (g i)) : Eqm (sm n f) (sm n g) := by
  induction n with
  | zero => exact rfl
  | succ n ih => exact (ih fun i hi => h i (by omega)).add (h n (by omega))
theorem sm_eq {n : Nat} {f g : Nat → Int} (h : ∀ i, i < n → f i = g i) : sm n f = sm n g := by
  induction n with
  | zero => rfl
  | succ n ih => simp only [sm]; rw [ih fun i hi => h i (by omega), h n (by omega)]
theorem sm_add (n : Nat) (f g : Nat → Int) : sm n (fun i => f i + g i) = sm n f + sm n g := by
  induction n with
  | zero => rfl
  | succ n ih => simp only [sm, ih]; omega
theorem sm_mul (n : Nat) (c : Int) (f : Nat → Int) : sm n (fun i => c * f i) = c * sm n f := by
  induction n with
  | zero => simp [sm]
  | succ n ih => simp only [sm, ih, Int.mul_add]
theorem sm_zero (n : Nat) : sm n (fun _ => 0) = 0 := by
  induction n with
  | zero => rfl
  | succ n ih => simp only [sm, ih]; rfl
theorem sm_split (n : Nat) (f : Nat → Int) : sm (2 * n) f = sm n (fun i => f (2 * i)) + sm n (fun i => f (2 * i + 1)) := by
  induction n with
  | zero => rfl
  | succ n ih =>
    show sm (2 * n + 1 + 1) f = _
    simp only [sm, ih]; omega
theorem sm_swap (n m : Nat) (f : Nat → Nat → Int) : sm n (fun i => sm m (fun j => f i j)) = sm m (fun j => sm n (fun i => f i j)) := by
  induction n with
  | zero => simp only [sm, sm_zero]
  | succ n ih => simp only [sm, ih, sm_add]
theorem sm_append (n m : Nat) (f : Nat → Int) : sm (n + m) f = sm n f + sm m (fun i => f (n + i)) := by
  induction m with
  | zero => simp [sm]
  | succ m ih => rw [← Nat.add_assoc]; simp only [sm, ih]; omega
theorem even_pow (z : Int) (t : Nat) : z ^ (2 * t) = (z * z) ^ t := by
  induction t with
  | zero => simp
  | succ t ih => rw [show 2 * (t + 1) = 2 * t + 1 + 1 from by omega, Int.pow_succ, Int.pow_succ, ih, Int.pow_succ, Int.mul_assoc]
theorem odd_pow (z : Int) (t : Nat) : z ^ (2 * t + 1) = z * (z * z) ^ t := by rw [Int.pow_succ, even_pow, Int.mul_comm]

/-! ### Places of a function -/
theorem upd_same (g : Nat → Int) (i : Nat) (x : Int) : upd g i x i = x := by simp [upd]
theorem upd_other (g : Nat → Int) (i j : Nat) (x : Int) (h : j ≠ i) : upd g i x j = g j := by simp [upd, h]

/-- A number to some power, reduced at each step. -/
def pw (r : Int) : Nat → Int
  | 0 => 1
  | n + 1 => pw r n * r % 3329
/-- Seven bits from their other end. -/
def rev7 (n : Nat) : Nat := n % 2 * 64 + n / 2 % 2 * 32 + n / 4 % 2 * 16 + n / 8 % 2 * 8 + n / 16 % 2 * 4 + n / 32 % 2 * 2 + n / 64 % 2
/-- What the package's table zetas holds. -/
def zet (i : Nat) : Int := pw 17 (rev7 i)
/-- What the package's table gammas holds. -/
def gam (i : Nat) : Int := pw 17 (2 * rev7 i + 1)
theorem pw_bd (r : Int) (n : Nat) : 0 ≤ pw r n ∧ pw r n < 3329 := by
  cases n with
  | zero => show (0 : Int) ≤ 1 ∧ (1 : Int) < 3329; omega
  | succ n => simp only [pw]; omega
theorem pw_pow (r : Int) (n : Nat) : Eqm (pw r n) (r ^ n) := by
  induction n with
  | zero => rw [Int.pow_zero]; exact Eqm.refl _
  | succ n ih => rw [Int.pow_succ]; exact (Eqm.emod _).trans (ih.mul (Eqm.refl r))
theorem zet_bd (i : Nat) : 0 ≤ zet i ∧ zet i < 3329 := pw_bd _ _
theorem gam_bd (i : Nat) : 0 ≤ gam i ∧ gam i < 3329 := pw_bd _ _

/-! ### The forward layers -/
/-- One step of the inner loop. -/
def bfly (F : Nat → Int) (L st : Nat) (z : Int) (j : Nat) : Nat → Int :=
  upd (upd F (st + L + j) ((F (st + j) + 3329 - (z * F (st + L + j)) % 3329) % 3329)) (st + j) ((F (st + j) + (z * F (st + L + j)) % 3329) % 3329)
def inner (F : Nat → Int) (L st : Nat) (z : Int) : Nat → Nat → Int
  | 0 => F
  | j + 1 => bfly (inner F L st z j) L st z j
def midl (F : Nat → Int) (L k0 : Nat) : Nat → Nat → Int
  | 0 => F
  | n + 1 => inner (midl F L k0 n) L (2 * L * n) (zet (k0 + n)) L
def Ln (s : Nat) : Nat := 128 / 2 ^ s
def lay (F : Nat → Int) : Nat → Nat → Int
  | 0 => F
  | s + 1 => midl (lay F s) (Ln s) (2 ^ s) (2 ^ s)

theorem inner_at (F : Nat → Int) (L st : Nat) (z : Int) : ∀ j, j ≤ L → ∀ m, inner F L st z j m =
    if st ≤ m ∧ m < st + j then (F m + (z * F (m + L)) % 3329) % 3329
    else if st + L ≤ m ∧ m < st + L + j then (F (m - L) + 3329 - (z * F m) % 3329) % 3329 else F m := by
  intro j
  induction j with
  | zero => intro _ m; rw [if_neg (by omega), if_neg (by omega)]; rfl
  | succ j ih =>
    intro hj m
    have ih' := ih (by omega)
    have e1 : inner F L st z j (st + L + j) = F (st + L + j) := by rw [ih', if_neg (by omega), if_neg (by omega)]
    have e2 : inner F L st z j (st + j) = F (st + j) := by rw [ih', if_neg (by omega), if_neg (by omega)]
    show bfly (inner F L st z j) L st z j m = _
    unfold bfly
    rw [e1, e2]
    by_cases h1 : m = st + j
    · subst h1
      rw [upd_same, if_pos (by omega), show st + L + j = st + j + L from by omega]
    · rw [upd_other _ _ _ _ h1]
      by_cases h2 : m = st + L + j
      · subst h2
        rw [upd_same, if_neg (by omega), if_pos (by omega), show st + L + j - L = st + j from by omega]
      · rw [upd_other _ _ _ _ h2, ih']
        by_cases h3 : st ≤ m ∧ m < st + j
        · rw [if_pos h3, if_pos (by omega)]
        · rw [if_neg h3, if_neg (show ¬ (st ≤ m ∧ m < st + (j + 1)) by omega)]
          by_cases h4 : st + L ≤ m ∧ m < st + L + j
          · rw [if_pos h4, if_pos (by omega)]
          · rw [if_neg h4, if_neg (by omega)]

theorem midl_far (F : Nat → Int) (L k0 : Nat) : ∀ n m, 2 * L * n ≤ m → midl F L k0 n m = F m := by
  intro n
  induction n with
  | zero => intro m _; rfl
  | succ n ih =>
    intro m hm
    have h1 : 2 * L * (n + 1) = 2 * L * n + 2 * L := by rw [Nat.mul_add, Nat.mul_one]
    show inner (midl F L k0 n) L (2 * L * n) (zet (k0 + n)) L m = _
    rw [inner_at _ _ _ _ L (Nat.le_refl _), if_neg (by omega), if_neg (by omega)]
    exact ih m (by omega)
/-- One layer, at block b and place r. -/
theorem midl_at (F : Nat → Int) (L k0 : Nat) : ∀ n b r, b < n → r < L →
    midl F L k0 n (2 * L * b + r) = (F (2 * L * b + r) + (zet (k0 + b) * F (2 * L * b + r + L)) % 3329) % 3329 ∧
    midl F L k0 n (2 * L * b + L + r) = (F (2 * L * b + r) + 3329 - (zet (k0 + b) * F (2 * L * b + r + L)) % 3329) % 3329 := by
  intro n
  induction n with
  | zero => intro b r hb; omega
  | succ n ih =>
    intro b r hb hr
    have hs : ∀ m, midl F L k0 (n + 1) m = inner (midl F L k0 n) L (2 * L * n) (zet (k0 + n)) L m := fun _ => rfl
    rw [hs, hs, inner_at _ _ _ _ L (Nat.le_refl _), inner_at _ _ _ _ L (Nat.le_refl _)]
    by_cases e : b = n
    · subst e
      rw [if_pos (by omega), if_neg (by omega), if_pos (by omega)]
      rw [midl_far F L k0 b _ (by omega), midl_far F L k0 b _ (by omega), midl_far F L k0 b _ (by omega), midl_far F L k0 b _ (by omega)]
      rw [show 2 * L * b + L + r - L = 2 * L * b + r from by omega, show 2 * L * b + L + r = 2 * L * b + r + L from by omega]
      exact ⟨rfl, rfl⟩
    · have hlt : b < n := by omega
      have h1 : 2 * L * (b + 1) ≤ 2 * L * n := Nat.mul_le_mul_left _ hlt
      rw [Nat.mul_add, Nat.mul_one] at h1
      rw [if_neg (by omega), if_neg (by omega), if_neg (by omega), if_neg (by omega)]
      exact ih b r hlt hr

/-- The root at which block b of level s stands. -/
def Zr (s b : Nat) : Int := match s with
  | 0 => -1
  | s + 1 => if b % 2 = 0 then zet (2 ^ s + b / 2) else - zet (2 ^ s + b / 2)
theorem root_sq : ∀ s, s < 7 → ∀ b, b < 2 ^ s → Eqm (zet (2 ^ s + b) * zet (2 ^ s + b)) (Zr s b) := by
  unfold Eqm
  decide +kernel
theorem root_last : ∀ b, b < 128 → Eqm (Zr 7 b) (gam b) := by
  unfold Eqm
  decide +kernel
theorem Ln_two : ∀ s, s < 7 → Ln s = 2 * Ln (s + 1) ∧ 2 ^ s * (2 * Ln s) = 256 ∧ 2 ≤ Ln s ∧ Ln s ≤ 128 := by decide

/-- What the forward layers give, modulo 3329: at level s, block b, place j (2 Ln s places a block). -/
theorem lay_sum (F : Nat → Int) : ∀ s, s ≤ 7 → ∀ b j, b < 2 ^ s → j < 2 * Ln s →
    Eqm (lay F s (2 * Ln s * b + j)) (sm (2 ^ s) fun t => F (j + t * (2 * Ln s)) * Zr s b ^ t) := by
  intro s
  induction s with
  | zero =>
    intro _ b j hb hj
    obtain rfl : b = 0 := by simpa using hb
    refine .of_eq ?_
    simp [lay, sm]
  | succ s ih =>
    intro hs b j hb hj
    obtain ⟨l1, l2, l3, l4⟩ := Ln_two s (by omega)
    rw [← l1] at hj ⊢
    have hpow : 2 ^ (s + 1) = 2 * 2 ^ s := by rw [Nat.pow_succ, Nat.mul_comm]
    rw [hpow] at hb
    have hb2 : b / 2 < 2 ^ s := by omega
    have hA := ih (by omega) (b / 2) j hb2 (by omega)
    have hB := ih (by omega) (b / 2) (j + Ln s) hb2 (by omega)
    have hq := root_sq s (by omega) (b / 2) hb2
    obtain ⟨m1, m2⟩ := midl_at (lay F s) (Ln s) (2 ^ s) (2 ^ s) (b / 2) j hb2 hj
    have hl : ∀ m, lay F (s + 1) m = midl (lay F s) (Ln s) (2 ^ s) (2 ^ s) m := fun _ => rfl
    rw [hl]
    rw [show 2 * Ln s * (b / 2) + (j + Ln s) = 2 * Ln s * (b / 2) + j + Ln s from by omega] at hB
    generalize hz : zet (2 ^ s + b / 2) = z at *
    have split : ∀ y : Int, y * y = z * z → sm (2 ^ (s + 1)) (fun t => F (j + t * Ln s) * y ^ t) =
        sm (2 ^ s) (fun t => F (j + t * (2 * Ln s)) * (z * z) ^ t) + y * sm (2 ^ s) (fun t => F (j + Ln s + t * (2 * Ln s)) * (z * z) ^ t) := by
      intro y hy
      rw [hpow, sm_split, ← sm_mul]
      congr 1
      · refine sm_eq fun i _ => ?_
        rw [even_pow, hy, show j + 2 * i * Ln s = j + i * (2 * Ln s) from by rw [Nat.mul_comm 2 i, Nat.mul_assoc]]
      · refine sm_eq fun i _ => ?_
        rw [odd_pow, hy, show j + (2 * i + 1) * Ln s = j + Ln s + i * (2 * Ln s) from by rw [Nat.add_mul, Nat.one_mul, Nat.mul_comm 2 i, Nat.mul_assoc]; omega]
        grind
    have hA' : Eqm (lay F s (2 * Ln s * (b / 2) + j)) (sm (2 ^ s) fun t => F (j + t * (2 * Ln s)) * (z * z) ^ t) :=
      hA.trans (sm_congr fun i _ => (Eqm.refl _).mul (hq.symm.pow i))
    have hB' : Eqm (lay F s (2 * Ln s * (b / 2) + j + Ln s)) (sm (2 ^ s) fun t => F (j + Ln s + t * (2 * Ln s)) * (z * z) ^ t) :=
      hB.trans (sm_congr fun i _ => (Eqm.refl _).mul (hq.symm.pow i))
    by_cases he : b % 2 = 0
    · have hZ : Zr (s + 1) b = z := by simp only [Zr, he, if_true]; exact hz
      rw [hZ, split z rfl]
      have hb' : Ln s * b + j = 2 * Ln s * (b / 2) + j := by
        have : b = 2 * (b / 2) := by omega
        conv => lhs; rw [this]
        rw [← Nat.mul_assoc, Nat.mul_comm (Ln s) 2]
      rw [hb', m1]
      exact (Eqm.emod _).trans (hA'.add ((Eqm.emod _).trans ((Eqm.refl z).mul hB')))
    · have hZ : Zr (s + 1) b = -z := by simp only [Zr, he, if_false]; rw [hz]
      rw [hZ, split (-z) (by grind)]
      have hb' : Ln s * b + j = 2 * Ln s * (b / 2) + Ln s + j := by
        have : b = 2 * (b / 2) + 1 := by omega
        conv => lhs; rw [this]
        rw [Nat.mul_add, Nat.mul_one, ← Nat.mul_assoc, Nat.mul_comm (Ln s) 2]
      rw [hb', m2]
      refine (Eqm.emod _).trans ?_
      have e1 : Eqm (lay F s (2 * Ln s * (b / 2) + j) + 3329 - (z * lay F s (2 * Ln s * (b / 2) + j + Ln s)) % 3329) (lay F s (2 * Ln s * (b / 2) + j) + - (z * lay F s (2 * Ln s * (b / 2) + j + Ln s))) := by
        unfold Eqm; omega
      refine e1.trans (hA'.add ?_)
      rw [Int.neg_mul]
      exact ((Eqm.refl z).mul hB').neg

/-- The transform of the package, as numbers. -/
def nttv (F : Nat → Int) : Nat → Int := lay F 7
theorem nttv_sum (F : Nat → Int) (b e : Nat) (hb : b < 128) (he : e < 2) : Eqm (nttv F (2 * b + e)) (sm 128 fun t => F (2 * t + e) * gam b ^ t) := by
  have h := lay_sum F 7 (by omega) b e hb he
  have l7 : Ln 7 = 1 := by decide
  rw [l7] at h
  refine h.trans (sm_congr fun i _ => ?_)
  rw [show e + i * (2 * 1) = 2 * i + e from by omega]
  exact (Eqm.refl _).mul ((root_last b hb).pow i)
theorem midl_red (F : Nat → Int) (L k0 n : Nat) (m : Nat) (hm : m < 2 * L * n) : 0 ≤ midl F L k0 n m ∧ midl F L k0 n m < 3329 := by
  have hL : 0 < 2 * L := by
    rcases Nat.eq_zero_or_pos (2 * L) with h | h
    · rw [h, Nat.zero_mul] at hm; omega
    · exact h
  have h1 : 2 * L * (m / (2 * L)) + m % (2 * L) = m := Nat.div_add_mod m (2 * L)
  have h2 : m % (2 * L) < 2 * L := Nat.mod_lt _ hL
  have h3 : m / (2 * L) < n := Nat.div_lt_of_lt_mul hm
  rcases Nat.lt_or_ge (m % (2 * L)) L with h | h
  · have := (midl_at F L k0 n (m / (2 * L)) (m % (2 * L)) h3 h).1
    rw [h1] at this
    rw [this]; omega
  · have := (midl_at F L k0 n (m / (2 * L)) (m % (2 * L) - L) h3 (by omega)).2
    rw [show 2 * L * (m / (2 * L)) + L + (m % (2 * L) - L) = m from by omega] at this
    rw [this]; omega
theorem lay_red (F : Nat → Int) (hF : ∀ i, i < 256 → 0 ≤ F i ∧ F i < 3329) : ∀ s, s ≤ 7 → ∀ i, i < 256 → 0 ≤ lay F s i ∧ lay F s i < 3329 := by
  intro s
  cases s with
  | zero => intro _; exact hF
  | succ s =>
    intro hs i hi
    obtain ⟨_, l2, _, _⟩ := Ln_two s (by omega)
    exact midl_red (lay F s) (Ln s) (2 ^ s) (2 ^ s) i (by rw [Nat.mul_comm]; omega)
theorem nttv_red (F : Nat → Int) (hF : ∀ i, i < 256 → 0 ≤ F i ∧ F i < 3329) : ∀ i, i < 256 → 0 ≤ nttv F i ∧ nttv F i < 3329 := lay_red F hF 7 (by omega)
end Go.Proofs.YtcglkelhklihgaaDoor
