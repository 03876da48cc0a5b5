/-
  The inverse transform, the product of transforms and their laws in plain numbers: the transforms are inverse to each other, the inverse gives the polynomial of the residues, and products of transforms are transforms of products modulo X to the power of 256 and 1. No program in sight; numbers below 3329 where it is said.
-/
import Derived.Test.YtcglkelhklihgaaDoorNtt
namespace Go.Proofs.YtcglkelhklihgaaDoor

/-! ### The backward layers -/
def binv (F : Nat → Int) (L st : Nat) (z : Int) (j : Nat) : Nat → Int :=
  upd (upd F (st + j) ((F (st + j) + F (st + L + j)) % 3329)) (st + L + j) ((z * (F (st + L + j) + 3329 - F (st + j))) % 3329)
def innerI (F : Nat → Int) (L st : Nat) (z : Int) : Nat → Nat → Int
  | 0 => F
  | j + 1 => binv (innerI F L st z j) L st z j
def midI (F : Nat → Int) (L kk : Nat) : Nat → Nat → Int
  | 0 => F
  | n + 1 => innerI (midI F L kk n) L (2 * L * n) (zet (kk - n)) L
def layI (F : Nat → Int) : Nat → Nat → Int
  | 0 => F
  | i + 1 => midI (layI F i) (2 ^ (i + 1)) (2 ^ (7 - i) - 1) (2 ^ (6 - i))
/-- The inverse transform of the package, as numbers. -/
def invv (F : Nat → Int) : Nat → Int := fun m => (layI F 7 m * 3303) % 3329

theorem innerI_at (F : Nat → Int) (L st : Nat) (z : Int) : ∀ j, j ≤ L → ∀ m, innerI F L st z j m =
    if st ≤ m ∧ m < st + j then (F m + F (m + L)) % 3329
    else if st + L ≤ m ∧ m < st + L + j then (z * (F m + 3329 - F (m - L))) % 3329 else F m := by
  intro j
  induction j with
  | zero => intro _ m; rw [if_neg (by omega), if_neg (by omega)]; rfl
  | succ j ih =>
    intro hj m
    have ih' := ih (by omega)
    have e1 : innerI F L st z j (st + L + j) = F (st + L + j) := by rw [ih', if_neg (by omega), if_neg (by omega)]
    have e2 : innerI F L st z j (st + j) = F (st + j) := by rw [ih', if_neg (by omega), if_neg (by omega)]
    show binv (innerI F L st z j) L st z j m = _
    unfold binv
    rw [e1, e2]
    by_cases h2 : m = st + L + j
    · subst h2
      rw [upd_same, if_neg (by omega), if_pos (by omega), show st + L + j - L = st + j from by omega]
    · rw [upd_other _ _ _ _ h2]
      by_cases h1 : m = st + j
      · subst h1
        rw [upd_same, if_pos (by omega), show st + L + j = st + j + L from by omega]
      · rw [upd_other _ _ _ _ h1, ih']
        by_cases h3 : st ≤ m ∧ m < st + j
        · rw [if_pos h3, if_pos (by omega)]
        · rw [if_neg h3, if_neg (show ¬ (st ≤ m ∧ m < st + (j + 1)) by omega)]
          by_cases h4 : st + L ≤ m ∧ m < st + L + j
          · rw [if_pos h4, if_pos (by omega)]
          · rw [if_neg h4, if_neg (by omega)]
theorem midI_far (F : Nat → Int) (L kk : Nat) : ∀ n m, 2 * L * n ≤ m → midI F L kk n m = F m := by
  intro n
  induction n with
  | zero => intro m _; rfl
  | succ n ih =>
    intro m hm
    have h1 : 2 * L * (n + 1) = 2 * L * n + 2 * L := by rw [Nat.mul_add, Nat.mul_one]
    show innerI (midI F L kk n) L (2 * L * n) (zet (kk - n)) L m = _
    rw [innerI_at _ _ _ _ L (Nat.le_refl _), if_neg (by omega), if_neg (by omega)]
    exact ih m (by omega)
theorem midI_at (F : Nat → Int) (L kk : Nat) : ∀ n b r, b < n → r < L →
    midI F L kk n (2 * L * b + r) = (F (2 * L * b + r) + F (2 * L * b + r + L)) % 3329 ∧
    midI F L kk n (2 * L * b + L + r) = (zet (kk - b) * (F (2 * L * b + r + L) + 3329 - F (2 * L * b + r))) % 3329 := by
  intro n
  induction n with
  | zero => intro b r hb; omega
  | succ n ih =>
    intro b r hb hr
    have hs : ∀ m, midI F L kk (n + 1) m = innerI (midI F L kk n) L (2 * L * n) (zet (kk - n)) L m := fun _ => rfl
    rw [hs, hs, innerI_at _ _ _ _ L (Nat.le_refl _), innerI_at _ _ _ _ L (Nat.le_refl _)]
    by_cases e : b = n
    · subst e
      rw [if_pos (by omega), if_neg (by omega), if_pos (by omega)]
      rw [midI_far F L kk b _ (by omega), midI_far F L kk b _ (by omega), midI_far F L kk b _ (by omega), midI_far F L kk b _ (by omega)]
      rw [show 2 * L * b + L + r - L = 2 * L * b + r from by omega, show 2 * L * b + L + r = 2 * L * b + r + L from by omega]
      exact ⟨rfl, rfl⟩
    · have hlt : b < n := by omega
      have h1 : 2 * L * (b + 1) ≤ 2 * L * n := Nat.mul_le_mul_left _ hlt
      rw [Nat.mul_add, Nat.mul_one] at h1
      rw [if_neg (by omega), if_neg (by omega), if_neg (by omega), if_neg (by omega)]
      exact ih b r hlt hr
/-- A place within 2 L n, as block and rest. -/
theorem place (L n m : Nat) (hm : m < 2 * L * n) : ∃ b r, b < n ∧ r < L ∧ (m = 2 * L * b + r ∨ m = 2 * L * b + L + r) := by
  have hL : 0 < 2 * L := by
    rcases Nat.eq_zero_or_pos (2 * L) with h | h
    · rw [h, Nat.zero_mul] at hm; omega
    · exact h
  have h1 : 2 * L * (m / (2 * L)) + m % (2 * L) = m := Nat.div_add_mod m (2 * L)
  have h2 : m % (2 * L) < 2 * L := Nat.mod_lt _ hL
  have h3 : m / (2 * L) < n := Nat.div_lt_of_lt_mul hm
  rcases Nat.lt_or_ge (m % (2 * L)) L with h | h
  · exact ⟨_, m % (2 * L), h3, h, .inl h1.symm⟩
  · exact ⟨_, m % (2 * L) - L, h3, by omega, .inr (by omega)⟩
theorem place_lt (L n b r : Nat) (hb : b < n) (hr : r < L) : 2 * L * b + r + L < 2 * L * n := by
  have h1 : 2 * L * (b + 1) ≤ 2 * L * n := Nat.mul_le_mul_left _ hb
  rw [Nat.mul_add, Nat.mul_one] at h1
  omega
theorem layI_red (F : Nat → Int) (hF : ∀ i, i < 256 → 0 ≤ F i ∧ F i < 3329) : ∀ i, i ≤ 7 → ∀ m, m < 256 → 0 ≤ layI F i m ∧ layI F i m < 3329 := by
  intro i
  cases i with
  | zero => intro _; exact hF
  | succ i =>
    intro hi m hm
    have hN : ∀ i, i < 7 → 2 * 2 ^ (i + 1) * 2 ^ (6 - i) = 256 := by decide
    obtain ⟨b, r, hb, hr, h | h⟩ := place (2 ^ (i + 1)) (2 ^ (6 - i)) m (by rw [hN i (by omega)]; exact hm)
    · have := (midI_at (layI F i) (2 ^ (i + 1)) (2 ^ (7 - i) - 1) _ b r hb hr).1
      show 0 ≤ midI _ _ _ _ m ∧ midI _ _ _ _ m < 3329
      rw [h, this]; omega
    · have := (midI_at (layI F i) (2 ^ (i + 1)) (2 ^ (7 - i) - 1) _ b r hb hr).2
      show 0 ≤ midI _ _ _ _ m ∧ midI _ _ _ _ m < 3329
      rw [h, this]; omega
theorem invv_red (F : Nat → Int) (m : Nat) : 0 ≤ invv F m ∧ invv F m < 3329 := by unfold invv; omega

/-! ### There and back -/
/-- As G, times c, at all 256 places, modulo 3329. -/
def Tms (c : Int) (F G : Nat → Int) : Prop := ∀ m, m < 256 → Eqm (F m) (c * G m)
theorem midl_tms (c : Int) (F G : Nat → Int) (L k0 n : Nat) (hn : 2 * L * n = 256) (h : Tms c F G) : Tms c (midl F L k0 n) (midl G L k0 n) := by
  intro m hm
  obtain ⟨b, r, hb, hr, e | e⟩ := place L n m (by omega)
  all_goals
    have hlt := place_lt L n b r hb hr
    have h1 := h (2 * L * b + r) (by omega)
    have h2 := h (2 * L * b + r + L) (by omega)
    obtain ⟨f1, f2⟩ := midl_at F L k0 n b r hb hr
    obtain ⟨g1, g2⟩ := midl_at G L k0 n b r hb hr
    generalize zet (k0 + b) = z at *
    generalize F (2 * L * b + r) = A at *
    generalize F (2 * L * b + r + L) = D at *
    generalize G (2 * L * b + r) = A' at *
    generalize G (2 * L * b + r + L) = D' at *
  · rw [e, f1, g1]
    refine (Eqm.emod _).trans ((h1.add ((Eqm.emod _).trans ((Eqm.refl z).mul h2))).trans ?_)
    refine Eqm.symm (((Eqm.refl c).mul ((Eqm.emod _).trans ((Eqm.refl A').add (Eqm.emod _)))).trans (.of_eq ?_))
    grind
  · rw [e, f2, g2]
    have k1 : Eqm ((A + 3329 - z * D % 3329) % 3329) (A - z * D) := by unfold Eqm; omega
    have k2 : Eqm ((A' + 3329 - z * D' % 3329) % 3329) (A' - z * D') := by unfold Eqm; omega
    refine k1.trans ((h1.sub ((Eqm.refl z).mul h2)).trans ?_)
    refine Eqm.symm (((Eqm.refl c).mul k2).trans (.of_eq ?_))
    grind
theorem midI_tms (c : Int) (F G : Nat → Int) (L kk n : Nat) (hn : 2 * L * n = 256) (h : Tms c F G) : Tms c (midI F L kk n) (midI G L kk n) := by
  intro m hm
  obtain ⟨b, r, hb, hr, e | e⟩ := place L n m (by omega)
  all_goals
    have hlt := place_lt L n b r hb hr
    have h1 := h (2 * L * b + r) (by omega)
    have h2 := h (2 * L * b + r + L) (by omega)
    obtain ⟨f1, f2⟩ := midI_at F L kk n b r hb hr
    obtain ⟨g1, g2⟩ := midI_at G L kk n b r hb hr
    generalize zet (kk - b) = z at *
    generalize F (2 * L * b + r) = A at *
    generalize F (2 * L * b + r + L) = D at *
    generalize G (2 * L * b + r) = A' at *
    generalize G (2 * L * b + r + L) = D' at *
  · rw [e, f1, g1]
    refine (Eqm.emod _).trans ((h1.add h2).trans ?_)
    refine Eqm.symm (((Eqm.refl c).mul (Eqm.emod _)).trans (.of_eq ?_))
    grind
  · rw [e, f2, g2]
    have k0 : ∀ a d : Int, Eqm (d + 3329 - a) (d - a) := fun a d => by unfold Eqm; omega
    refine (Eqm.emod _).trans (((Eqm.refl z).mul ((k0 A D).trans (h2.sub h1))).trans ?_)
    refine Eqm.symm (((Eqm.refl c).mul ((Eqm.emod _).trans ((Eqm.refl z).mul (k0 A' D')))).trans (.of_eq ?_))
    grind
theorem zet_inv : ∀ s, s < 7 → ∀ b, b < 2 ^ s → Eqm (zet (2 ^ s + b) * zet (2 ^ (s + 1) - 1 - b)) (-1) := by
  unfold Eqm
  decide +kernel
/-- A layer and its inverse layer, in both orders: twice. -/
theorem there_back (F : Nat → Int) (s : Nat) (hs : s < 7) (L : Nat) (hL : 2 * L * 2 ^ s = 256) : Tms 2 (midI (midl F L (2 ^ s) (2 ^ s)) L (2 ^ (s + 1) - 1) (2 ^ s)) F := by
  intro m hm
  obtain ⟨b, r, hb, hr, e | e⟩ := place L (2 ^ s) m (by omega)
  all_goals
    have hz := zet_inv s hs b hb
    obtain ⟨f1, f2⟩ := midl_at F L (2 ^ s) (2 ^ s) b r hb hr
    obtain ⟨g1, g2⟩ := midI_at (midl F L (2 ^ s) (2 ^ s)) L (2 ^ (s + 1) - 1) (2 ^ s) b r hb hr
    rw [show 2 * L * b + r + L = 2 * L * b + L + r from by omega] at g1 g2
    rw [f1, f2] at g1 g2
    generalize zet (2 ^ s + b) = z at *
    generalize zet (2 ^ (s + 1) - 1 - b) = y at *
  · rw [e, g1]
    generalize F (2 * L * b + r) = A at *
    generalize F (2 * L * b + r + L) = D at *
    unfold Eqm; omega
  · rw [e, g2]
    rw [show 2 * L * b + L + r = 2 * L * b + r + L from by omega]
    generalize F (2 * L * b + r) = A at *
    generalize F (2 * L * b + r + L) = D at *
    have k1 : Eqm ((A + 3329 - z * D % 3329) % 3329 + 3329 - (A + z * D % 3329) % 3329) (-2 * (z * D)) := by
      generalize z * D = t
      unfold Eqm; omega
    refine (Eqm.emod _).trans (((Eqm.refl y).mul k1).trans ?_)
    refine (Eqm.of_eq (show y * (-2 * (z * D)) = -2 * D * (z * y) by grind)).trans (((Eqm.refl (-2 * D)).mul hz).trans (.of_eq (by grind)))
theorem back_there (F : Nat → Int) (s : Nat) (hs : s < 7) (L : Nat) (hL : 2 * L * 2 ^ s = 256) : Tms 2 (midl (midI F L (2 ^ (s + 1) - 1) (2 ^ s)) L (2 ^ s) (2 ^ s)) F := by
  intro m hm
  obtain ⟨b, r, hb, hr, e | e⟩ := place L (2 ^ s) m (by omega)
  all_goals
    have hz := zet_inv s hs b hb
    obtain ⟨f1, f2⟩ := midI_at F L (2 ^ (s + 1) - 1) (2 ^ s) b r hb hr
    obtain ⟨g1, g2⟩ := midl_at (midI F L (2 ^ (s + 1) - 1) (2 ^ s)) L (2 ^ s) (2 ^ s) b r hb hr
    rw [show 2 * L * b + r + L = 2 * L * b + L + r from by omega] at g1 g2
    rw [f1, f2] at g1 g2
    generalize zet (2 ^ s + b) = z at *
    generalize zet (2 ^ (s + 1) - 1 - b) = y at *
    have e2 : 2 * L * b + L + r = 2 * L * b + r + L := by omega
    try rw [e2] at e
    generalize hA : F (2 * L * b + r) = A at *
    generalize hD : F (2 * L * b + r + L) = D at *
    have k0 : Eqm (z * (y * (D + 3329 - A) % 3329)) (A - D) := by
      refine ((Eqm.refl z).mul (Eqm.emod _)).trans ?_
      refine (Eqm.of_eq (show z * (y * (D + 3329 - A)) = (z * y) * (D + 3329 - A) by grind)).trans ((hz.mul (Eqm.refl _)).trans ?_)
      unfold Eqm; omega
    generalize z * (y * (D + 3329 - A) % 3329) = t at *
  · rw [e, g1, hA]
    unfold Eqm at *; omega
  · rw [e, ← e2, g2, e2, hD]
    unfold Eqm at *; omega
theorem Tms.trans {c d : Int} {F G K : Nat → Int} (h : Tms c F G) (k : Tms d G K) : Tms (c * d) F K := fun m hm =>
  (h m hm).trans (((Eqm.refl c).mul (k m hm)).trans (.of_eq (by grind)))
theorem lay_size : ∀ s, s < 7 → 2 * Ln s * 2 ^ s = 256 ∧ Ln s = 2 ^ (7 - s) ∧ Ln s = 2 ^ (6 - s + 1) := by decide
theorem inv_of_ntt (F : Nat → Int) (hF : ∀ i, i < 256 → 0 ≤ F i ∧ F i < 3329) : ∀ m, m < 256 → invv (nttv F) m = F m := by
  have key : ∀ i, i ≤ 7 → Tms (2 ^ i) (layI (nttv F) i) (lay F (7 - i)) := by
    intro i
    induction i with
    | zero => intro _ m _; exact .of_eq (by simp [layI, nttv])
    | succ i ih =>
      intro hi
      obtain ⟨l1, l2, l3⟩ := lay_size (6 - i) (by omega)
      have h1 := ih (by omega)
      have e1 : 7 - i = 6 - i + 1 := by omega
      have e2 : 6 - (6 - i) + 1 = i + 1 := by omega
      rw [e1] at h1
      rw [e2] at l3
      have h2 : layI (nttv F) (i + 1) = midI (layI (nttv F) i) (2 ^ (i + 1)) (2 ^ (6 - i + 1) - 1) (2 ^ (6 - i)) := by
        show midI _ _ (2 ^ (7 - i) - 1) _ = _
        rw [e1]
      rw [h2, ← l3]
      have h3 := midI_tms (2 ^ i) _ _ (Ln (6 - i)) (2 ^ (6 - i + 1) - 1) (2 ^ (6 - i)) l1 h1
      have h4 := there_back (lay F (6 - i)) (6 - i) (by omega) (Ln (6 - i)) l1
      have h5 : lay F (6 - i + 1) = midl (lay F (6 - i)) (Ln (6 - i)) (2 ^ (6 - i)) (2 ^ (6 - i)) := rfl
      rw [h5] at h3
      have h6 := h3.trans h4
      rw [show 7 - (i + 1) = 6 - i from by omega, Int.pow_succ]
      exact h6
  intro m hm
  have h7 := key 7 (by omega) m hm
  refine Eqm.eq ?_ (invv_red _ _).1 (invv_red _ _).2 (hF m hm).1 (hF m hm).2
  refine (Eqm.emod _).trans ((h7.mul (Eqm.refl 3303)).trans ?_)
  show Eqm (2 ^ 7 * F m * 3303) (F m)
  unfold Eqm; omega
theorem ntt_of_inv (F : Nat → Int) (hF : ∀ i, i < 256 → 0 ≤ F i ∧ F i < 3329) : ∀ m, m < 256 → nttv (invv F) m = F m := by
  have key : ∀ s, s ≤ 7 → Tms (3303 * 2 ^ s) (lay (invv F) s) (layI F (7 - s)) := by
    intro s
    induction s with
    | zero => intro _ m _; refine (Eqm.emod _).trans (.of_eq ?_); simp [Int.mul_comm]
    | succ s ih =>
      intro hs
      obtain ⟨l1, l2, l3⟩ := lay_size s (by omega)
      have h1 := ih (by omega)
      have e1 : 7 - s = 6 - s + 1 := by omega
      rw [e1] at h1
      have h2 : layI F (6 - s + 1) = midI (layI F (6 - s)) (Ln s) (2 ^ (s + 1) - 1) (2 ^ s) := by
        show midI _ _ _ _ = _
        rw [l3, show 7 - (6 - s) = s + 1 from by omega, show 6 - (6 - s) = s from by omega]
      rw [h2] at h1
      have h3 := midl_tms _ _ _ (Ln s) (2 ^ s) (2 ^ s) l1 h1
      have h4 := back_there (layI F (6 - s)) s (by omega) (Ln s) l1
      have h5 : lay (invv F) (s + 1) = midl (lay (invv F) s) (Ln s) (2 ^ s) (2 ^ s) := rfl
      rw [h5, show 7 - (s + 1) = 6 - s from by omega, Int.pow_succ, ← Int.mul_assoc]
      exact h3.trans h4
  intro m hm
  have h7 := key 7 (by omega) m hm
  refine Eqm.eq ?_ (nttv_red _ (fun i _ => invv_red F i) m hm).1 (nttv_red _ (fun i _ => invv_red F i) m hm).2 (hF m hm).1 (hF m hm).2
  refine h7.trans ?_
  show Eqm (3303 * 2 ^ 7 * F m) (F m)
  unfold Eqm; omega

/-! ### The polynomial of the residues -/
def gai (i : Nat) : Int := pw 17 (256 - (2 * rev7 i + 1))
theorem gai_bd (i : Nat) : 0 ≤ gai i ∧ gai i < 3329 := pw_bd _ _
theorem gai_pow0 : ∀ i, i < 7 → ∀ x, x < 128 → pw (gai x) (2 ^ i) = (if x / 2 ^ i % 2 = 0 then 3329 - zet (2 ^ (7 - i) - 1 - x / 2 ^ (i + 1)) else zet (2 ^ (7 - i) - 1 - x / 2 ^ (i + 1))) % 3329 := by
  decide +kernel
theorem layI_sum (F : Nat → Int) : ∀ i, i ≤ 7 → ∀ c u e, c < 2 ^ (7 - i) → u < 2 ^ i → e < 2 →
    Eqm (layI F i (2 * 2 ^ i * c + (2 * u + e))) (sm (2 ^ i) fun v => F (2 * (2 ^ i * c + v) + e) * gai (2 ^ i * c + v) ^ u) := by
  intro i
  induction i with
  | zero =>
    intro _ c u e _ hu _
    obtain rfl : u = 0 := by simpa using hu
    refine .of_eq ?_
    simp [layI, sm]
  | succ i ih =>
    intro hi c u e hc hu he
    have hc7 : 2 ^ (7 - i) = 2 * 2 ^ (7 - (i + 1)) := by rw [show 7 - i = 7 - (i + 1) + 1 from by omega, Nat.pow_succ, Nat.mul_comm]
    have hp : 2 ^ (i + 1) = 2 * 2 ^ i := by rw [Nat.pow_succ, Nat.mul_comm]
    have hc6 : c < 2 ^ (6 - i) := by rw [show 6 - i = 7 - (i + 1) from by omega]; exact hc
    have hle : ∀ v, v < 2 * 2 ^ i → 2 ^ (i + 1) * c + v < 128 := by
      intro v hv
      have h1 : 2 ^ (i + 1) * (c + 1) ≤ 2 ^ (i + 1) * 2 ^ (7 - (i + 1)) := Nat.mul_le_mul_left _ hc
      have h2 : ∀ i, i < 7 → 2 ^ (i + 1) * 2 ^ (7 - (i + 1)) = 128 := by decide
      rw [h2 i (by omega), Nat.mul_add, Nat.mul_one] at h1
      omega
    -- the two halves
    have hu' : ∀ w, w < 2 ^ i →
        Eqm (layI F i (2 * 2 ^ (i + 1) * c + (2 * w + e))) (sm (2 ^ i) fun v => F (2 * (2 ^ (i + 1) * c + v) + e) * gai (2 ^ (i + 1) * c + v) ^ w) ∧
        Eqm (layI F i (2 * 2 ^ (i + 1) * c + (2 * w + e) + 2 ^ (i + 1))) (sm (2 ^ i) fun v => F (2 * (2 ^ (i + 1) * c + (2 ^ i + v)) + e) * gai (2 ^ (i + 1) * c + (2 ^ i + v)) ^ w) := by
      intro w hw
      have a := ih (by omega) (2 * c) w e (by omega) hw he
      have b := ih (by omega) (2 * c + 1) w e (by omega) hw he
      have e1 : 2 * 2 ^ i * (2 * c) = 2 * 2 ^ (i + 1) * c := by rw [hp]; grind
      have e2 : 2 ^ i * (2 * c) = 2 ^ (i + 1) * c := by rw [hp]; grind
      have e3 : 2 * 2 ^ i * (2 * c + 1) + (2 * w + e) = 2 * 2 ^ (i + 1) * c + (2 * w + e) + 2 ^ (i + 1) := by rw [hp]; grind
      have e4 : ∀ v, 2 ^ i * (2 * c + 1) + v = 2 ^ (i + 1) * c + (2 ^ i + v) := fun v => by rw [hp]; grind
      rw [e1, e2] at a
      rw [e3] at b
      simp only [e4] at b
      exact ⟨a, b⟩
    have split : ∀ w, sm (2 ^ (i + 1)) (fun v => F (2 * (2 ^ (i + 1) * c + v) + e) * gai (2 ^ (i + 1) * c + v) ^ w) =
        sm (2 ^ i) (fun v => F (2 * (2 ^ (i + 1) * c + v) + e) * gai (2 ^ (i + 1) * c + v) ^ w) + sm (2 ^ i) (fun v => F (2 * (2 ^ (i + 1) * c + (2 ^ i + v)) + e) * gai (2 ^ (i + 1) * c + (2 ^ i + v)) ^ w) := by
      intro w
      conv => lhs; rw [show 2 ^ (i + 1) = 2 ^ i + 2 ^ i from by omega]
      rw [sm_append]
      rw [show 2 ^ i + 2 ^ i = 2 ^ (i + 1) from by omega]
    have hl : ∀ m, layI F (i + 1) m = midI (layI F i) (2 ^ (i + 1)) (2 ^ (7 - i) - 1) (2 ^ (6 - i)) m := fun _ => rfl
    rw [hl, split]
    rcases Nat.lt_or_ge u (2 ^ i) with hlt | hge
    · obtain ⟨a, b⟩ := hu' u hlt
      have m1 := (midI_at (layI F i) (2 ^ (i + 1)) (2 ^ (7 - i) - 1) (2 ^ (6 - i)) c (2 * u + e) hc6 (by omega)).1
      rw [m1]
      exact (Eqm.emod _).trans (a.add b)
    · obtain ⟨a, b⟩ := hu' (u - 2 ^ i) (by omega)
      have m2 := (midI_at (layI F i) (2 ^ (i + 1)) (2 ^ (7 - i) - 1) (2 ^ (6 - i)) c (2 * (u - 2 ^ i) + e) hc6 (by omega)).2
      rw [show 2 * 2 ^ (i + 1) * c + (2 * u + e) = 2 * 2 ^ (i + 1) * c + 2 ^ (i + 1) + (2 * (u - 2 ^ i) + e) from by omega, m2]
      generalize hz : zet (2 ^ (7 - i) - 1 - c) = z at *
      have pl : ∀ v, v < 2 ^ i → Eqm (gai (2 ^ (i + 1) * c + v) ^ 2 ^ i) (-z) := by
        intro v hv
        have h1 := gai_pow0 i (by omega) (2 ^ (i + 1) * c + v) (hle v (by omega))
        have q1 : (2 ^ (i + 1) * c + v) / 2 ^ i % 2 = 0 := by
          rw [show 2 ^ (i + 1) * c + v = v + 2 ^ i * (2 * c) from by rw [hp]; grind, Nat.add_mul_div_left _ _ (Nat.pow_pos (by omega)), Nat.div_eq_of_lt hv]; omega
        have q2 : (2 ^ (i + 1) * c + v) / 2 ^ (i + 1) = c := by
          rw [Nat.add_comm, Nat.add_mul_div_left _ _ (Nat.pow_pos (by omega)), Nat.div_eq_of_lt (by omega)]; omega
        rw [q1, q2, if_pos rfl, hz] at h1
        refine (pw_pow _ _).symm.trans (.trans (.of_eq h1) ?_)
        unfold Eqm; omega
      have pr : ∀ v, v < 2 ^ i → Eqm (gai (2 ^ (i + 1) * c + (2 ^ i + v)) ^ 2 ^ i) z := by
        intro v hv
        have h1 := gai_pow0 i (by omega) (2 ^ (i + 1) * c + (2 ^ i + v)) (hle _ (by omega))
        have q1 : (2 ^ (i + 1) * c + (2 ^ i + v)) / 2 ^ i % 2 = 1 := by
          rw [show 2 ^ (i + 1) * c + (2 ^ i + v) = v + 2 ^ i * (2 * c + 1) from by rw [hp]; grind, Nat.add_mul_div_left _ _ (Nat.pow_pos (by omega)), Nat.div_eq_of_lt hv]; omega
        have q2 : (2 ^ (i + 1) * c + (2 ^ i + v)) / 2 ^ (i + 1) = c := by
          rw [Nat.add_comm, Nat.add_mul_div_left _ _ (Nat.pow_pos (by omega)), Nat.div_eq_of_lt (by omega)]; omega
        rw [q1, q2, if_neg (by omega), hz] at h1
        refine (pw_pow _ _).symm.trans (.trans (.of_eq h1) ?_)
        unfold Eqm; omega
      have k0 : ∀ a d : Int, Eqm (d + 3329 - a) (d - a) := fun a d => by unfold Eqm; omega
      refine (Eqm.emod _).trans (((Eqm.refl z).mul ((k0 _ _).trans (b.sub a))).trans ?_)
      have ea : Eqm (-z * sm (2 ^ i) fun v => F (2 * (2 ^ (i + 1) * c + v) + e) * gai (2 ^ (i + 1) * c + v) ^ (u - 2 ^ i)) (sm (2 ^ i) fun v => F (2 * (2 ^ (i + 1) * c + v) + e) * gai (2 ^ (i + 1) * c + v) ^ u) := by
        rw [← sm_mul]
        refine sm_congr fun v hv => ?_
        have h1 : gai (2 ^ (i + 1) * c + v) ^ u = gai (2 ^ (i + 1) * c + v) ^ (u - 2 ^ i) * gai (2 ^ (i + 1) * c + v) ^ 2 ^ i := by rw [← Int.pow_add, show u - 2 ^ i + 2 ^ i = u from by omega]
        rw [h1]
        refine Eqm.symm (((Eqm.refl _).mul ((Eqm.refl _).mul (pl v hv))).trans (.of_eq (by grind)))
      have eb : Eqm (z * sm (2 ^ i) fun v => F (2 * (2 ^ (i + 1) * c + (2 ^ i + v)) + e) * gai (2 ^ (i + 1) * c + (2 ^ i + v)) ^ (u - 2 ^ i)) (sm (2 ^ i) fun v => F (2 * (2 ^ (i + 1) * c + (2 ^ i + v)) + e) * gai (2 ^ (i + 1) * c + (2 ^ i + v)) ^ u) := by
        rw [← sm_mul]
        refine sm_congr fun v hv => ?_
        have h1 : gai (2 ^ (i + 1) * c + (2 ^ i + v)) ^ u = gai (2 ^ (i + 1) * c + (2 ^ i + v)) ^ (u - 2 ^ i) * gai (2 ^ (i + 1) * c + (2 ^ i + v)) ^ 2 ^ i := by rw [← Int.pow_add, show u - 2 ^ i + 2 ^ i = u from by omega]
        rw [h1]
        refine Eqm.symm (((Eqm.refl _).mul ((Eqm.refl _).mul (pr v hv))).trans (.of_eq (by grind)))
      refine .trans (.of_eq ?_) (ea.add eb)
      grind
theorem invv_sum (F : Nat → Int) (u e : Nat) (hu : u < 128) (he : e < 2) : Eqm (invv F (2 * u + e)) (sm 128 fun v => F (2 * v + e) * (3303 * gai v ^ u)) := by
  have h := layI_sum F 7 (by omega) 0 u e (by omega) hu he
  simp only [Nat.mul_zero, Nat.zero_add] at h
  refine (Eqm.emod _).trans ((h.mul (Eqm.refl 3303)).trans (.of_eq ?_))
  rw [Int.mul_comm, ← sm_mul]
  exact sm_eq fun i _ => by grind
end Go.Proofs.YtcglkelhklihgaaDoor
