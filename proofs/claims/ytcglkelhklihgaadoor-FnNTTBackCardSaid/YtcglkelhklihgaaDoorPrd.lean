/-
  The reference's sums (Forward, Backward, Times), products modulo X to the power of 256 and 1, and their transforms, in plain numbers. No program in sight; numbers below 3329 where it is said.
-/
import Derived.Test.YtcglkelhklihgaaDoorInv
namespace Go.Proofs.YtcglkelhklihgaaDoor

/-! ### Forward -/
def fstep (f O : Nat → Int) (i j : Nat) (p : Int) : Nat → Int :=
  upd (upd O (2 * i) ((O (2 * i) + f (2 * j) * p) % 3329)) (2 * i + 1) ((O (2 * i + 1) + f (2 * j + 1) * p) % 3329)
def frow (f O : Nat → Int) (i : Nat) (r : Int) : Nat → Nat → Int
  | 0 => O
  | j + 1 => fstep f (frow f O i r j) i j (pw r j)
def fall (f : Nat → Int) : Nat → Nat → Int
  | 0 => fun _ => 0
  | i + 1 => frow f (fall f i) i (gam i) 128
/-- The reference's transform, as numbers. -/
def fwdv (f : Nat → Int) : Nat → Int := fall f 128
theorem fstep_red (f O : Nat → Int) (i j : Nat) (p : Int) (h : ∀ m, 0 ≤ O m ∧ O m < 3329) : ∀ m, 0 ≤ fstep f O i j p m ∧ fstep f O i j p m < 3329 := by
  intro m
  unfold fstep
  by_cases h1 : m = 2 * i + 1
  · rw [h1, upd_same]; omega
  · rw [upd_other _ _ _ _ h1]
    by_cases h2 : m = 2 * i
    · rw [h2, upd_same]; omega
    · rw [upd_other _ _ _ _ h2]; exact h m
theorem frow_red (f O : Nat → Int) (i : Nat) (r : Int) (h : ∀ m, 0 ≤ O m ∧ O m < 3329) : ∀ j m, 0 ≤ frow f O i r j m ∧ frow f O i r j m < 3329 := by
  intro j
  induction j with
  | zero => exact h
  | succ j ih => exact fstep_red f _ i j _ ih
theorem fall_red (f : Nat → Int) : ∀ i m, 0 ≤ fall f i m ∧ fall f i m < 3329 := by
  intro i
  induction i with
  | zero => intro m; show (0 : Int) ≤ 0 ∧ (0 : Int) < 3329; omega
  | succ i ih => exact frow_red f _ i _ ih 128
theorem frow_at (f O : Nat → Int) (i : Nat) (r : Int) : ∀ j, (∀ e, e < 2 → Eqm (frow f O i r j (2 * i + e)) (O (2 * i + e) + sm j fun t => f (2 * t + e) * r ^ t)) ∧ ∀ m, m / 2 ≠ i → frow f O i r j m = O m := by
  intro j
  induction j with
  | zero => exact ⟨fun e _ => .of_eq (by simp [frow, sm]), fun m _ => rfl⟩
  | succ j ih =>
    obtain ⟨ih1, ih2⟩ := ih
    refine ⟨fun e he => ?_, fun m hm => ?_⟩
    · have h1 := ih1 e he
      have h2 : Eqm (frow f O i r (j + 1) (2 * i + e)) (frow f O i r j (2 * i + e) + f (2 * j + e) * pw r j) := by
        show Eqm (fstep f (frow f O i r j) i j (pw r j) (2 * i + e)) _
        unfold fstep
        obtain rfl | rfl : e = 0 ∨ e = 1 := by omega
        · rw [upd_other _ _ _ _ (by omega)]
          simp only [Nat.add_zero]
          rw [upd_same]
          exact Eqm.emod _
        · rw [upd_same]; exact Eqm.emod _
      refine h2.trans ((h1.add ((Eqm.refl _).mul (pw_pow r j))).trans (.of_eq ?_))
      simp only [sm]; omega
    · show fstep f (frow f O i r j) i j (pw r j) m = _
      unfold fstep
      rw [upd_other _ _ _ _ (by omega), upd_other _ _ _ _ (by omega)]
      exact ih2 m hm
theorem fall_at (f : Nat → Int) : ∀ n, (∀ i e, i < n → e < 2 → Eqm (fall f n (2 * i + e)) (sm 128 fun t => f (2 * t + e) * gam i ^ t)) ∧ ∀ m, n ≤ m / 2 → fall f n m = 0 := by
  intro n
  induction n with
  | zero => exact ⟨fun i e h => by omega, fun m _ => rfl⟩
  | succ n ih =>
    obtain ⟨ih1, ih2⟩ := ih
    obtain ⟨r1, r2⟩ := frow_at f (fall f n) n (gam n) 128
    refine ⟨fun i e hi he => ?_, fun m hm => ?_⟩
    · by_cases h : i = n
      · subst h
        refine (r1 e he).trans (.of_eq ?_)
        rw [ih2 _ (by omega)]; omega
      · show Eqm (frow f (fall f n) n (gam n) 128 (2 * i + e)) _
        rw [r2 _ (by omega)]
        exact ih1 i e (by omega) he
    · show frow f (fall f n) n (gam n) 128 m = 0
      rw [r2 _ (by omega)]
      exact ih2 m (by omega)
theorem fwdv_ntt (f : Nat → Int) (hf : ∀ i, i < 256 → 0 ≤ f i ∧ f i < 3329) : ∀ m, m < 256 → nttv f m = fwdv f m := by
  intro m hm
  have e : m = 2 * (m / 2) + m % 2 := by omega
  refine Eqm.eq ?_ (nttv_red f hf m hm).1 (nttv_red f hf m hm).2 (fall_red f 128 m).1 (fall_red f 128 m).2
  rw [e]
  exact (nttv_sum f (m / 2) (m % 2) (by omega) (by omega)).trans ((fall_at f 128).1 (m / 2) (m % 2) (by omega) (by omega)).symm

/-! ### Backward -/
def pb (r : Int) : Nat → Int
  | 0 => 3303
  | n + 1 => pb r n * r % 3329
theorem pb_bd (r : Int) (n : Nat) : 0 ≤ pb r n ∧ pb r n < 3329 := by
  cases n with
  | zero => show (0 : Int) ≤ 3303 ∧ (3303 : Int) < 3329; omega
  | succ n => simp only [pb]; omega
theorem pb_pow (r : Int) (n : Nat) : Eqm (pb r n) (3303 * r ^ n) := by
  induction n with
  | zero => rw [Int.pow_zero]; exact Eqm.refl _
  | succ n ih => rw [Int.pow_succ, ← Int.mul_assoc]; exact (Eqm.emod _).trans (ih.mul (Eqm.refl r))
def bstep (f O : Nat → Int) (i j : Nat) (p : Int) : Nat → Int :=
  upd (upd O (2 * j) ((O (2 * j) + f (2 * i) * p) % 3329)) (2 * j + 1) ((O (2 * j + 1) + f (2 * i + 1) * p) % 3329)
def brow (f O : Nat → Int) (i : Nat) (r : Int) : Nat → Nat → Int
  | 0 => O
  | j + 1 => bstep f (brow f O i r j) i j (pb r j)
def ball (f : Nat → Int) : Nat → Nat → Int
  | 0 => fun _ => 0
  | i + 1 => brow f (ball f i) i (gai i) 128
def bwdv (f : Nat → Int) : Nat → Int := ball f 128
theorem bstep_red (f O : Nat → Int) (i j : Nat) (p : Int) (h : ∀ m, 0 ≤ O m ∧ O m < 3329) : ∀ m, 0 ≤ bstep f O i j p m ∧ bstep f O i j p m < 3329 := by
  intro m
  unfold bstep
  by_cases h1 : m = 2 * j + 1
  · rw [h1, upd_same]; omega
  · rw [upd_other _ _ _ _ h1]
    by_cases h2 : m = 2 * j
    · rw [h2, upd_same]; omega
    · rw [upd_other _ _ _ _ h2]; exact h m
theorem brow_red (f O : Nat → Int) (i : Nat) (r : Int) (h : ∀ m, 0 ≤ O m ∧ O m < 3329) : ∀ j m, 0 ≤ brow f O i r j m ∧ brow f O i r j m < 3329 := by
  intro j
  induction j with
  | zero => exact h
  | succ j ih => exact bstep_red f _ i j _ ih
theorem ball_red (f : Nat → Int) : ∀ i m, 0 ≤ ball f i m ∧ ball f i m < 3329 := by
  intro i
  induction i with
  | zero => intro m; show (0 : Int) ≤ 0 ∧ (0 : Int) < 3329; omega
  | succ i ih => exact brow_red f _ i _ ih 128
theorem brow_at (f O : Nat → Int) (i : Nat) (r : Int) : ∀ n u e, e < 2 → Eqm (brow f O i r n (2 * u + e)) (if u < n then O (2 * u + e) + f (2 * i + e) * (3303 * r ^ u) else O (2 * u + e)) := by
  intro n
  induction n with
  | zero => intro u e _; rw [if_neg (by omega)]; exact Eqm.refl _
  | succ n ih =>
    intro u e he
    have hs : brow f O i r (n + 1) (2 * u + e) = bstep f (brow f O i r n) i n (pb r n) (2 * u + e) := rfl
    rw [hs]
    unfold bstep
    by_cases h : u = n
    · subst h
      rw [if_pos (by omega)]
      have h1 := ih u e he
      rw [if_neg (by omega)] at h1
      have h2 : Eqm (upd (upd (brow f O i r u) (2 * u) ((brow f O i r u (2 * u) + f (2 * i) * pb r u) % 3329)) (2 * u + 1) ((brow f O i r u (2 * u + 1) + f (2 * i + 1) * pb r u) % 3329) (2 * u + e)) (brow f O i r u (2 * u + e) + f (2 * i + e) * pb r u) := by
        obtain rfl | rfl : e = 0 ∨ e = 1 := by omega
        · rw [upd_other _ _ _ _ (by omega)]
          simp only [Nat.add_zero]
          rw [upd_same]
          exact Eqm.emod _
        · rw [upd_same]; exact Eqm.emod _
      exact h2.trans (h1.add ((Eqm.refl _).mul (pb_pow r u)))
    · rw [upd_other _ _ _ _ (by omega), upd_other _ _ _ _ (by omega)]
      have h1 := ih u e he
      by_cases h3 : u < n
      · rw [if_pos h3] at h1; rw [if_pos (by omega)]; exact h1
      · rw [if_neg h3] at h1; rw [if_neg (by omega)]; exact h1
theorem ball_at (f : Nat → Int) : ∀ n u e, u < 128 → e < 2 → Eqm (ball f n (2 * u + e)) (sm n fun v => f (2 * v + e) * (3303 * gai v ^ u)) := by
  intro n
  induction n with
  | zero => intro u e _ _; exact Eqm.refl _
  | succ n ih =>
    intro u e hu he
    have h := brow_at f (ball f n) n (gai n) 128 u e he
    rw [if_pos hu] at h
    exact h.trans ((ih u e hu he).add (Eqm.refl _))
theorem bwdv_inv (f : Nat → Int) : ∀ m, m < 256 → invv f m = bwdv f m := by
  intro m hm
  have e : m = 2 * (m / 2) + m % 2 := by omega
  refine Eqm.eq ?_ (invv_red f m).1 (invv_red f m).2 (ball_red f 128 m).1 (ball_red f 128 m).2
  rw [e]
  exact (invv_sum f (m / 2) (m % 2) (by omega) (by omega)).trans (ball_at f 128 (m / 2) (m % 2) (by omega) (by omega)).symm

/-! ### Times -/
def mulv (F G : Nat → Int) : Nat → Int := fun m =>
  if m % 2 = 0 then (F m * G m + F (m + 1) * G (m + 1) % 3329 * gam (m / 2)) % 3329 else (F (m - 1) * G m + F m * G (m - 1)) % 3329
theorem mulv_red (F G : Nat → Int) (m : Nat) : 0 ≤ mulv F G m ∧ mulv F G m < 3329 := by
  unfold mulv; split <;> omega

/-! ### Products modulo X to the power of 256 and 1 -/
def pterm (a b : Nat → Int) (i j : Nat) : Int := if 256 ≤ i + j then 3329 - a i * b j % 3329 else a i * b j % 3329
def pstep (a b p : Nat → Int) (i j : Nat) : Nat → Int := upd p ((i + j) % 256) ((p ((i + j) % 256) + pterm a b i j) % 3329)
def prow (a b p : Nat → Int) (i : Nat) : Nat → Nat → Int
  | 0 => p
  | j + 1 => pstep a b (prow a b p i j) i j
def pall (a b : Nat → Int) : Nat → Nat → Int
  | 0 => fun _ => 0
  | i + 1 => prow a b (pall a b i) i 256
def prodv (a b : Nat → Int) : Nat → Int := pall a b 256
theorem pstep_red (a b p : Nat → Int) (i j : Nat) (h : ∀ m, 0 ≤ p m ∧ p m < 3329) : ∀ m, 0 ≤ pstep a b p i j m ∧ pstep a b p i j m < 3329 := by
  intro m
  unfold pstep
  by_cases e : m = (i + j) % 256
  · rw [e, upd_same]; omega
  · rw [upd_other _ _ _ _ e]; exact h m
theorem prow_red (a b p : Nat → Int) (i : Nat) (h : ∀ m, 0 ≤ p m ∧ p m < 3329) : ∀ j m, 0 ≤ prow a b p i j m ∧ prow a b p i j m < 3329 := by
  intro j
  induction j with
  | zero => exact h
  | succ j ih => exact pstep_red a b _ i j ih
theorem pall_red (a b : Nat → Int) : ∀ i m, 0 ≤ pall a b i m ∧ pall a b i m < 3329 := by
  intro i
  induction i with
  | zero => intro m; show (0 : Int) ≤ 0 ∧ (0 : Int) < 3329; omega
  | succ i ih => exact prow_red a b _ i ih 256
theorem sm_upd (n : Nat) (p c : Nat → Int) (k : Nat) (x : Int) (hk : k < n) : sm n (fun m => upd p k x m * c m) = sm n (fun m => p m * c m) + (x - p k) * c k := by
  induction n with
  | zero => omega
  | succ n ih =>
    simp only [sm]
    by_cases e : k = n
    · subst e
      have h : sm k (fun m => upd p k x m * c m) = sm k (fun m => p m * c m) := sm_eq fun i hi => by rw [upd_other _ _ _ _ (by omega)]
      rw [h, upd_same]; grind
    · rw [ih (by omega), upd_other _ _ _ _ (by omega)]; grind
/-- A weighted sum over a product, modulo 3329; d: the weight at i + j, with its sign. -/
theorem prow_sum (a b p c d : Nat → Int) (i : Nat) (hi : i < 256) (hd : ∀ n, n < 512 → Eqm (d n) (if 256 ≤ n then - c (n % 256) else c (n % 256))) :
    ∀ j, j ≤ 256 → Eqm (sm 256 fun k => prow a b p i j k * c k) ((sm 256 fun k => p k * c k) + sm j fun t => a i * b t * d (i + t)) := by
  intro j
  induction j with
  | zero => intro _; exact .of_eq (Int.add_zero _).symm
  | succ j ih =>
    intro hj
    have h1 := ih (by omega)
    have h2 : (sm 256 fun k => prow a b p i (j + 1) k * c k) = (sm 256 fun k => prow a b p i j k * c k) + ((prow a b p i j ((i + j) % 256) + pterm a b i j) % 3329 - prow a b p i j ((i + j) % 256)) * c ((i + j) % 256) :=
      sm_upd 256 _ c _ _ (by omega)
    rw [h2]
    have h3 : Eqm ((prow a b p i j ((i + j) % 256) + pterm a b i j) % 3329 - prow a b p i j ((i + j) % 256)) (pterm a b i j) := by
      generalize prow a b p i j ((i + j) % 256) = u
      unfold Eqm; omega
    have h4 : Eqm (pterm a b i j * c ((i + j) % 256)) (a i * b j * d (i + j)) := by
      have h5 := hd (i + j) (by omega)
      unfold pterm
      by_cases g : 256 ≤ i + j
      · rw [if_pos g] at h5 ⊢
        have h6 : Eqm (3329 - a i * b j % 3329) (- (a i * b j)) := by unfold Eqm; omega
        refine (h6.mul (Eqm.refl _)).trans (.trans (.of_eq ?_) ((Eqm.refl (a i * b j)).mul h5.symm))
        grind
      · rw [if_neg g] at h5 ⊢
        exact (Eqm.emod _).mul h5.symm
    refine (h1.add ((h3.mul (Eqm.refl _)).trans h4)).trans (.of_eq ?_)
    rw [show (sm (j + 1) fun t => a i * b t * d (i + t)) = (sm j fun t => a i * b t * d (i + t)) + a i * b j * d (i + j) from rfl]
    omega
theorem pall_sum (a b c d : Nat → Int) (hd : ∀ n, n < 512 → Eqm (d n) (if 256 ≤ n then - c (n % 256) else c (n % 256))) :
    ∀ n, n ≤ 256 → Eqm (sm 256 fun k => pall a b n k * c k) (sm n fun i => sm 256 fun j => a i * b j * d (i + j)) := by
  intro n
  induction n with
  | zero =>
    intro _
    refine .of_eq ?_
    have : (sm 256 fun k => pall a b 0 k * c k) = sm 256 fun _ => 0 := sm_eq fun i _ => by simp [pall]
    rw [this, sm_zero]; rfl
  | succ n ih =>
    intro hn
    exact (prow_sum a b (pall a b n) c d n (by omega) hd 256 (by omega)).trans ((ih (by omega)).add (Eqm.refl _))
theorem sm_prod (n m : Nat) (u v : Nat → Int) : (sm n fun s => sm m fun t => u s * v t) = sm n u * sm m v := by
  have h : (sm n fun s => sm m fun t => u s * v t) = sm n fun s => sm m v * u s := sm_eq fun s _ => by rw [sm_mul, Int.mul_comm]
  rw [h, sm_mul, Int.mul_comm]
theorem gam_half : ∀ b, b < 128 → pw (gam b) 128 = 3328 := by decide +kernel
theorem gam_neg (b : Nat) (hb : b < 128) (n : Nat) : Eqm (gam b ^ (128 + n)) (- gam b ^ n) := by
  rw [Int.pow_add]
  have h : Eqm (gam b ^ 128) (-1) := (pw_pow _ _).symm.trans (by rw [gam_half b hb]; unfold Eqm; decide)
  exact (h.mul (Eqm.refl _)).trans (.of_eq (by grind))
/-- The weight of a place in the residue's part e. -/
def wt (g : Int) (e : Nat) (n : Nat) : Int := if n % 2 = e then g ^ (n / 2) else 0
theorem wt_sign (b : Nat) (hb : b < 128) (e : Nat) : ∀ n, n < 512 → Eqm (wt (gam b) e n) (if 256 ≤ n then - wt (gam b) e (n % 256) else wt (gam b) e (n % 256)) := by
  intro n hn
  by_cases h : 256 ≤ n
  · rw [if_pos h]
    have h1 : n % 256 = n - 256 := by omega
    unfold wt
    rw [h1]
    by_cases g : n % 2 = e
    · rw [if_pos g, if_pos (by omega), show n / 2 = 128 + (n - 256) / 2 from by omega]
      exact gam_neg b hb _
    · rw [if_neg g, if_neg (by omega)]; exact .of_eq (by omega)
  · rw [if_neg h, Nat.mod_eq_of_lt (by omega)]; exact Eqm.refl _
theorem wt_sum (p : Nat → Int) (g : Int) (e : Nat) (he : e < 2) : (sm 256 fun k => p k * wt g e k) = sm 128 fun t => p (2 * t + e) * g ^ t := by
  rw [show 256 = 2 * 128 from rfl, sm_split]
  obtain rfl | rfl : e = 0 ∨ e = 1 := by omega
  · have h1 : (sm 128 fun i => p (2 * i + 1) * wt g 0 (2 * i + 1)) = sm 128 fun _ => 0 := sm_eq fun i _ => by unfold wt; rw [if_neg (by omega)]; simp
    have h2 : (sm 128 fun i => p (2 * i) * wt g 0 (2 * i)) = sm 128 fun t => p (2 * t + 0) * g ^ t := sm_eq fun i _ => by unfold wt; rw [if_pos (by omega), show 2 * i / 2 = i from by omega]; rfl
    rw [h1, h2, sm_zero]; omega
  · have h1 : (sm 128 fun i => p (2 * i) * wt g 1 (2 * i)) = sm 128 fun _ => 0 := sm_eq fun i _ => by unfold wt; rw [if_neg (by omega)]; simp
    have h2 : (sm 128 fun i => p (2 * i + 1) * wt g 1 (2 * i + 1)) = sm 128 fun t => p (2 * t + 1) * g ^ t := sm_eq fun i _ => by unfold wt; rw [if_pos (by omega), show (2 * i + 1) / 2 = i from by omega]
    rw [h1, h2, sm_zero]; omega
theorem wt_prod (a b : Nat → Int) (g : Int) :
    (sm 256 fun i => sm 256 fun j => a i * b j * wt g 0 (i + j)) = (sm 128 fun t => a (2 * t) * g ^ t) * (sm 128 fun t => b (2 * t) * g ^ t) + g * ((sm 128 fun t => a (2 * t + 1) * g ^ t) * (sm 128 fun t => b (2 * t + 1) * g ^ t)) ∧
    (sm 256 fun i => sm 256 fun j => a i * b j * wt g 1 (i + j)) = (sm 128 fun t => a (2 * t) * g ^ t) * (sm 128 fun t => b (2 * t + 1) * g ^ t) + (sm 128 fun t => a (2 * t + 1) * g ^ t) * (sm 128 fun t => b (2 * t) * g ^ t) := by
  have row : ∀ e i, (sm 256 fun j => a i * b j * wt g e (i + j)) = (sm 128 fun t => a i * b (2 * t) * wt g e (i + 2 * t)) + sm 128 fun t => a i * b (2 * t + 1) * wt g e (i + (2 * t + 1)) := fun e i => sm_split 128 _
  have z : ∀ (f : Nat → Nat → Int), (∀ s t, f s t = 0) → (sm 128 fun s => sm 128 fun t => f s t) = 0 := fun f h => by
    have : (sm 128 fun s => sm 128 fun t => f s t) = sm 128 fun _ => 0 := sm_eq fun s _ => by
      have h1 : (sm 128 fun t => f s t) = sm 128 fun _ => 0 := sm_eq fun t _ => h s t
      rw [h1, sm_zero]
    rw [this, sm_zero]
  constructor
  · have h0 : (sm 256 fun i => sm 256 fun j => a i * b j * wt g 0 (i + j)) = sm 256 fun i => (sm 128 fun t => a i * b (2 * t) * wt g 0 (i + 2 * t)) + sm 128 fun t => a i * b (2 * t + 1) * wt g 0 (i + (2 * t + 1)) := sm_eq fun i _ => row 0 i
    rw [h0, show 256 = 2 * 128 from rfl, sm_split, sm_add, sm_add]
    rw [z (fun s t => a (2 * s) * b (2 * t + 1) * wt g 0 (2 * s + (2 * t + 1))) (fun s t => by unfold wt; rw [if_neg (by omega)]; simp)]
    rw [z (fun s t => a (2 * s + 1) * b (2 * t) * wt g 0 (2 * s + 1 + 2 * t)) (fun s t => by unfold wt; rw [if_neg (by omega)]; simp)]
    have k1 : (sm 128 fun i => sm 128 fun t => a (2 * i) * b (2 * t) * wt g 0 (2 * i + 2 * t)) = sm 128 fun s => sm 128 fun t => (a (2 * s) * g ^ s) * (b (2 * t) * g ^ t) :=
      sm_eq fun s _ => sm_eq fun t _ => by unfold wt; rw [if_pos (by omega), show (2 * s + 2 * t) / 2 = s + t from by omega, Int.pow_add]; grind
    have k2 : (sm 128 fun i => sm 128 fun t => a (2 * i + 1) * b (2 * t + 1) * wt g 0 (2 * i + 1 + (2 * t + 1))) = sm 128 fun s => sm 128 fun t => (g * (a (2 * s + 1) * g ^ s)) * (b (2 * t + 1) * g ^ t) :=
      sm_eq fun s _ => sm_eq fun t _ => by unfold wt; rw [if_pos (by omega), show (2 * s + 1 + (2 * t + 1)) / 2 = s + t + 1 from by omega, Int.pow_succ, Int.pow_add]; grind
    rw [k1, k2, sm_prod, sm_prod, sm_mul]
    grind
  · have h0 : (sm 256 fun i => sm 256 fun j => a i * b j * wt g 1 (i + j)) = sm 256 fun i => (sm 128 fun t => a i * b (2 * t) * wt g 1 (i + 2 * t)) + sm 128 fun t => a i * b (2 * t + 1) * wt g 1 (i + (2 * t + 1)) := sm_eq fun i _ => row 1 i
    rw [h0, show 256 = 2 * 128 from rfl, sm_split, sm_add, sm_add]
    rw [z (fun s t => a (2 * s) * b (2 * t) * wt g 1 (2 * s + 2 * t)) (fun s t => by unfold wt; rw [if_neg (by omega)]; simp)]
    rw [z (fun s t => a (2 * s + 1) * b (2 * t + 1) * wt g 1 (2 * s + 1 + (2 * t + 1))) (fun s t => by unfold wt; rw [if_neg (by omega)]; simp)]
    have k1 : (sm 128 fun i => sm 128 fun t => a (2 * i) * b (2 * t + 1) * wt g 1 (2 * i + (2 * t + 1))) = sm 128 fun s => sm 128 fun t => (a (2 * s) * g ^ s) * (b (2 * t + 1) * g ^ t) :=
      sm_eq fun s _ => sm_eq fun t _ => by unfold wt; rw [if_pos (by omega), show (2 * s + (2 * t + 1)) / 2 = s + t from by omega, Int.pow_add]; grind
    have k2 : (sm 128 fun i => sm 128 fun t => a (2 * i + 1) * b (2 * t) * wt g 1 (2 * i + 1 + 2 * t)) = sm 128 fun s => sm 128 fun t => (a (2 * s + 1) * g ^ s) * (b (2 * t) * g ^ t) :=
      sm_eq fun s _ => sm_eq fun t _ => by unfold wt; rw [if_pos (by omega), show (2 * s + 1 + 2 * t) / 2 = s + t from by omega, Int.pow_add]; grind
    rw [k1, k2, sm_prod, sm_prod]
    grind
/-- THE PRODUCT: the transform of a product is the product of the transforms. -/
theorem ntt_prod (a b : Nat → Int) : ∀ m, m < 256 → nttv (prodv a b) m = mulv (nttv a) (nttv b) m := by
  intro m hm
  have hp := nttv_red (prodv a b) (fun i _ => pall_red a b 256 i) m hm
  have hq := mulv_red (nttv a) (nttv b) m
  refine Eqm.eq ?_ hp.1 hp.2 hq.1 hq.2
  have hb : m / 2 < 128 := by omega
  have e : m = 2 * (m / 2) + m % 2 := by omega
  have h1 := nttv_sum (prodv a b) (m / 2) (m % 2) hb (by omega)
  rw [← e] at h1
  rw [← wt_sum (prodv a b) (gam (m / 2)) (m % 2) (by omega)] at h1
  have h2 := h1.trans (pall_sum a b (wt (gam (m / 2)) (m % 2)) (wt (gam (m / 2)) (m % 2)) (wt_sign (m / 2) hb (m % 2)) 256 (by omega))
  refine h2.trans ?_
  have A : ∀ t, t < 2 → Eqm (sm 128 fun s => a (2 * s + t) * gam (m / 2) ^ s) (nttv a (2 * (m / 2) + t)) := fun t ht => (nttv_sum a (m / 2) t hb ht).symm
  have D : ∀ t, t < 2 → Eqm (sm 128 fun s => b (2 * s + t) * gam (m / 2) ^ s) (nttv b (2 * (m / 2) + t)) := fun t ht => (nttv_sum b (m / 2) t hb ht).symm
  have A0 := A 0 (by omega); have A1 := A 1 (by omega); have D0 := D 0 (by omega); have D1 := D 1 (by omega)
  simp only [Nat.add_zero] at A0 D0
  obtain ⟨w0, w1⟩ := wt_prod a b (gam (m / 2))
  unfold mulv
  by_cases g : m % 2 = 0
  · rw [g, w0, if_pos rfl]
    have e2 : 2 * (m / 2) = m := by omega
    rw [e2] at A0 A1 D0 D1
    refine ((A0.mul D0).add ((Eqm.refl _).mul (A1.mul D1))).trans (Eqm.symm ((Eqm.emod _).trans ((Eqm.refl _).add (((Eqm.emod _).mul (Eqm.refl _)).trans (.of_eq ?_)))))
    grind
  · have g1 : m % 2 = 1 := by omega
    rw [g1, w1, if_neg (by omega)]
    have e2 : 2 * (m / 2) + 1 = m := by omega
    have e3 : 2 * (m / 2) = m - 1 := by omega
    rw [e2] at A1 D1
    rw [e3] at A0 D0
    exact ((A0.mul D1).add (A1.mul D0)).trans (Eqm.emod _).symm
/-- The transform of a sum. -/
theorem ntt_add (a b : Nat → Int) (ha : ∀ i, i < 256 → 0 ≤ a i ∧ a i < 3329) (hb : ∀ i, i < 256 → 0 ≤ b i ∧ b i < 3329) : ∀ m, m < 256 → nttv (fun i => (a i + b i) % 3329) m = (nttv a m + nttv b m) % 3329 := by
  intro m hm
  have hp := nttv_red (fun i => (a i + b i) % 3329) (fun i _ => by omega) m hm
  refine Eqm.eq ?_ hp.1 hp.2 (by omega) (by omega)
  have e : m = 2 * (m / 2) + m % 2 := by omega
  have h1 := nttv_sum (fun i => (a i + b i) % 3329) (m / 2) (m % 2) (by omega) (by omega)
  have h2 := nttv_sum a (m / 2) (m % 2) (by omega) (by omega)
  have h3 := nttv_sum b (m / 2) (m % 2) (by omega) (by omega)
  rw [← e] at h1 h2 h3
  refine h1.trans (Eqm.symm ((Eqm.emod _).trans ((h2.add h3).trans ?_)))
  rw [← sm_add]
  refine sm_congr fun i _ => ?_
  refine Eqm.symm (((Eqm.emod _).mul (Eqm.refl _)).trans (.of_eq ?_))
  grind
end Go.Proofs.YtcglkelhklihgaaDoor
