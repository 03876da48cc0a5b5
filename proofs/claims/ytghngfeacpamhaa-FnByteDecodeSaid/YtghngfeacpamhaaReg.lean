/-
  Regions that draw their order: two laws: for a region whose first n operations stand in one forced order and whose other operations are quiet in a class of worlds (it may be chosen behind the forced ones), and for one whose first n are quiet and whose others stand in one forced order. No condition on the program but the two Bools over the region's edges.
-/
import Derived.Test.YtghngfeacpamhaaRows
import Derived.WalkKit
import Derived.WalkSpells
import Derived.WalkLawsBesides
import Derived.BigQuiet
import Derived.Deep.QuietTactic
import Derived.StillTailTactics
import Derived.ProofKit
namespace Go.Proofs.Ytghngfeacpamhaa
open Go.RowKit
section
variable {P : Program} {ops : Array Oper} {md : Region.Mode}

def preB (md : Region.Mode) (ops : Array Oper) : Nat → Nat → Array Bool → Bool
  | 0, _, _ => true
  | n + 1, k, listed => (Region.ready md ops listed == [k]) && preB md ops n (k + 1) (listed.setIfInBounds k true)
def setN : Nat → Nat → Array Bool → Array Bool
  | 0, _, listed => listed
  | n + 1, k, listed => setN n (k + 1) (listed.setIfInBounds k true)

theorem wp_then {o : Oper} {a : Act} {w : World} {next K : Act → World → Prop} {Q : Exit → Act → World → Prop} (h : o.wp P a w next (Exit.then K Q)) : o.wp P a w next Q := by
  unfold Oper.wp at *
  generalize (execOp a.eval o).run P w = r at *
  cases r with
  | ok n w' =>
    cases n <;> simp only [Oper.upon] at h ⊢
    case enter f args => exact h.mono fun e w'' he => by cases e <;> exact he
    all_goals exact h
  | halt x w' => cases x <;> simp only [Oper.upon] at h ⊢ <;> exact h

theorem wpAny_pre {Q : Exit → Act → World → Prop} {K : Act → World → Prop} (fuel : Nat) : ∀ (l : List Oper) (k : Nat) (listed : Array Bool) (a : Act) (w : World),
    (∀ j, j < l.length → l[j]? = ops[k + j]?) → preB md ops l.length k listed = true →
    (∀ a w, K a w → wpAny P md ops Q fuel (setN l.length k listed) a w) →
    wpList P ops (Exit.then K Q) l a w → wpAny P md ops Q (fuel + l.length) listed a w
  | [], _, _, _, _, _, _, hK, h => hK _ _ h
  | o :: l, k, listed, a, w, hl, hB, hK, h => by
    have h0 : ops[k]? = some o := by simpa using (hl 0 (by simp)).symm
    simp only [List.length_cons, preB, Bool.and_eq_true, beq_iff_eq] at hB
    obtain ⟨hr, hB'⟩ := hB
    have ih := wpAny_pre (Q := Q) (K := K) fuel l (k + 1) (listed.setIfInBounds k true)
    have hl' : ∀ j, j < l.length → l[j]? = ops[k + 1 + j]? := fun j hj => by
      have := hl (j + 1) (by simp; omega)
      simpa [Nat.add_assoc, Nat.add_comm 1 j] using this
    refine ⟨fun h => (by rw [hr] at h; cases h), fun i hi => ?_⟩
    rw [hr] at hi
    obtain rfl : i = k := by simpa using hi
    unfold wpOp
    simp only [h0]
    unfold wpList at h
    split
    · rename_i hw
      rw [if_pos hw] at h
      rcases h with h | ⟨h1, h2⟩
      · exact .inl (wp_then (Oper.wp_mono (fun a' w' h' => ih a' w' hl' hB' hK h') h))
      · exact .inr ⟨h1, h2⟩
    · rename_i hw
      rw [if_neg hw] at h
      exact ih _ _ hl' hB' hK h

/-- A statement kept shut. -/
structure Hold (p : Prop) : Prop where
  out : p
/-- THE LAW. -/
theorem wp_region_pre_quiet {id : Nat} {Q : Exit → Act → World → Prop} {a : Act} {w : World} {l : List Oper} (n : Nat) (C : World → World → Prop) (hC : ∀ w, C w w)
    (hm : P.follows .mixedOrders = true) (hs : Region.noSelect l.toArray = true) (hn : (l.take n).length = n)
    (hp : preB .any l.toArray n 0 (Array.replicate l.length false) = true)
    (hB : Region.lexFrom .any l.toArray (l.drop n).length n (setN n 0 (Array.replicate l.length false)) = true)
    (h : wpList P l.toArray (Exit.then (fun a1 w1 => Hold (wpQuiet P l.toArray (C w1) (fun a' => ∀ w', C w1 w' → Q .normal a' w') (l.drop n) a1)) Q) (l.take n) a w.drew) :
    (Code.region id l.toArray true).wp P Q a w := by
  refine wp_region_any hm ?_
  have e1 : l.toArray.size = (l.drop n).length + (l.take n).length := by simp; omega
  have e2 : l.toArray.size = l.length := by simp
  have key : wpAny P .any l.toArray Q ((l.drop n).length + (l.take n).length) (Array.replicate l.length false) a w.drew := by
    refine wpAny_pre (l.drop n).length (l.take n) 0 _ a _ ?_ ?_ ?_ h
    · intro j hj
      have hj' : j < n := by rw [hn] at hj; exact hj
      simp [hj']
    · rw [hn]; exact hp
    · intro a1 w1 hq
      refine wpAny_of_quiet (C := C w1) (Q := fun a' => ∀ w', C w1 w' → Q .normal a' w') (fun _ w' hw' h => h w' hw') _ _ _ _ (hC w1) ?_
      refine wpAnyQ_lex hs (l.drop n) n _ a1 (fun j => by simp) ?_ hq.out
      rw [hn]; exact hB
  rw [← e1] at key
  rw [e2]
  rw [e2] at key
  exact key
/-- The head of a region over a class of worlds: what may come up now are head operations alone, each quiet; L holds when so many have come up. -/
def headQ (P : Program) (md : Region.Mode) (ops : Array Oper) (C : World → Prop) (n : Nat) (L : Array Bool → Act → Prop) : Nat → Array Bool → Act → Prop
  | 0, listed, a => L listed a
  | f + 1, listed, a => Region.ready md ops listed ≠ [] ∧ ∀ i ∈ Region.ready md ops listed, i < n ∧ qOp P ops C i (headQ P md ops C n L f (listed.setIfInBounds i true)) a

theorem wpAny_of_headQ {C : World → Prop} {n g : Nat} {L : Array Bool → Act → Prop} {Q : Exit → Act → World → Prop}
    (hL : ∀ listed a w, C w → L listed a → wpAny P md ops Q g listed a w) : ∀ (f : Nat) (listed : Array Bool) (a : Act) (w : World), C w → headQ P md ops C n L f listed a → wpAny P md ops Q (g + f) listed a w
  | 0, listed, a, w, hw, h => hL listed a w hw h
  | f + 1, _, _, _, hw, h => ⟨fun h0 => absurd h0 h.1, fun i hi => wpOp_of_qOp hw (fun a' w' hw' h' => wpAny_of_headQ hL f _ a' w' hw' h') (h.2 i hi).2⟩

theorem headQ_first {C : World → Prop} {n i : Nat} {oi : Oper} {v : Value} {L : Array Bool → Act → Prop} (hi : ops[i]? = some oi) (hsel : ∀ (j : Nat) (o : Oper) cs b, ops[j]? = some o → o.op ≠ .select cs b)
    (hs : Region.sinkB md ops n = true) (hc : Region.chainB md ops n = true) (hn : n < ops.size) (hin : i < n) (hdone : ∀ listed a, L listed a → ∀ j ∈ Region.ready md ops listed, n ≤ j)
    (f : Nat) : ∀ (listed : Array Bool) (a : Act), HeadInv md ops n listed →
      (∀ j oj, ops[j]? = some oj → j ≠ i → listed.getD j true = false → (∀ e ∈ oj.after, Region.binds md e = true → e.on ≠ i) → oi.apart ops oj = true) →
      i ∈ Region.ready md ops listed → YieldsIn P ops C oi v a →
      headQ P md ops C n L f (listed.setIfInBounds i true) (a.put oi.dst v) → headQ P md ops C n L (f + 1) listed a := by
  have small : ∀ (listed : Array Bool), HeadInv md ops n listed → i ∈ Region.ready md ops listed → ∀ j ∈ Region.ready md ops listed, j < n := fun listed inv hr j hj =>
    Nat.lt_of_not_le fun h => tail_waits hs hc hn inv _ i rfl hin (mem_ready.1 hr).1 j h hj
  induction f with
  | zero =>
    intro listed a inv _ hr hy H
    refine ⟨fun h => (by rw [h] at hr; cases hr), fun j hj => ⟨small listed inv hr j hj, ?_⟩⟩
    by_cases e : j = i
    · subst e; exact hy.qOp hi H
    · exact absurd (small listed inv hr j hj) (Nat.not_lt.2 (hdone _ _ H j (ready_mono hj e)))
  | succ f ih =>
    intro listed a inv hfree hr hy H
    refine ⟨fun h => (by rw [h] at hr; cases hr), fun j hj => ⟨small listed inv hr j hj, ?_⟩⟩
    by_cases e : j = i
    · subst e; exact hy.qOp hi H
    · obtain ⟨hun, oj, hoj, hall⟩ := mem_ready.1 hj
      have hno : ∀ d ∈ oj.after, Region.binds md d = true → d.on ≠ i := fun d hd hb he => by
        have h1 := hall d hd hb
        rw [he, getD_both (mem_ready.1 hr).1] at h1
        cases h1
      have h2 := qOp_put hoj (hfree j oj hoj e hun hno) (fun cs b => hsel i oi cs b hi) (fun cs b => hsel j oj cs b hoj) hy (H.2 j (ready_mono hj e)).2
      refine qOp_mono (fun a' h3 => ih (listed.setIfInBounds j true) a' (inv.set hj (small listed inv hr j hj)) ?_ (ready_mono hr (Ne.symm e)) h3.1 ?_) h2
      · intro m om hm hmi hmu hmo
        refine hfree m om hm hmi ?_ hmo
        by_cases q : j = m
        · subst q; exact hun
        · rwa [getD_set_ne true q] at hmu
      · rw [Array.setIfInBounds_comm _ _ e]
        exact h3.2

theorem headQ_lex {C : World → Prop} {n g : Nat} {Lq : Act → Prop} (hsel : Region.noSelect ops = true) (hs : Region.sinkB md ops n = true) (hc : Region.chainB md ops n = true) (hn : n < ops.size) :
    ∀ (l : List Oper) (k : Nat) (listed : Array Bool) (a : Act), (∀ j, j < l.length → l[j]? = ops[k + j]?) → k + l.length = n → HeadInv md ops n listed →
    Region.lexHead md ops g l.length k listed = true → wpQuiet P ops C Lq l a →
    headQ P md ops C n (fun listed' a' => Region.seqB md ops g n listed' = true ∧ Lq a') l.length listed a
  | [], k, listed, a, _, hk, _, hB, h => by
    obtain rfl : k = n := by simpa using hk
    exact ⟨by simpa [Region.lexHead] using hB, h⟩
  | o :: l, k, listed, a, hl, hk, inv, hB, h => by
    have h0 : ops[k]? = some o := by simpa using (hl 0 (by simp)).symm
    simp only [List.length_cons] at hk
    simp only [List.length_cons, Region.lexHead, Bool.and_eq_true] at hB
    have hr : k ∈ Region.ready md ops listed := by simpa using hB.1.1
    have hq : qOp P ops C k (wpQuiet P ops C Lq l) a := by unfold qOp; simp only [h0]; exact h
    obtain ⟨v, hy, hK⟩ := yieldsIn_of_qOp h0 hq
    exact headQ_first h0 (Region.noSelect_spec hsel) hs hc hn (by omega) (fun _ _ hL => seqB_ready hL.1) l.length listed a inv (Region.free_spec h0 hB.1.2) hr hy
      (headQ_lex hsel hs hc hn l (k + 1) _ _ (fun j hj => by have := hl (j + 1) (by simp; omega); simpa [Nat.add_assoc, Nat.add_comm 1 j] using this) (by omega) (inv.set hr (by omega)) hB.2 hK)

/-- A SECOND LAW: the first n operations are quiet in a class of worlds, the others stand in one forced order behind them all. -/
theorem wp_region_quiet_tail {id : Nat} {Q : Exit → Act → World → Prop} {a : Act} {w : World} {l : List Oper} (n : Nat) (C : World → Prop) (hC : C w.drew) (hm : P.follows .mixedOrders = true) (hB : Region.lexTailB .any l.toArray n = true)
    (h : wpQuiet P l.toArray C (fun a' => ∀ w', C w' → wpList P l.toArray Q (l.drop n) a' w') (l.take n) a) : (Code.region id l.toArray true).wp P Q a w := by
  simp only [Region.lexTailB, Bool.and_eq_true, decide_eq_true_eq] at hB
  obtain ⟨⟨⟨⟨hsel, hn⟩, hs⟩, hc⟩, hlex⟩ := hB
  have hn' : n < l.length := by simpa using hn
  have ht : (l.take n).length = n := by simp; omega
  have inv0 : HeadInv .any l.toArray n (Array.replicate l.length false) :=
    ⟨by simp, fun j oj _ hl => (by rw [getD_replicate_false] at hl; cases hl), fun t _ h => getD_in (by simpa using h) (getD_replicate_false _ _)⟩
  have hlex' : Region.lexHead .any l.toArray (l.drop n).length (l.take n).length 0 (Array.replicate l.length false) = true := by
    rw [ht]; simpa using hlex
  have key := headQ_lex (C := C) hsel hs hc hn (l.take n) 0 (Array.replicate l.length false) a (fun j hj => by rw [ht] at hj; simp [hj]) (by rw [Nat.zero_add, ht]) inv0 hlex' h
  have fin := wpAny_of_headQ (Q := Q) (g := (l.drop n).length) (fun listed a' w' hw' hL => wpAny_of_seq (l.drop n) n listed a' w' (fun j => by simp) hL.1 (hL.2 w' hw')) _ _ _ _ hC key
  refine wp_region_any hm ?_
  have e1 : (l.drop n).length + (l.take n).length = l.toArray.size := by simp; omega
  rw [e1] at fin
  exact fin
end

theorem quiet_flip {P : Program} {f : FuncId} {args : Array Value} {w : World} {n : Nat} {v : Value}
    (h : Calls P f args (w.drewN n) fun e w' => e = .returned v ∧ w.drewN n = w') : Calls P f args (w.drewN n) fun e w'' => e = .returned v ∧ ∃ m, w'' = w.drewN m :=
  h.mono fun _ _ ⟨he, hm⟩ => ⟨he, n, hm.symm⟩
theorem grown_drewN {w w' : World} (h : Grown w w') (n : Nat) : Grown w (w'.drewN n) := h
end Go.Proofs.Ytghngfeacpamhaa
