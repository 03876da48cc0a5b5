/-
  Regions that draw their order: a law for a region whose first n operations stand in one forced order and whose other operations are quiet in a class of worlds (it may be chosen behind the forced ones). No condition on the program but the two Bools over the region's edges.
-/
import Derived.Test.YtnkkkgpdfhgmgaaRows
import Derived.WalkKit
import Derived.WalkSpells
import Derived.WalkLawsBesides
import Derived.BigQuiet
import Derived.Deep.QuietTactic
import Derived.StillTailTactics
import Derived.ProofKit
namespace Go.Proofs.Ytnkkkgpdfhgmgaa
open Go.RowKit
section
variable {P : Program} {ops : Array Oper} {md : Region.Mode}

def preB (md : Region.Mode) (ops : Array Oper) : Nat → Nat → Array Bool → Bool
  | 0, _, _ => true
  | n + 1, k, listed => (Region.ready md ops listed == [k]) && preB md ops n (k + 1) (listed.setIfInBounds k true)
def setN : Nat → Nat → Array Bool → Array Bool
  | 0, _, listed => listed
  | n + 1, k, listed => setN n (k + 1) (listed.setIfInBounds k true)

theorem wp_then {o : Oper} {a : Act} {w : World} {next K : Act → World → Prop} {Q : Exit → Act → World → Prop} (h : o.wp P a w next (Exit.then K Q)) : o.wp P a w next Q := by
  unfold Oper.wp at *
  generalize (execOp a.eval o).run P w = r at *
  cases r with
  | ok n w' =>
    cases n <;> simp only [Oper.upon] at h ⊢
    case enter f args => exact h.mono fun e w'' he => by cases e <;> exact he
    all_goals exact h
  | halt x w' => cases x <;> simp only [Oper.upon] at h ⊢ <;> exact h

theorem wpAny_pre {Q : Exit → Act → World → Prop} {K : Act → World → Prop} (fuel : Nat) : ∀ (l : List Oper) (k : Nat) (listed : Array Bool) (a : Act) (w : World),
    (∀ j, j < l.length → l[j]? = ops[k + j]?) → preB md ops l.length k listed = true →
    (∀ a w, K a w → wpAny P md ops Q fuel (setN l.length k listed) a w) →
    wpList P ops (Exit.then K Q) l a w → wpAny P md ops Q (fuel + l.length) listed a w
  | [], _, _, _, _, _, _, hK, h => hK _ _ h
  | o :: l, k, listed, a, w, hl, hB, hK, h => by
    have h0 : ops[k]? = some o := by simpa using (hl 0 (by simp)).symm
    simp only [List.length_cons, preB, Bool.and_eq_true, beq_iff_eq] at hB
    obtain ⟨hr, hB'⟩ := hB
    have ih := wpAny_pre (Q := Q) (K := K) fuel l (k + 1) (listed.setIfInBounds k true)
    have hl' : ∀ j, j < l.length → l[j]? = ops[k + 1 + j]? := fun j hj => by
      have := hl (j + 1) (by simp; omega)
      simpa [Nat.add_assoc, Nat.add_comm 1 j] using this
    refine ⟨fun h => (by rw [hr] at h; cases h), fun i hi => ?_⟩
    rw [hr] at hi
    obtain rfl : i = k := by simpa using hi
    unfold wpOp
    simp only [h0]
    unfold wpList at h
    split
    · rename_i hw
      rw [if_pos hw] at h
      rcases h with h | ⟨h1, h2⟩
      · exact .inl (wp_then (Oper.wp_mono (fun a' w' h' => ih a' w' hl' hB' hK h') h))
      · exact .inr ⟨h1, h2⟩
    · rename_i hw
      rw [if_neg hw] at h
      exact ih _ _ hl' hB' hK h

/-- A statement kept shut. -/
structure Hold (p : Prop) : Prop where
  out : p
/-- THE LAW. -/
theorem wp_region_pre_quiet {id : Nat} {Q : Exit → Act → World → Prop} {a : Act} {w : World} {l : List Oper} (n : Nat) (C : World → World → Prop) (hC : ∀ w, C w w)
    (hm : P.follows .mixedOrders = true) (hs : Region.noSelect l.toArray = true) (hn : (l.take n).length = n)
    (hp : preB .any l.toArray n 0 (Array.replicate l.length false) = true)
    (hB : Region.lexFrom .any l.toArray (l.drop n).length n (setN n 0 (Array.replicate l.length false)) = true)
    (h : wpList P l.toArray (Exit.then (fun a1 w1 => Hold (wpQuiet P l.toArray (C w1) (fun a' => ∀ w', C w1 w' → Q .normal a' w') (l.drop n) a1)) Q) (l.take n) a w.drew) :
    (Code.region id l.toArray true).wp P Q a w := by
  refine wp_region_any hm ?_
  have e1 : l.toArray.size = (l.drop n).length + (l.take n).length := by simp; omega
  have e2 : l.toArray.size = l.length := by simp
  have key : wpAny P .any l.toArray Q ((l.drop n).length + (l.take n).length) (Array.replicate l.length false) a w.drew := by
    refine wpAny_pre (l.drop n).length (l.take n) 0 _ a _ ?_ ?_ ?_ h
    · intro j hj
      have hj' : j < n := by rw [hn] at hj; exact hj
      simp [hj']
    · rw [hn]; exact hp
    · intro a1 w1 hq
      refine wpAny_of_quiet (C := C w1) (Q := fun a' => ∀ w', C w1 w' → Q .normal a' w') (fun _ w' hw' h => h w' hw') _ _ _ _ (hC w1) ?_
      refine wpAnyQ_lex hs (l.drop n) n _ a1 (fun j => by simp) ?_ hq.out
      rw [hn]; exact hB
  rw [← e1] at key
  rw [e2]
  rw [e2] at key
  exact key
end

theorem quiet_flip {P : Program} {f : FuncId} {args : Array Value} {w : World} {n : Nat} {v : Value}
    (h : Calls P f args (w.drewN n) fun e w' => e = .returned v ∧ w.drewN n = w') : Calls P f args (w.drewN n) fun e w'' => e = .returned v ∧ ∃ m, w'' = w.drewN m :=
  h.mono fun _ _ ⟨he, hm⟩ => ⟨he, n, hm.symm⟩
theorem grown_drewN {w w' : World} (h : Grown w w') (n : Nat) : Grown w (w'.drewN n) := h
end Go.Proofs.Ytnkkkgpdfhgmgaa
