/-
  Regions that draw their order and hold calls whose results hang on the world: the operations that yield alike in every world of a class are taken first, the calls come in their one order. No condition on the program but the Bools over the region's edges.
-/
import Derived.Test.YtghngfeacpamhaaArr2
import Derived.OrdersHeld
namespace Go.Proofs.Ytghngfeacpamhaa
open Go.RowKit
section
variable {P : Program} {ops : Array Oper} {md : Region.Mode} {S : World → Prop} {Q : Exit → Act → World → Prop} {fuel : Nat} {listed : Array Bool} {a : Act} {w : World}
/-- A load of a whole array, taken first. -/
theorem held_ld (i d : Nat) {o : Oper} (hi : ops[i]? = some o) (hd : o.dst = some d) (hs : Region.noSelect ops = true) (hf : Region.free md ops listed i = true) (hr : (Region.ready md ops listed).contains i = true)
    (hQ : ∀ v c a w, Q (.panic c) (a.put o.dst v) w → Q (.panic c) a w) (hw : Region.wanted o (yielded ops a.tmps) = true) (T : TypeId) (x : Operand) (ho : o.op = .load T x)
    (b : Nat) (hx : a.eval x = .pointer (some ⟨b, 0, none⟩)) (t : TypeId) (k : IntKind) (n : Nat) (g : Nat → Int) (e : TypeId) (hg : ∀ w, S w → w.heap[b]? = some (.cells (arr k n g) t (0, 0)))
    (hu : P.underlying T = some (.array n e)) (hi' : (P.info? T).map (·.size) = some n) (hS : S w)
    (h : wpAnyH P md ops Q S fuel (listed.setIfInBounds i true) (a.put (some d) (.agg (arr k n g))) w) : wpAnyH P md ops Q S (fuel + 1) listed a w :=
  wpAnyH_take hi hs hf hr (hQ _) (.inl ⟨hw, fun w' hS' => run_ld_arr T b t k n g e (hg w' hS') hu hi' (fun y hy => by rw [ho] at hy; cases hy; exact hx) x ho⟩) hS (by rw [hd]; exact h)
/-- A value in every world, taken first. -/
theorem held_val (i d : Nat) {o : Oper} (hi : ops[i]? = some o) (hd : o.dst = some d) (hs : Region.noSelect ops = true) (hf : Region.free md ops listed i = true) (hr : (Region.ready md ops listed).contains i = true)
    (hQ : ∀ v c a w, Q (.panic c) (a.put o.dst v) w → Q (.panic c) a w) (hw : Region.wanted o (yielded ops a.tmps) = true) (v : Value) (hv : ∀ w, S w → (execOp a.eval o).run P w = .ok (.value v) w) (hS : S w)
    (h : wpAnyH P md ops Q S fuel (listed.setIfInBounds i true) (a.put (some d) v) w) : wpAnyH P md ops Q S (fuel + 1) listed a w :=
  wpAnyH_take hi hs hf hr (hQ _) (.inl ⟨hw, hv⟩) hS (by rw [hd]; exact h)
/-- An operation that is not wanted. -/
theorem held_not (i d : Nat) {o : Oper} (hi : ops[i]? = some o) (hd : o.dst = some d) (hs : Region.noSelect ops = true) (hf : Region.free md ops listed i = true) (hr : (Region.ready md ops listed).contains i = true)
    (hQ : ∀ v c a w, Q (.panic c) (a.put o.dst v) w → Q (.panic c) a w) (hw : Region.wanted o (yielded ops a.tmps) = false) (hS : S w)
    (h : wpAnyH P md ops Q S fuel (listed.setIfInBounds i true) (a.put (some d) undef) w) : wpAnyH P md ops Q S (fuel + 1) listed a w :=
  wpAnyH_take hi hs hf hr (hQ _) (.inr ⟨hw, rfl⟩) hS (by rw [hd]; exact h)
/-- A call that alone may come up. -/
theorem held_call (i d : Nat) {o : Oper} (hi : ops[i]? = some o) (hd : o.dst = some d) (hr : Region.ready md ops listed = [i]) (hw : Region.wanted o (yielded ops a.tmps) = true)
    (f : FuncId) (args : Array Value) (he : ∀ w, (execOp a.eval o).run P w = .ok (.enter f args) w)
    (h : Calls P f args w fun e w' => ∃ v, e = .returned v ∧ S w' ∧ wpAnyH P md ops Q S fuel (listed.setIfInBounds i true) (a.put (some d) v) w') : wpAnyH P md ops Q S (fuel + 1) listed a w := by
  refine wpAnyH_all hr (by simp) fun j hj => ?_
  obtain rfl := List.mem_singleton.1 hj
  unfold wpOp
  simp only [hi]
  rw [if_pos hw]
  refine .inl ?_
  unfold Oper.wp
  rw [he w]
  simp only [Oper.upon]
  refine h.mono ?_
  rintro e w' ⟨v, rfl, hS, hk⟩
  rw [hd]
  exact ⟨hS, hk⟩
end
end Go.Proofs.Ytghngfeacpamhaa
