/-
  Regions that draw their order and in which calls and new variables float: each that may come up is met by its own law. No condition on the program but the Bools over the region's edges.
-/
import Derived.Test.YtghngfeacpamhaaHeld
namespace Go.Proofs.Ytghngfeacpamhaa
open Go.RowKit
theorem all1 {p : Nat → Prop} {x : Nat} (hx : p x) : ∀ i ∈ [x], p i := fun i hi => by
  obtain rfl := List.mem_singleton.1 hi; exact hx
theorem all2 {p : Nat → Prop} {x y : Nat} (hx : p x) (hy : p y) : ∀ i ∈ [x, y], p i := fun i hi => by
  simp only [List.mem_cons, List.not_mem_nil, or_false] at hi
  rcases hi with rfl | rfl
  · exact hx
  · exact hy
theorem all3 {p : Nat → Prop} {x y z : Nat} (hx : p x) (hy : p y) (hz : p z) : ∀ i ∈ [x, y, z], p i := fun i hi => by
  simp only [List.mem_cons, List.not_mem_nil, or_false] at hi
  rcases hi with rfl | rfl | rfl
  · exact hx
  · exact hy
  · exact hz
section
variable {P : Program} {ops : Array Oper} {Q : Exit → Act → World → Prop} {a : Act} {w : World} {K : Act → World → Prop}
theorem arm_alloc (i d : Nat) {o : Oper} (hi : ops[i]? = some o) (hd : o.dst = some d) (hw : Region.wanted o (yielded ops a.tmps) = true) (T : TypeId) (ho : o.op = .alloc T)
    (Z : Array Value) (hz : (P.info? T).map (·.zero) = some (some (.agg Z)))
    (h : K (a.put (some d) (.pointer (some ⟨w.heap.size, 0, none⟩))) (w.alloc (.cells Z T))) : wpOp P ops Q i K a w := by
  unfold wpOp
  simp only [hi]
  rw [if_pos hw]
  refine .inl ?_
  cases hq : P.info? T with
  | none => simp [hq] at hz
  | some i =>
    have hzz : i.zero = some (.agg Z) := by simpa [hq] using hz
    unfold Oper.wp execOp
    simp [ho, Instr.alloc, zeroValue, typeInfo, hq, hzz, newVar, newRow, Value.cells, Oper.upon]
    rw [hd]
    exact h
theorem arm_call (i d : Nat) {o : Oper} (hi : ops[i]? = some o) (hd : o.dst = some d) (hw : Region.wanted o (yielded ops a.tmps) = true)
    (f : FuncId) (args : Array Value) (he : ∀ w, (execOp a.eval o).run P w = .ok (.enter f args) w)
    (h : Calls P f args w fun e w' => ∃ v, e = .returned v ∧ K (a.put (some d) v) w') : wpOp P ops Q i K a w := by
  unfold wpOp
  simp only [hi]
  rw [if_pos hw]
  refine .inl ?_
  unfold Oper.wp
  rw [he w]
  simp only [Oper.upon]
  refine h.mono ?_
  rintro e w' ⟨v, rfl, hk⟩
  rw [hd]
  exact hk
theorem arm_store (i : Nat) {o : Oper} (hi : ops[i]? = some o) (hd : o.dst = none) (hw : Region.wanted o (yielded ops a.tmps) = true) (T : TypeId) (x y : Operand) (ho : o.op = .store T x y)
    (b : Nat) (hx : a.eval x = .pointer (some ⟨b, 0, none⟩)) (k : IntKind) (n : Nat) (g : Nat → Int) (hy : a.eval y = .agg (arr k n g)) (t : TypeId) (k' : IntKind) (f : Nat → Int) (hg : w.heap[b]? = some (.cells (arr k' n f) t (0, 0)))
    (hsz : (P.info? T).map (·.size) = some n)
    (h : K a (w.setRow b (arr k n g))) : wpOp P ops Q i K a w := by
  unfold wpOp
  simp only [hi]
  rw [if_pos hw]
  refine .inl (wp_store_row T x y ho b (arr k n g) hx hy t (arr k' n f) hg (by rw [arr_size]; exact hsz) (by rw [arr_size, arr_size]) (arr_one k n g) ?_)
  rw [hd]
  exact h
end
end Go.Proofs.Ytghngfeacpamhaa
