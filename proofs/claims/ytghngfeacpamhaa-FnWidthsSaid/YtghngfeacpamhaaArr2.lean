/-
  Blocks that hold arrays, as a relation that a loop carries; whole arrays loaded and stored, and calls, in regions that draw their order. No condition.
-/
import Derived.Test.YtghngfeacpamhaaArr
import Derived.Test.YtghngfeacpamhaaReg
namespace Go.Proofs.Ytghngfeacpamhaa
open Go.RowKit

/-- A block of cells, none of them frozen. -/
@[irreducible] def Has (w : World) (b : Nat) (c : Array Value) (t : TypeId) : Prop := w.heap[b]? = some (.cells c t (0, 0))
section
variable {w w' : World} {b : Nat} {c : Array Value} {t : TypeId} {k : IntKind} {n : Nat} {g : Nat → Int} {B : Nat}
theorem Has.out (h : Has w b c t) : w.heap[b]? = some (.cells c t (0, 0)) := by unfold Has at h; exact h
theorem Has.mk (h : w.heap[b]? = some (.cells c t (0, 0))) : Has w b c t := by unfold Has; exact h
theorem Has.lt (h : Has w b c t) : b < w.heap.size := (Array.getElem?_eq_some_iff.1 h.out).1
theorem Has.drew (h : Has w b c t) : Has w.drew b c t := .mk h.out
theorem Has.drewN (h : Has w b c t) (m : Nat) : Has (w.drewN m) b c t := .mk h.out
theorem Has.cell (h : Has w b (arr k n g) t) (i : Nat) (hi : i < n) : w.cell? ⟨b, i, none⟩ = some (.int k (g i)) := by
  rw [cell_of_row w b i _ t (0, 0) h.out, arr_get k n g i hi]
theorem Has.free (h : Has w b c t) (i : Nat) : w.frozen? ⟨b, i, none⟩ = false := frozen_of_row w b i c t h.out
theorem Has.set (h : Has w b (arr k n g) t) (i : Nat) (x : Int) : Has (w.setCell ⟨b, i, none⟩ (.int k x)) b (arr k n (upd g i x)) t := by
  refine .mk ?_
  rw [heap_setCell_same w b i _ t _ h.out, arr_set]
theorem Has.other (h : Has w b c t) (b' i : Nat) (v : Value) (hb : b ≠ b') : Has (w.setCell ⟨b', i, none⟩ v) b c t := .mk (by rw [heap_setCell_other w ⟨b', i, none⟩ b v hb]; exact h.out)
theorem Has.row (h : Has w b c t) (c' : Array Value) : Has (w.setRow b c') b c' t := .mk (setRow_heap w b c c' t (0, 0) h.out)
theorem Has.row_other (h : Has w b c t) (b' : Nat) (c' : Array Value) (hb : b ≠ b') : Has (w.setRow b' c') b c t := .mk (by rw [setRow_other w b' b c' hb]; exact h.out)
theorem Has.new (w : World) (c : Array Value) (t : TypeId) : Has (w.alloc (.cells c t)) w.heap.size c t := .mk (by show (w.heap.push _)[w.heap.size]? = _; simp)
theorem Has.alloc (h : Has w b c t) (o : Obj) : Has (w.alloc o) b c t := .mk (heap_alloc_lt w o b h.lt _ h.out)
theorem Has.below (h : Has w b c t) (hb : Below B w w') (hlt : b < B) : Has w' b c t := .mk ((hb.block b hlt).trans h.out)
theorem below_set (h : Below B w w') (b i : Nat) (hb : B ≤ b) (v : Value) : Below B w (w'.setCell ⟨b, i, none⟩ v) := h.setCell hb v
theorem below_new (h : Below B w w') (hB : B ≤ w'.heap.size) (o : Obj) : Below B w (w'.alloc o) := h.alloc hB o
end
theorem still_flip {P : Program} {f : FuncId} {args : Array Value} {w : World} {v : Value} (h : Calls P f args w fun e w' => e = .returned v ∧ w = w') : Calls P f args w fun e w' => e = .returned v ∧ w' = w :=
  h.mono fun _ _ ⟨a, b⟩ => ⟨a, b.symm⟩

section
variable {P : Program} {ops : Array Oper} {rest : List Oper} {o : Oper} {a : Act}
theorem run_ld_arr {w : World} (T : TypeId) (b : Nat) (t : TypeId) (k : IntKind) (n : Nat) (g : Nat → Int) (e : TypeId) (hg : w.heap[b]? = some (.cells (arr k n g) t (0, 0)))
    (hu : P.underlying T = some (.array n e)) (hi : (P.info? T).map (·.size) = some n) (hx : ∀ x, o.op = .load T x → a.eval x = .pointer (some ⟨b, 0, none⟩)) (x : Operand) (ho : o.op = .load T x) :
    (execOp a.eval o).run P w = .ok (.value (.agg (arr k n g))) w := by
  unfold execOp
  simp only [ho, hx x ho, Instr.loadAt, Instr.sureAddr, Sem.run_bind, Sem.run_pure, Result.andThen_ok, run_loadVar_row w b t T (arr k n g) (0, 0) _ hg hu rfl (by rw [arr_size]; exact hi)]
/-- A whole array loaded, in a walk that leaves the world alone. -/
theorem still_ld {w : World} {Q : Act → Prop} (hgd : o.guard = none) (T : TypeId) (x : Operand) (ho : o.op = .load T x)
    (b : Nat) (hx : a.eval x = .pointer (some ⟨b, 0, none⟩)) (t : TypeId) (k : IntKind) (n : Nat) (g : Nat → Int) (e : TypeId) (hg : w.heap[b]? = some (.cells (arr k n g) t (0, 0)))
    (hu : P.underlying T = some (.array n e)) (hi : (P.info? T).map (·.size) = some n)
    (h : wpStill P ops w Q rest (a.put o.dst (.agg (arr k n g)))) : wpStill P ops w Q (o :: rest) a := by
  unfold wpStill
  rw [if_pos (by simp [Region.wanted, hgd])]
  unfold Oper.still
  rw [run_ld_arr T b t k n g e hg hu hi (fun y hy => by rw [ho] at hy; cases hy; exact hx) x ho]
  exact ⟨rfl, h⟩
/-- .. in a walk over a class of worlds. -/
theorem quiet_ld {C : World → Prop} {Q : Act → Prop} (hw : Region.wanted o (yielded ops a.tmps) = true) (T : TypeId) (x : Operand) (ho : o.op = .load T x)
    (b : Nat) (hx : a.eval x = .pointer (some ⟨b, 0, none⟩)) (t : TypeId) (k : IntKind) (n : Nat) (g : Nat → Int) (e : TypeId) (hg : ∀ w, C w → w.heap[b]? = some (.cells (arr k n g) t (0, 0)))
    (hu : P.underlying T = some (.array n e)) (hi : (P.info? T).map (·.size) = some n)
    (h : wpQuiet P ops C Q rest (a.put o.dst (.agg (arr k n g)))) : wpQuiet P ops C Q (o :: rest) a := by
  unfold wpQuiet
  rw [if_pos hw]
  refine ⟨_, fun w hc => ?_, h⟩
  unfold Oper.quietAt
  rw [run_ld_arr T b t k n g e (hg w hc) hu hi (fun y hy => by rw [ho] at hy; cases hy; exact hx) x ho]
  exact ⟨rfl, rfl⟩
/-- An operation that yields a value in every world. -/
theorem quiet_val {C : World → Prop} {Q : Act → Prop} (hw : Region.wanted o (yielded ops a.tmps) = true) (v : Value) (hr : ∀ w, (execOp a.eval o).run P w = .ok (.value v) w)
    (h : wpQuiet P ops C Q rest (a.put o.dst v)) : wpQuiet P ops C Q (o :: rest) a := by
  unfold wpQuiet
  rw [if_pos hw]
  refine ⟨_, fun w _ => ?_, h⟩
  unfold Oper.quietAt
  rw [hr w]
  exact ⟨rfl, rfl⟩
/-- An operation that is not wanted. -/
theorem quiet_not {C : World → Prop} {Q : Act → Prop} (hw : Region.wanted o (yielded ops a.tmps) = false) (h : wpQuiet P ops C Q rest (a.put o.dst undef)) : wpQuiet P ops C Q (o :: rest) a := by
  unfold wpQuiet
  rw [hw]
  exact h
/-- A call, in a walk over a class of worlds. -/
theorem quiet_call {C : World → Prop} {Q : Act → Prop} (hw : Region.wanted o (yielded ops a.tmps) = true) (f : FuncId) (args : Array Value) (v : Value)
    (hr : ∀ w, (execOp a.eval o).run P w = .ok (.enter f args) w)
    (hc : ∀ w, C w → Calls P f args w fun e w' => e = .returned v ∧ C w')
    (h : wpQuiet P ops C Q rest (a.put o.dst v)) : wpQuiet P ops C Q (o :: rest) a := by
  unfold wpQuiet
  rw [if_pos hw]
  refine ⟨_, fun w hcw => ?_, h⟩
  unfold Oper.quietAt
  rw [hr w]
  exact ⟨rfl, hc w hcw⟩
end
end Go.Proofs.Ytghngfeacpamhaa
