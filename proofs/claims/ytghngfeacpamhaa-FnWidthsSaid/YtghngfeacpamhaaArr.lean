/-
  Arrays of integers as blocks of memory, kept closed: their cells, stores into them, and laws for the operations that make, load and store a whole array. No condition but the type's own size.
-/
import Derived.Test.YtghngfeacpamhaaRows
import Derived.WalkKit
import Derived.WalkSpells
import Derived.WalkLawsBesides
import Derived.Lib.Hide
import Derived.Deep.WholeRow
namespace Go.Proofs.Ytghngfeacpamhaa
open Go.RowKit

/-- The cells of an array of n integers. -/
@[irreducible] def arr (k : IntKind) (n : Nat) (g : Nat → Int) : Array Value := Array.ofFn (n := n) fun i => Value.int k (g i.val)
/-- A function, turned at one place. -/
@[irreducible] def upd (g : Nat → Int) (i : Nat) (x : Int) : Nat → Int := fun j => if j = i then x else g j

theorem arr_size (k : IntKind) (n : Nat) (g : Nat → Int) : (arr k n g).size = n := by simp [arr]
theorem arr_get (k : IntKind) (n : Nat) (g : Nat → Int) (i : Nat) (h : i < n) : (arr k n g)[i]? = some (.int k (g i)) := by
  simp [arr, h]
theorem arr_congr {k : IntKind} {n : Nat} {g g' : Nat → Int} (h : ∀ i, i < n → g i = g' i) : arr k n g = arr k n g' := by
  unfold arr
  congr 1
  funext i
  rw [h i.val i.isLt]
theorem arr_set (k : IntKind) (n : Nat) (g : Nat → Int) (i : Nat) (x : Int) : (arr k n g).setIfInBounds i (.int k x) = arr k n (upd g i x) := by
  apply Array.ext_getElem?
  intro j
  rw [Array.getElem?_setIfInBounds]
  by_cases hj : j < n
  · rw [arr_get k n (upd g i x) j hj, arr_size]
    by_cases e : i = j
    · subst e; simp [hj, upd]
    · have e' : ¬ j = i := fun h => e h.symm
      simp [e, e', upd, arr_get k n g j hj]
  · have h1 : (arr k n (upd g i x))[j]? = none := by simp [arr]; omega
    have h2 : (arr k n g)[j]? = none := by simp [arr]; omega
    rw [h1, h2, arr_size]
    by_cases e : i = j
    · subst e; simp [hj]
    · simp [e]
theorem arr_one (k : IntKind) (n : Nat) (g : Nat → Int) : (arr k n g).all (·.oneCell') = true := by
  simp only [arr, Array.all_eq_true]
  intro i hi
  simp [Value.oneCell']

/-- The operation 'alloc': a new variable of an aggregate type, at its zero value. -/
theorem wpList_alloc_zero {P : Program} {ops : Array Oper} {rest : List Oper} {o : Oper} {a : Act} {w : World} {Q : Exit → Act → World → Prop} (hgd : o.guard = none) (T : TypeId) (ho : o.op = .alloc T)
    (Z : Array Value) (hz : (P.info? T).map (·.zero) = some (some (.agg Z)))
    (h : wpList P ops Q rest (a.put o.dst (.pointer (some ⟨w.heap.size, 0, none⟩))) (w.alloc (.cells Z T))) : wpList P ops Q (o :: rest) a w :=
  wpList_plain hgd fun K hK => by
    cases hq : P.info? T with
    | none => simp [hq] at hz
    | some i =>
      have hzz : i.zero = some (.agg Z) := by simpa [hq] using hz
      unfold Oper.wp execOp
      simp [ho, Instr.alloc, zeroValue, typeInfo, hq, hzz, newVar, newRow, Value.cells, Oper.upon]
      exact hK _ _ h
/-- The operation 'build' of an array type with no parts: its zero value. -/
theorem wpList_build_zero {P : Program} {ops : Array Oper} {rest : List Oper} {o : Oper} {a : Act} {w : World} {Q : Exit → Act → World → Prop} (hgd : o.guard = none) (T : TypeId) (ho : o.op = .build T #[])
    (Z : Array Value) (hz : P.built T [] = some Z)
    (h : wpList P ops Q rest (a.put o.dst (.agg Z)) w) : wpList P ops Q (o :: rest) a w :=
  wpList_build hgd T #[] ho (by simp [hz]) (by simpa [hz] using h)
/-- A whole array is loaded. -/
theorem ld_arr {P : Program} {ops : Array Oper} {rest : List Oper} {o : Oper} {a : Act} {w : World} {Q : Exit → Act → World → Prop} (hgd : o.guard = none) (T : TypeId) (x : Operand) (ho : o.op = .load T x)
    (b : Nat) (hx : a.eval x = .pointer (some ⟨b, 0, none⟩)) (t : TypeId) (k : IntKind) (n : Nat) (g : Nat → Int) (e : TypeId) (hg : w.heap[b]? = some (.cells (arr k n g) t (0, 0)))
    (hu : P.underlying T = some (.array n e)) (hi : (P.info? T).map (·.size) = some n)
    (h : wpList P ops Q rest (a.put o.dst (.agg (arr k n g))) w) : wpList P ops Q (o :: rest) a w :=
  wpList_load_row hgd T x ho b hx t (arr k n g) (0, 0) _ hg hu rfl (by rw [arr_size]; exact hi) h
/-- A whole array is stored. -/
theorem st_arr {P : Program} {ops : Array Oper} {rest : List Oper} {o : Oper} {a : Act} {w : World} {Q : Exit → Act → World → Prop} (hgd : o.guard = none) (T : TypeId) (x y : Operand) (ho : o.op = .store T x y)
    (b : Nat) (hx : a.eval x = .pointer (some ⟨b, 0, none⟩)) (k : IntKind) (n : Nat) (g : Nat → Int) (hy : a.eval y = .agg (arr k n g)) (t : TypeId) (k' : IntKind) (f : Nat → Int) (hg : w.heap[b]? = some (.cells (arr k' n f) t (0, 0)))
    (hi : (P.info? T).map (·.size) = some n)
    (h : wpList P ops Q rest (a.put o.dst undef) (w.setRow b (arr k n g))) : wpList P ops Q (o :: rest) a w :=
  wpList_store_row hgd T x y ho b (arr k n g) hx hy t (arr k' n f) hg (by rw [arr_size]; exact hi) (by rw [arr_size, arr_size]) (arr_one k n g) h
/-- A function's one result is an array in memory. -/
theorem res_arr {P : Program} {fn : Func} {p : Tmp} {T : TypeId} (h : fn.results = #[.cell p T]) (tmps : Array Value) (w : World) (b : Nat) (t : TypeId) (k : IntKind) (n : Nat) (g : Nat → Int) (e : TypeId)
    (hp : tmps.getD p undef = .pointer (some ⟨b, 0, none⟩)) (hg : w.heap[b]? = some (.cells (arr k n g) t (0, 0)))
    (hu : P.underlying T = some (.array n e)) (hi : (P.info? T).map (·.size) = some n) :
    (results fn tmps).run P w = .ok (.agg (arr k n g)) w :=
  results_cell_row h tmps w b t (arr k n g) (0, 0) _ hp hg hu rfl (by rw [arr_size]; exact hi)
theorem Below.setRow {B : Nat} {w w1 : World} (h : Below B w w1) (b : Nat) (hb : B ≤ b) (cs : Array Value) : Below B w (w1.setRow b cs) :=
  ⟨h.os, h.tape, h.output, by rw [setRow_size]; exact h.size, fun i hi => (setRow_other w1 b i cs (by omega)).trans (h.block i hi)⟩
theorem heap3_0 (w : World) (a b c : Obj) : (((w.alloc a).alloc b).alloc c).heap[w.heap.size]? = some a := by
  show (((w.heap.push a).push b).push c)[w.heap.size]? = some a
  rw [Array.getElem?_push, if_neg (by simp; omega), Array.getElem?_push, if_neg (by simp), Array.getElem?_push, if_pos rfl]
theorem heap3_1 (w : World) (a b c : Obj) : (((w.alloc a).alloc b).alloc c).heap[w.heap.size + 1]? = some b := by
  show (((w.heap.push a).push b).push c)[w.heap.size + 1]? = some b
  rw [Array.getElem?_push, if_neg (by simp), Array.getElem?_push, if_pos (by simp)]
theorem heap3_2 (w : World) (a b c : Obj) : (((w.alloc a).alloc b).alloc c).heap[w.heap.size + 1 + 1]? = some c := by
  show (((w.heap.push a).push b).push c)[w.heap.size + 1 + 1]? = some c
  rw [Array.getElem?_push, if_pos (by simp)]
/-- Filled as far as k, 0 behind it. -/
@[irreducible] def upto (g : Nat → Int) (k : Nat) : Nat → Int := fun j => if j < k then g j else 0
theorem upto_zero (g : Nat → Int) : upto g 0 = fun _ => 0 := by funext j; simp [upto]
theorem upto_succ (g : Nat → Int) (k : Nat) : upd (upto g k) k (g k) = upto g (k + 1) := by
  funext j
  simp only [upd, upto]
  by_cases h : j = k
  · subst h; simp
  · have : (j < k + 1) = (j < k) := by simp; omega
    simp [h, this]
theorem upto_all (k : IntKind) (n : Nat) (g : Nat → Int) : arr k n (upto g n) = arr k n g := arr_congr fun i hi => by simp [upto, hi]
/-- A block that was laid in front of another one. -/
theorem heap_alloc_lt (w : World) (o : Obj) (i : Nat) (h : i < w.heap.size) (x : Option Obj) (hx : w.heap[i]? = x) : (w.alloc o).heap[i]? = x := by
  show (w.heap.push o)[i]? = x
  rw [Array.getElem?_push, if_neg (by omega)]; exact hx
end Go.Proofs.Ytghngfeacpamhaa
