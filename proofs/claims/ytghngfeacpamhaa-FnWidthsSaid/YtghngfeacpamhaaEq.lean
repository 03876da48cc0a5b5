/-
  '==' of two arrays of numbers that agree is true. No condition on the program but its table's rows of the type.
-/
import Derived.Test.YtghngfeacpamhaaTyp
import Derived.Laws.StructEq
namespace Go.Proofs.Ytghngfeacpamhaa
open Go.RowKit
section
variable {P : Program} {w : World}
theorem run_part_arr (e : TypeId) (he : P.underlying e = some (.int .u16)) (hs : (sizeOf e).run P w = .ok 1 w) (k : IntKind) (n : Nat) (g : Nat → Int) (i : Nat) (hi : i < n) : (part e (arr k n g) (i * 1)).run P w = .ok (.int k (g i)) w := by
  have h := arr_get k n g i hi
  rw [Nat.mul_one]
  simp [part, isAgg, Sem.run_bind, hs, h, run_underlying he]
theorem run_eq_loop (d : Nat) (e : TypeId) (he : P.underlying e = some (.int .u16)) (hs : ∀ w, (sizeOf e).run P w = .ok 1 w) (n : Nat) (g : Nat → Int)
    (F : Nat → Option Bool × Unit → Sem (ForInStep (Option Bool × Unit)))
    (hF : ∀ i, i < n → ∀ r, (F i r).run P w = .ok (.yield (none, ())) w) : ∀ (l : List Nat), (∀ i ∈ l, i < n) → (forIn l ((none, ()) : Option Bool × Unit) F).run P w = .ok (none, ()) w
  | [], _ => by simp [Sem.run_pure]
  | i :: l, h => by
    simp only [List.forIn_cons, Sem.run_bind, hF i (h i (by simp)), Result.andThen]
    exact run_eq_loop d e he hs n g F hF l fun j hj => h j (by simp [hj])
theorem run_eq_arr (d : Nat) (T e : TypeId) (n : Nat) (hT : P.underlying T = some (.array n e)) (he : P.underlying e = some (.int .u16)) (hs : ∀ w, (sizeOf e).run P w = .ok 1 w) (g : Nat → Int) :
    (Op.equalIn (d + 1 + 1) T (.agg (arr .u16 n g)) (.agg (arr .u16 n g))).run P w = .ok true w := by
  unfold Op.equalIn
  simp only [Sem.run_bind, run_underlying hT, Result.andThen_ok, hs]
  rw [Std.Legacy.Range.forIn_eq_forIn_range']
  rw [run_eq_loop d e he hs n g _ (fun i hi r => ?_) _ (fun i hi => ?_)]
  · simp
  · have hp := run_part_arr e he (hs w) .u16 n g i hi
    rw [Nat.mul_one] at hp
    simp [hp, run_equalIn_int w d e .u16 .u16 (g i) (g i) he]
  · simpa using hi
theorem run_eq_op {o : Oper} {a : Act} (T e T' : TypeId) (x y : Operand) (ho : o.op = .binOp .eql T x y T') (n : Nat) (g : Nat → Int) (hx : a.eval x = .agg (arr .u16 n g)) (hy : a.eval y = .agg (arr .u16 n g))
    (hT : P.underlying T = some (.array n e)) (he : P.underlying e = some (.int .u16)) (hs : ∀ w, (sizeOf e).run P w = .ok 1 w) (hg : P.eqGuardType P.depth T = false) (w : World) :
    (execOp a.eval o).run P w = .ok (.value (.bool true)) w := by
  have h := run_eq_arr (P := P) (w := w) 9998 T e n hT he hs g
  simp [execOp, ho, hx, hy, eqGuard, hg, binOp, Op.equal, Op.maxDepth, h]
/-- An operation that yields a value; a load of a whole array. -/
theorem wp_yields {o : Oper} {a : Act} {K : Act → World → Prop} {Q : Exit → Act → World → Prop} (v : Value) (hr : (execOp a.eval o).run P w = .ok (.value v) w)
    (h : K (a.put o.dst v) w) : o.wp P a w K Q := by
  unfold Oper.wp
  rw [hr]
  exact h
theorem wp_ld {o : Oper} {a : Act} {K : Act → World → Prop} {Q : Exit → Act → World → Prop} (T : TypeId) (x : Operand) (ho : o.op = .load T x)
    (b : Nat) (hx : a.eval x = .pointer (some ⟨b, 0, none⟩)) (t : TypeId) (k : IntKind) (n : Nat) (g : Nat → Int) (e : TypeId) (hg : w.heap[b]? = some (.cells (arr k n g) t (0, 0)))
    (hu : P.underlying T = some (.array n e)) (hi : (P.info? T).map (·.size) = some n)
    (h : K (a.put o.dst (.agg (arr k n g))) w) : o.wp P a w K Q :=
  wp_yields _ (run_ld_arr T b t k n g e hg hu hi (fun y hy => by rw [ho] at hy; cases hy; exact hx) x ho) h
end
end Go.Proofs.Ytghngfeacpamhaa
