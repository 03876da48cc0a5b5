/-
  The types of arrays of 256 numbers: their zero values, sizes, an element by its index. No condition.
-/
import Derived.Test.YtghngfeacpamhaaArr2
namespace Go.Proofs.Ytghngfeacpamhaa
open Go.RowKit

theorem zero23 : (Try.prog.info? 23).map (·.zero) = some (some (.agg (arr .u16 256 fun _ => 0))) := by kernel_rfl
theorem size23 : (Try.prog.info? 23).map (·.size) = some 256 := by kernel_rfl
theorem built23 : Try.prog.built 23 [] = some (arr .u16 256 fun _ => 0) := by kernel_rfl
theorem index23 (g : Nat → Int) (k : Nat) (hk : k < 256) (w : World) : (Instr.index 23 (.agg (arr .u16 256 g)) (.int .i64 k)).run Try.prog w = .ok (.int .u16 (g k)) w := by
  have h2 : (sizeOf 22).run Try.prog w = .ok 1 w := by kernel_rfl
  have h3 : (underlying 23).run Try.prog w = .ok (.array 256 22) w := by kernel_rfl
  have h5 : (arr .u16 256 g)[k]? = some (.int .u16 (g k)) := arr_get _ _ _ _ hk
  simp [Instr.index, asIntOf, Sem.run_bind, h3, h2, part, hk, h5]
theorem zero50 : (Try.prog.info? 50).map (·.zero) = some (some (.agg (arr .u16 256 fun _ => 0))) := by kernel_rfl
theorem size50 : (Try.prog.info? 50).map (·.size) = some 256 := by kernel_rfl
theorem built50 : Try.prog.built 50 [] = some (arr .u16 256 fun _ => 0) := by kernel_rfl
theorem index50 (g : Nat → Int) (k : Nat) (hk : k < 256) (w : World) : (Instr.index 50 (.agg (arr .u16 256 g)) (.int .i64 k)).run Try.prog w = .ok (.int .u16 (g k)) w := by
  have h2 : (sizeOf 48).run Try.prog w = .ok 1 w := by kernel_rfl
  have h3 : (underlying 50).run Try.prog w = .ok (.array 256 48) w := by kernel_rfl
  have h5 : (arr .u16 256 g)[k]? = some (.int .u16 (g k)) := arr_get _ _ _ _ hk
  simp [Instr.index, asIntOf, Sem.run_bind, h3, h2, part, hk, h5]
theorem zero25 : (Try.prog.info? 25).map (·.zero) = some (some (.agg (arr .i64 256 fun _ => 0))) := by kernel_rfl
theorem size25 : (Try.prog.info? 25).map (·.size) = some 256 := by kernel_rfl
theorem built25 : Try.prog.built 25 [] = some (arr .i64 256 fun _ => 0) := by kernel_rfl
theorem index25 (g : Nat → Int) (k : Nat) (hk : k < 256) (w : World) : (Instr.index 25 (.agg (arr .i64 256 g)) (.int .i64 k)).run Try.prog w = .ok (.int .i64 (g k)) w := by
  have h2 : (sizeOf 3).run Try.prog w = .ok 1 w := by kernel_rfl
  have h3 : (underlying 25).run Try.prog w = .ok (.array 256 3) w := by kernel_rfl
  have h5 : (arr .i64 256 g)[k]? = some (.int .i64 (g k)) := arr_get _ _ _ _ hk
  simp [Instr.index, asIntOf, Sem.run_bind, h3, h2, part, hk, h5]
theorem heap4_0 (w : World) (a0 a1 a2 a3 : Obj) : ((((w.alloc a0).alloc a1).alloc a2).alloc a3).heap[w.heap.size]? = some a0 := by
  show ((((w.heap.push a0).push a1).push a2).push a3)[w.heap.size]? = some a0
  rw [Array.getElem?_push, if_neg (by simp only [Array.size_push]; omega), Array.getElem?_push, if_neg (by simp only [Array.size_push]; omega), Array.getElem?_push, if_neg (by simp only [Array.size_push]; omega), Array.getElem?_push, if_pos rfl]
theorem heap4_1 (w : World) (a0 a1 a2 a3 : Obj) : ((((w.alloc a0).alloc a1).alloc a2).alloc a3).heap[w.heap.size + 1]? = some a1 := by
  show ((((w.heap.push a0).push a1).push a2).push a3)[w.heap.size + 1]? = some a1
  rw [Array.getElem?_push, if_neg (by simp only [Array.size_push]; omega), Array.getElem?_push, if_neg (by simp only [Array.size_push]; omega), Array.getElem?_push, if_pos (by simp only [Array.size_push])]
theorem heap4_2 (w : World) (a0 a1 a2 a3 : Obj) : ((((w.alloc a0).alloc a1).alloc a2).alloc a3).heap[w.heap.size + 1 + 1]? = some a2 := by
  show ((((w.heap.push a0).push a1).push a2).push a3)[w.heap.size + 1 + 1]? = some a2
  rw [Array.getElem?_push, if_neg (by simp only [Array.size_push]; omega), Array.getElem?_push, if_pos (by simp only [Array.size_push])]
theorem heap4_3 (w : World) (a0 a1 a2 a3 : Obj) : ((((w.alloc a0).alloc a1).alloc a2).alloc a3).heap[w.heap.size + 1 + 1 + 1]? = some a3 := by
  show ((((w.heap.push a0).push a1).push a2).push a3)[w.heap.size + 1 + 1 + 1]? = some a3
  rw [Array.getElem?_push, if_pos (by simp only [Array.size_push])]
theorem heap5_0 (w : World) (a0 a1 a2 a3 a4 : Obj) : (((((w.alloc a0).alloc a1).alloc a2).alloc a3).alloc a4).heap[w.heap.size]? = some a0 := by
  show (((((w.heap.push a0).push a1).push a2).push a3).push a4)[w.heap.size]? = some a0
  rw [Array.getElem?_push, if_neg (by simp only [Array.size_push]; omega), Array.getElem?_push, if_neg (by simp only [Array.size_push]; omega), Array.getElem?_push, if_neg (by simp only [Array.size_push]; omega), Array.getElem?_push, if_neg (by simp only [Array.size_push]; omega), Array.getElem?_push, if_pos rfl]
theorem heap5_1 (w : World) (a0 a1 a2 a3 a4 : Obj) : (((((w.alloc a0).alloc a1).alloc a2).alloc a3).alloc a4).heap[w.heap.size + 1]? = some a1 := by
  show (((((w.heap.push a0).push a1).push a2).push a3).push a4)[w.heap.size + 1]? = some a1
  rw [Array.getElem?_push, if_neg (by simp only [Array.size_push]; omega), Array.getElem?_push, if_neg (by simp only [Array.size_push]; omega), Array.getElem?_push, if_neg (by simp only [Array.size_push]; omega), Array.getElem?_push, if_pos (by simp only [Array.size_push])]
theorem heap5_2 (w : World) (a0 a1 a2 a3 a4 : Obj) : (((((w.alloc a0).alloc a1).alloc a2).alloc a3).alloc a4).heap[w.heap.size + 1 + 1]? = some a2 := by
  show (((((w.heap.push a0).push a1).push a2).push a3).push a4)[w.heap.size + 1 + 1]? = some a2
  rw [Array.getElem?_push, if_neg (by simp only [Array.size_push]; omega), Array.getElem?_push, if_neg (by simp only [Array.size_push]; omega), Array.getElem?_push, if_pos (by simp only [Array.size_push])]
theorem heap5_3 (w : World) (a0 a1 a2 a3 a4 : Obj) : (((((w.alloc a0).alloc a1).alloc a2).alloc a3).alloc a4).heap[w.heap.size + 1 + 1 + 1]? = some a3 := by
  show (((((w.heap.push a0).push a1).push a2).push a3).push a4)[w.heap.size + 1 + 1 + 1]? = some a3
  rw [Array.getElem?_push, if_neg (by simp only [Array.size_push]; omega), Array.getElem?_push, if_pos (by simp only [Array.size_push])]
theorem heap5_4 (w : World) (a0 a1 a2 a3 a4 : Obj) : (((((w.alloc a0).alloc a1).alloc a2).alloc a3).alloc a4).heap[w.heap.size + 1 + 1 + 1 + 1]? = some a4 := by
  show (((((w.heap.push a0).push a1).push a2).push a3).push a4)[w.heap.size + 1 + 1 + 1 + 1]? = some a4
  rw [Array.getElem?_push, if_pos (by simp only [Array.size_push])]
theorem pack1 (w : World) (c0 : Array Value) (t0 : TypeId) : ∃ W, W = (w.alloc (.cells c0 t0)) ∧ Has W (w.heap.size) c0 t0 ∧ Below w.heap.size w W ∧ w.heap.size + 1 ≤ W.heap.size := by
  refine ⟨_, rfl, .mk ?_, ((Below.refl _ _).alloc (Nat.le_refl _) _), by simp only [World.size_alloc]; omega⟩
  · exact (Has.new w c0 t0).out
theorem pack2 (w : World) (c0 c1 : Array Value) (t0 t1 : TypeId) : ∃ W, W = ((w.alloc (.cells c0 t0)).alloc (.cells c1 t1)) ∧ Has W (w.heap.size) c0 t0 ∧ Has W (w.heap.size + 1) c1 t1 ∧ Below w.heap.size w W ∧ w.heap.size + 1 + 1 ≤ W.heap.size := by
  refine ⟨_, rfl, .mk ?_, .mk ?_, (((Below.refl _ _).alloc (Nat.le_refl _) _).alloc (by simp only [World.size_alloc]; omega) _), by simp only [World.size_alloc]; omega⟩
  · exact ((Has.new w c0 t0).alloc _).out
  · have h := (Has.new (w.alloc (.cells c0 t0)) c1 t1).out
    rwa [World.size_alloc] at h
theorem pack3 (w : World) (c0 c1 c2 : Array Value) (t0 t1 t2 : TypeId) : ∃ W, W = (((w.alloc (.cells c0 t0)).alloc (.cells c1 t1)).alloc (.cells c2 t2)) ∧ Has W (w.heap.size) c0 t0 ∧ Has W (w.heap.size + 1) c1 t1 ∧ Has W (w.heap.size + 1 + 1) c2 t2 ∧ Below w.heap.size w W ∧ w.heap.size + 1 + 1 + 1 ≤ W.heap.size := by
  refine ⟨_, rfl, .mk ?_, .mk ?_, .mk ?_, ((((Below.refl _ _).alloc (Nat.le_refl _) _).alloc (by simp only [World.size_alloc]; omega) _).alloc (by simp only [World.size_alloc]; omega) _), by simp only [World.size_alloc]; omega⟩
  · exact heap3_0 _ _ _ _
  · exact heap3_1 _ _ _ _
  · exact heap3_2 _ _ _ _
theorem pack4 (w : World) (c0 c1 c2 c3 : Array Value) (t0 t1 t2 t3 : TypeId) : ∃ W, W = ((((w.alloc (.cells c0 t0)).alloc (.cells c1 t1)).alloc (.cells c2 t2)).alloc (.cells c3 t3)) ∧ Has W (w.heap.size) c0 t0 ∧ Has W (w.heap.size + 1) c1 t1 ∧ Has W (w.heap.size + 1 + 1) c2 t2 ∧ Has W (w.heap.size + 1 + 1 + 1) c3 t3 ∧ Below w.heap.size w W ∧ w.heap.size + 1 + 1 + 1 + 1 ≤ W.heap.size := by
  refine ⟨_, rfl, .mk ?_, .mk ?_, .mk ?_, .mk ?_, (((((Below.refl _ _).alloc (Nat.le_refl _) _).alloc (by simp only [World.size_alloc]; omega) _).alloc (by simp only [World.size_alloc]; omega) _).alloc (by simp only [World.size_alloc]; omega) _), by simp only [World.size_alloc]; omega⟩
  · exact heap4_0 _ _ _ _ _
  · exact heap4_1 _ _ _ _ _
  · exact heap4_2 _ _ _ _ _
  · exact heap4_3 _ _ _ _ _
theorem pack5 (w : World) (c0 c1 c2 c3 c4 : Array Value) (t0 t1 t2 t3 t4 : TypeId) : ∃ W, W = (((((w.alloc (.cells c0 t0)).alloc (.cells c1 t1)).alloc (.cells c2 t2)).alloc (.cells c3 t3)).alloc (.cells c4 t4)) ∧ Has W (w.heap.size) c0 t0 ∧ Has W (w.heap.size + 1) c1 t1 ∧ Has W (w.heap.size + 1 + 1) c2 t2 ∧ Has W (w.heap.size + 1 + 1 + 1) c3 t3 ∧ Has W (w.heap.size + 1 + 1 + 1 + 1) c4 t4 ∧ Below w.heap.size w W ∧ w.heap.size + 1 + 1 + 1 + 1 + 1 ≤ W.heap.size := by
  refine ⟨_, rfl, .mk ?_, .mk ?_, .mk ?_, .mk ?_, .mk ?_, ((((((Below.refl _ _).alloc (Nat.le_refl _) _).alloc (by simp only [World.size_alloc]; omega) _).alloc (by simp only [World.size_alloc]; omega) _).alloc (by simp only [World.size_alloc]; omega) _).alloc (by simp only [World.size_alloc]; omega) _), by simp only [World.size_alloc]; omega⟩
  · exact heap5_0 _ _ _ _ _ _
  · exact heap5_1 _ _ _ _ _ _
  · exact heap5_2 _ _ _ _ _ _
  · exact heap5_3 _ _ _ _ _ _
  · exact heap5_4 _ _ _ _ _ _
/-- A contract that keeps what was there, met in a world of the class 'W, but for blocks from B on'. -/
theorem quiet_of_any {P : Program} {f : FuncId} {args : Array Value} {W w : World} {v : Value} {B : Nat} (h : Calls P f args w fun e w' => e = .returned v ∧ Below w.heap.size w w') (hc : Below B W w) (hB : B ≤ W.heap.size) :
    Calls P f args w fun e w' => e = .returned v ∧ Below B W w' :=
  h.mono fun _ _ ⟨he, hb⟩ => ⟨he, hc.trans (hb.mono (Nat.le_trans hB hc.size))⟩
end Go.Proofs.Ytghngfeacpamhaa
