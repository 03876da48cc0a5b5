/-
  sliceForAppend of nil: a new slice of n bytes, twice. alike: true where the bytes agree. Conditions: n is 1 to 1000.
-/
import Derived.Test.YtghngfeacpamhaaByt
import Derived.Laws.IdiomCopy
namespace Go.Proofs.Ytghngfeacpamhaa
open Go.RowKit

set_option maxRecDepth 100000 in
set_option maxHeartbeats 1000000 in
theorem sliceForAppend_any (n : Nat) (w : World) (n0 : 1 ≤ n) (n1 : n ≤ 1000) :
    Calls Try.prog 57 #[.slice none 0 0, .int .i64 n] w fun e w' => e = .returned (.tuple #[.slice (some ⟨w.heap.size, 0, none⟩) n n, .slice (some ⟨w.heap.size, 0, none⟩) n n]) ∧ w' = w.alloc (.cells (arr .u8 n fun _ => 0) 5) := by
  obtain ⟨ti, hi0, hi1, hi2, hi3⟩ := info_parts info5
  have x0 : IntKind.i64.wrap (n : Int) = (n : Int) := IntWalk.i64_in _ (by omega)
  have x1 : ¬ (n : Int) ≤ 0 := by omega
  have x2 : ¬ n = 0 := by omega
  have x3 : (0 : Int) < (n : Int) := by omega
  go_enter Try.func57, Try.ntmps57
  have hcp : ∀ W : World, (Builtin.copy_ #[29, 29] 3 #[.slice (some ⟨w.heap.size, 0, none⟩) n n, .slice none 0 0]).run Try.prog W = .ok (.int .i64 0) W := fun W => by
    have h := run_copy_none (P := Try.prog) W 29 29 3 5 (some ⟨w.heap.size, 0, none⟩) none n n 0 0 Try.underlying29 (by kernel_rfl) (by simp)
    exact h
  go_wp2_with (refine wpList_make_row _ rfl _ _ 29 rfl 5 ti _ Try.underlying29 hi0 hi1 hi2 rfl .i64 .i64 n rfl rfl (by rw [hi3]; omega) (by omega) ?_; simp only [Act.put, List.setIfInBounds_toArray, List.set_cons_succ, List.set_cons_zero, World.size_alloc])
  go_ret2
  rw [made_arr]
  exact ⟨rfl, rfl⟩
/-- The bytes of a slice, as a list. -/
theorem load_bytes (w : World) (b off n : Nat) (g : Nat → Int) (h : ∀ i, i < n → w.cell? ⟨b, off + i, none⟩ = some (.int .u8 (g i))) :
    (loadCells ⟨b, off, none⟩ n).run Try.prog w = .ok (((List.range n).map g).map (Value.int .u8)).toArray w := by
  have h' := run_loadCells_list (P := Try.prog) (w := w) ⟨b, off, none⟩ (((List.range n).map g).map (Value.int .u8)) (fun j v hj => by
    have hl : j < n := by have := (List.getElem?_eq_some_iff.1 hj).1; simpa using this
    simp only [List.getElem?_map, List.getElem?_range hl, Option.map_some, Option.some.injEq] at hj
    subst hj
    rw [Addr.add_lit]
    exact h j hl)
  rwa [show (((List.range n).map g).map (Value.int .u8)).length = n by simp] at h'
theorem str_bytes (w : World) (v : Value) (n : Nat) (g : Nat → Int) (h : Bys w v n g) :
    (convert 29 9 v).run Try.prog w = .ok (.string (((List.range n).map g).foldl (fun r n => r.push (UInt8.ofNat n.toNat)) ByteArray.empty)) w := by
  obtain ⟨b, off, cap, rfl, _, hc⟩ := h.out
  rw [run_convert_bytes_string w 29 9 5 _ n cap Try.underlying29 Try.underlying5 Try.underlying9]
  exact run_bytesToString w _ n cap _ (load_bytes w b off n g hc)
set_option maxRecDepth 100000 in
set_option maxHeartbeats 1000000 in
theorem alike_yes (v v' : Value) (n : Nat) (g g' : Nat → Int) (w : World) (h : Bys w v n g) (h' : Bys w v' n g') (he : ∀ i, i < n → g i = g' i) :
    Calls Try.prog 13 #[v, v'] w fun e w' => e = .returned (.bool true) ∧ w = w' := by
  have e : (List.range n).map g = (List.range n).map g' := List.map_congr_left fun i hi => he i (by simpa using hi)
  have s1 := str_bytes w v n g h
  have s2 := str_bytes w v' n g' h'
  rw [e] at s1
  generalize (((List.range n).map g').foldl (fun r n => r.push (UInt8.ofNat n.toNat)) ByteArray.empty) = S at *
  clear h h' he e
  go_enter Try.func13, Try.ntmps13
  go_wp2
  go_ret
  simp
end Go.Proofs.Ytghngfeacpamhaa
