/-
  laws.reduced over the slice of one to four numbers that a call with that many arguments makes: true exactly if all are below 3329. No further condition.
-/
import Derived.Test.YtnkkkgpdfhgmgaaRed
namespace Go.Proofs.Ytnkkkgpdfhgmgaa
open Go.RowKit

theorem ret_bool {b : Bool} (h : b = true) : Ending.returned (.bool b) = .returned (.bool true) := by rw [h]
/-- A block just laid: its cells. -/
theorem cell_new_list (w : World) (l : List Value) (T : TypeId) (i : Nat) (v : Value) (h : l[i]? = some v) : (w.alloc (.cells l.toArray T)).cell? ⟨w.heap.size, 0 + i, none⟩ = some v := by
  rw [cell_of_row (w.alloc (.cells l.toArray T)) w.heap.size (0 + i) l.toArray T (0, 0) (heap_alloc_new w _)]
  simpa using h

theorem reduced1_yes (a0 : Int) (w : World) (h0 : a0 < 3329) :
    Calls Try.prog 16 #[.slice (some ⟨w.heap.size, 0, none⟩) 1 1] (w.alloc (.cells #[.int .u16 a0] 22)) fun e w' => e = .returned (.bool true) ∧ w.alloc (.cells #[.int .u16 a0] 22) = w' :=
  reduced_yes (fun i => [a0].getD i 0) w.heap.size 0 1 1 _ (by omega)
    (fun i hi => cell_new_list w [.int .u16 a0] 22 i _ (by
      obtain rfl : i = 0 := by omega
      all_goals rfl))
    (fun i hi => by
      obtain rfl : i = 0 := by omega
      all_goals simpa)
theorem reduced1_no (a0 : Int) (w : World) (h : 3329 ≤ a0) :
    Calls Try.prog 16 #[.slice (some ⟨w.heap.size, 0, none⟩) 1 1] (w.alloc (.cells #[.int .u16 a0] 22)) fun e w' => e = .returned (.bool false) ∧ w.alloc (.cells #[.int .u16 a0] 22) = w' := by
  have hc : ∀ i, i < 1 → (w.alloc (.cells #[.int .u16 a0] 22)).cell? ⟨w.heap.size, 0 + i, none⟩ = some (.int .u16 ([a0].getD i 0)) :=
    fun i hi => cell_new_list w [.int .u16 a0] 22 i _ (by
      obtain rfl : i = 0 := by omega
      all_goals rfl)
  rcases h with h
  · exact reduced_no (fun i => [a0].getD i 0) w.heap.size 0 1 1 _ (by omega) hc 0 (by omega) h

theorem reduced2_yes (a0 a1 : Int) (w : World) (h0 : a0 < 3329) (h1 : a1 < 3329) :
    Calls Try.prog 16 #[.slice (some ⟨w.heap.size, 0, none⟩) 2 2] (w.alloc (.cells #[.int .u16 a0, .int .u16 a1] 22)) fun e w' => e = .returned (.bool true) ∧ w.alloc (.cells #[.int .u16 a0, .int .u16 a1] 22) = w' :=
  reduced_yes (fun i => [a0, a1].getD i 0) w.heap.size 0 2 2 _ (by omega)
    (fun i hi => cell_new_list w [.int .u16 a0, .int .u16 a1] 22 i _ (by
      obtain rfl | rfl : i = 0 ∨ i = 1 := by omega
      all_goals rfl))
    (fun i hi => by
      obtain rfl | rfl : i = 0 ∨ i = 1 := by omega
      all_goals simpa)
theorem reduced2_no (a0 a1 : Int) (w : World) (h : 3329 ≤ a0 ∨ 3329 ≤ a1) :
    Calls Try.prog 16 #[.slice (some ⟨w.heap.size, 0, none⟩) 2 2] (w.alloc (.cells #[.int .u16 a0, .int .u16 a1] 22)) fun e w' => e = .returned (.bool false) ∧ w.alloc (.cells #[.int .u16 a0, .int .u16 a1] 22) = w' := by
  have hc : ∀ i, i < 2 → (w.alloc (.cells #[.int .u16 a0, .int .u16 a1] 22)).cell? ⟨w.heap.size, 0 + i, none⟩ = some (.int .u16 ([a0, a1].getD i 0)) :=
    fun i hi => cell_new_list w [.int .u16 a0, .int .u16 a1] 22 i _ (by
      obtain rfl | rfl : i = 0 ∨ i = 1 := by omega
      all_goals rfl)
  rcases h with h | h
  · exact reduced_no (fun i => [a0, a1].getD i 0) w.heap.size 0 2 2 _ (by omega) hc 0 (by omega) h
  · exact reduced_no (fun i => [a0, a1].getD i 0) w.heap.size 0 2 2 _ (by omega) hc 1 (by omega) h

theorem reduced3_yes (a0 a1 a2 : Int) (w : World) (h0 : a0 < 3329) (h1 : a1 < 3329) (h2 : a2 < 3329) :
    Calls Try.prog 16 #[.slice (some ⟨w.heap.size, 0, none⟩) 3 3] (w.alloc (.cells #[.int .u16 a0, .int .u16 a1, .int .u16 a2] 22)) fun e w' => e = .returned (.bool true) ∧ w.alloc (.cells #[.int .u16 a0, .int .u16 a1, .int .u16 a2] 22) = w' :=
  reduced_yes (fun i => [a0, a1, a2].getD i 0) w.heap.size 0 3 3 _ (by omega)
    (fun i hi => cell_new_list w [.int .u16 a0, .int .u16 a1, .int .u16 a2] 22 i _ (by
      obtain rfl | rfl | rfl : i = 0 ∨ i = 1 ∨ i = 2 := by omega
      all_goals rfl))
    (fun i hi => by
      obtain rfl | rfl | rfl : i = 0 ∨ i = 1 ∨ i = 2 := by omega
      all_goals simpa)
theorem reduced3_no (a0 a1 a2 : Int) (w : World) (h : 3329 ≤ a0 ∨ 3329 ≤ a1 ∨ 3329 ≤ a2) :
    Calls Try.prog 16 #[.slice (some ⟨w.heap.size, 0, none⟩) 3 3] (w.alloc (.cells #[.int .u16 a0, .int .u16 a1, .int .u16 a2] 22)) fun e w' => e = .returned (.bool false) ∧ w.alloc (.cells #[.int .u16 a0, .int .u16 a1, .int .u16 a2] 22) = w' := by
  have hc : ∀ i, i < 3 → (w.alloc (.cells #[.int .u16 a0, .int .u16 a1, .int .u16 a2] 22)).cell? ⟨w.heap.size, 0 + i, none⟩ = some (.int .u16 ([a0, a1, a2].getD i 0)) :=
    fun i hi => cell_new_list w [.int .u16 a0, .int .u16 a1, .int .u16 a2] 22 i _ (by
      obtain rfl | rfl | rfl : i = 0 ∨ i = 1 ∨ i = 2 := by omega
      all_goals rfl)
  rcases h with h | h | h
  · exact reduced_no (fun i => [a0, a1, a2].getD i 0) w.heap.size 0 3 3 _ (by omega) hc 0 (by omega) h
  · exact reduced_no (fun i => [a0, a1, a2].getD i 0) w.heap.size 0 3 3 _ (by omega) hc 1 (by omega) h
  · exact reduced_no (fun i => [a0, a1, a2].getD i 0) w.heap.size 0 3 3 _ (by omega) hc 2 (by omega) h

theorem reduced4_yes (a0 a1 a2 a3 : Int) (w : World) (h0 : a0 < 3329) (h1 : a1 < 3329) (h2 : a2 < 3329) (h3 : a3 < 3329) :
    Calls Try.prog 16 #[.slice (some ⟨w.heap.size, 0, none⟩) 4 4] (w.alloc (.cells #[.int .u16 a0, .int .u16 a1, .int .u16 a2, .int .u16 a3] 22)) fun e w' => e = .returned (.bool true) ∧ w.alloc (.cells #[.int .u16 a0, .int .u16 a1, .int .u16 a2, .int .u16 a3] 22) = w' :=
  reduced_yes (fun i => [a0, a1, a2, a3].getD i 0) w.heap.size 0 4 4 _ (by omega)
    (fun i hi => cell_new_list w [.int .u16 a0, .int .u16 a1, .int .u16 a2, .int .u16 a3] 22 i _ (by
      obtain rfl | rfl | rfl | rfl : i = 0 ∨ i = 1 ∨ i = 2 ∨ i = 3 := by omega
      all_goals rfl))
    (fun i hi => by
      obtain rfl | rfl | rfl | rfl : i = 0 ∨ i = 1 ∨ i = 2 ∨ i = 3 := by omega
      all_goals simpa)
theorem reduced4_no (a0 a1 a2 a3 : Int) (w : World) (h : 3329 ≤ a0 ∨ 3329 ≤ a1 ∨ 3329 ≤ a2 ∨ 3329 ≤ a3) :
    Calls Try.prog 16 #[.slice (some ⟨w.heap.size, 0, none⟩) 4 4] (w.alloc (.cells #[.int .u16 a0, .int .u16 a1, .int .u16 a2, .int .u16 a3] 22)) fun e w' => e = .returned (.bool false) ∧ w.alloc (.cells #[.int .u16 a0, .int .u16 a1, .int .u16 a2, .int .u16 a3] 22) = w' := by
  have hc : ∀ i, i < 4 → (w.alloc (.cells #[.int .u16 a0, .int .u16 a1, .int .u16 a2, .int .u16 a3] 22)).cell? ⟨w.heap.size, 0 + i, none⟩ = some (.int .u16 ([a0, a1, a2, a3].getD i 0)) :=
    fun i hi => cell_new_list w [.int .u16 a0, .int .u16 a1, .int .u16 a2, .int .u16 a3] 22 i _ (by
      obtain rfl | rfl | rfl | rfl : i = 0 ∨ i = 1 ∨ i = 2 ∨ i = 3 := by omega
      all_goals rfl)
  rcases h with h | h | h | h
  · exact reduced_no (fun i => [a0, a1, a2, a3].getD i 0) w.heap.size 0 4 4 _ (by omega) hc 0 (by omega) h
  · exact reduced_no (fun i => [a0, a1, a2, a3].getD i 0) w.heap.size 0 4 4 _ (by omega) hc 1 (by omega) h
  · exact reduced_no (fun i => [a0, a1, a2, a3].getD i 0) w.heap.size 0 4 4 _ (by omega) hc 2 (by omega) h
  · exact reduced_no (fun i => [a0, a1, a2, a3].getD i 0) w.heap.size 0 4 4 _ (by omega) hc 3 (by omega) h

theorem reduced1_drew_yes (a0 : Int) (w : World) (h0 : a0 < 3329) :
    Calls Try.prog 16 #[.slice (some ⟨w.heap.size, 0, none⟩) 1 1] (w.alloc (.cells #[.int .u16 a0] 22)).drew fun e w' => e = .returned (.bool true) ∧ (w.alloc (.cells #[.int .u16 a0] 22)).drew = w' :=
  reduced_yes (fun i => [a0].getD i 0) w.heap.size 0 1 1 _ (by omega)
    (fun i hi => cell_new_list w [.int .u16 a0] 22 i _ (by
      obtain rfl : i = 0 := by omega
      rfl))
    (fun i hi => by
      obtain rfl : i = 0 := by omega
      simpa)
theorem reduced1_drew_no (a0 : Int) (w : World) (h0 : 3329 ≤ a0) :
    Calls Try.prog 16 #[.slice (some ⟨w.heap.size, 0, none⟩) 1 1] (w.alloc (.cells #[.int .u16 a0] 22)).drew fun e w' => e = .returned (.bool false) ∧ (w.alloc (.cells #[.int .u16 a0] 22)).drew = w' :=
  reduced_no (fun i => [a0].getD i 0) w.heap.size 0 1 1 _ (by omega)
    (fun i hi => cell_new_list w [.int .u16 a0] 22 i _ (by
      obtain rfl : i = 0 := by omega
      rfl)) 0 (by omega) h0

theorem reduced1_at_yes (a0 : Int) (b : Nat) (W : World) (hc : W.cell? ⟨b, 0, none⟩ = some (.int .u16 a0)) (h0 : a0 < 3329) :
    Calls Try.prog 16 #[.slice (some ⟨b, 0, none⟩) 1 1] W fun e w' => e = .returned (.bool true) ∧ W = w' :=
  reduced_yes (fun i => [a0].getD i 0) b 0 1 1 _ (by omega)
    (fun i hi => by
      obtain rfl : i = 0 := by omega
      exact hc)
    (fun i hi => by
      obtain rfl : i = 0 := by omega
      simpa)
theorem reduced1_second (a0 z : Int) (w : World) (h0 : z < 3329) :
    Calls Try.prog 16 #[.slice (some ⟨w.heap.size + 1, 0, none⟩) 1 1] ((w.alloc (.cells #[.int .u16 a0] 22)).alloc (.cells #[.int .u16 z] 22)) fun e w' => e = .returned (.bool true) ∧ (w.alloc (.cells #[.int .u16 a0] 22)).alloc (.cells #[.int .u16 z] 22) = w' :=
  reduced1_at_yes z _ _ (by simp [go_sem]) h0
end Go.Proofs.Ytnkkkgpdfhgmgaa
