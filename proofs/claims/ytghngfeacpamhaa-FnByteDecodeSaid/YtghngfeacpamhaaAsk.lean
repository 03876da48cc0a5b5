/-
  laws.poly (the numbers of an array as a polynomial, and whether all are below 3329) and laws.is (true where the numbers agree). Condition: the numbers fit in 16 bits.
-/
import Derived.Test.YtghngfeacpamhaaTyp
import Derived.Test.YtghngfeacpamhaaRed
namespace Go.Proofs.Ytghngfeacpamhaa
open Go.RowKit

set_option maxRecDepth 100000 in
set_option maxHeartbeats 1000000 in
theorem poly_yes (g : Nat → Int) (w : World) (hg : ∀ i, i < 256 → 0 ≤ g i ∧ g i ≤ 65535) (hr : ∀ i, i < 256 → g i < 3329) :
    Calls Try.prog 12 #[.agg (arr .u16 256 g)] w fun e w' => e = .returned (.tuple #[.agg (arr .i64 256 g), .bool true]) ∧ Below w.heap.size w w' := by
  have HG := Lib.hid hg; clear hg
  have HR := Lib.hid hr; clear hr
  go_enter Try.func12, Try.ntmps12
  go_wp2_with (first | (refine wpList_alloc_zero rfl 25 rfl _ zero25 ?_; simp only [Act.put, List.setIfInBounds_toArray, List.set_cons_succ, List.set_cons_zero, World.size_alloc]) | (refine wpList_build_zero rfl 25 rfl _ built25 ?_; simp only [Act.put, List.setIfInBounds_toArray, List.set_cons_succ, List.set_cons_zero, World.size_alloc]) | (refine st_arr rfl 25 _ _ rfl (w.heap.size + 1 + 1) rfl .i64 256 _ rfl 25 .i64 _ (heap3_2 _ _ _ _) size25 ?_; simp only [Act.put, List.setIfInBounds_toArray, List.set_cons_succ, List.set_cons_zero, World.size_alloc]) | (refine ld_arr rfl 23 _ rfl w.heap.size rfl 23 .u16 256 g _ ((Has.mk (heap3_0 _ _ _ _)).row_other _ _ (by omega)).out Try.underlying23 size23 ?_; simp only [Act.put, List.setIfInBounds_toArray, List.set_cons_succ, List.set_cons_zero, World.size_alloc]))
  go_loopw [5, 6, 9] (fun _ _ i wr => ∃ k : Nat, k ≤ 256 ∧ i = .int .i64 k ∧ Below w.heap.size w wr ∧ Has wr w.heap.size (arr .u16 256 g) 23 ∧ Has wr (w.heap.size + 1) (arr .i64 256 fun _ => 0) 25 ∧ Has wr (w.heap.size + 1 + 1) (arr .i64 256 (upto g k)) 25) (fun _ _ i _ => 256 - (intOf i).toNat)
  case atStart => exact ⟨0, by omega, rfl, Below.setRow ((((Below.refl _ _).alloc (Nat.le_refl _) _).alloc (by simp only [World.size_alloc]; omega) _).alloc (by simp only [World.size_alloc]; omega) _) _ (by omega) _, (Has.mk (heap3_0 _ _ _ _)).row_other _ _ (by omega), (Has.mk (heap3_1 _ _ _ _)).row_other _ _ (by omega), by rw [upto_zero]; exact (Has.mk (heap3_2 _ _ _ _)).row _⟩
  case round =>
    obtain ⟨k, hk, rfl, hb, h0, h1, h2⟩ := hrel
    by_cases hlt : k < 256
    · obtain ⟨g0, g1⟩ := HG.out k hlt
      have hi := index23 g k hlt
      have c2 := h2.cell k hlt
      have z2 := h2.free k
      go_wp2
      go_roundw
      case rel => exact ⟨k + 1, by omega, by go_num, below_set hb _ _ (by omega) _, h0.other _ _ _ (by omega), h1.other _ _ _ (by omega), by rw [← upto_succ]; exact h2.set k _⟩
      case measure => simp [intOf]; omega
    · obtain rfl : k = 256 := by omega
      go_wp2_with fail
      have hz : ∀ i, i < 256 → wr.drew.cell? ⟨w.heap.size, 0 + i, none⟩ = some (.int .u16 (g i)) := fun i hi => by rw [Nat.zero_add]; exact h0.drew.cell i hi
      have HZ := Lib.hid hz; clear hz
      have d0 := h0.drew
      have d1 := h1.drew
      have d2 := h2.drew
      have db := hb.drew
      refine wp_region_still_tail 3 (by kernel_rfl) (by kernel_rfl) ?_
      simp only [List.take_succ_cons, List.take_zero, List.drop_succ_cons, List.drop_zero]
      refine still_ld rfl 25 _ rfl (w.heap.size + 1 + 1) rfl 25 .i64 256 _ _ d2.out Try.underlying25 size25 ?_
      simp only [Act.put, List.setIfInBounds_toArray, List.set_cons_succ, List.set_cons_zero, World.size_alloc]
      still_step
      still_call (still_flip (reduced_yes g w.heap.size 0 256 256 _ (by omega) HZ.out HR.out))
      refine wpStill_nil ?_
      change wpList _ _ _ _ _ wr.drew
      clear h0 h1 h2 hb HZ
      generalize wr.drew = wd at *
      go_wp2_with (refine st_arr rfl 25 _ _ rfl (w.heap.size + 1) rfl .i64 256 _ rfl 25 .i64 _ d1.out size25 ?_; simp only [Act.put, List.setIfInBounds_toArray, List.set_cons_succ, List.set_cons_zero, World.size_alloc])
      refine bodyPost_ret (v := .tuple #[.agg (arr .i64 256 (upto g 256)), .bool true]) ?_ rfl ⟨by rw [upto_all], Below.setRow db _ (by omega) _⟩
      rw [results_cell_tmp rfl]
      simp [asAddr, run_loadVar_row (P := Try.prog) (wd.setRow (w.heap.size + 1) (arr .i64 256 (upto g 256))) (w.heap.size + 1) 25 25 (arr .i64 256 (upto g 256)) (0, 0) _ (d1.row _).out Try.underlying25 rfl (by rw [arr_size]; exact size25)]
set_option maxRecDepth 100000 in
set_option maxHeartbeats 1000000 in
theorem poly_no (g : Nat → Int) (w : World) (hg : ∀ i, i < 256 → 0 ≤ g i ∧ g i ≤ 65535) (j : Nat) (hj : j < 256) (hr : 3329 ≤ g j) :
    Calls Try.prog 12 #[.agg (arr .u16 256 g)] w fun e w' => e = .returned (.tuple #[.agg (arr .i64 256 g), .bool false]) ∧ Below w.heap.size w w' := by
  have HG := Lib.hid hg; clear hg
  have HR := Lib.hid hr; clear hr
  go_enter Try.func12, Try.ntmps12
  go_wp2_with (first | (refine wpList_alloc_zero rfl 25 rfl _ zero25 ?_; simp only [Act.put, List.setIfInBounds_toArray, List.set_cons_succ, List.set_cons_zero, World.size_alloc]) | (refine wpList_build_zero rfl 25 rfl _ built25 ?_; simp only [Act.put, List.setIfInBounds_toArray, List.set_cons_succ, List.set_cons_zero, World.size_alloc]) | (refine st_arr rfl 25 _ _ rfl (w.heap.size + 1 + 1) rfl .i64 256 _ rfl 25 .i64 _ (heap3_2 _ _ _ _) size25 ?_; simp only [Act.put, List.setIfInBounds_toArray, List.set_cons_succ, List.set_cons_zero, World.size_alloc]) | (refine ld_arr rfl 23 _ rfl w.heap.size rfl 23 .u16 256 g _ ((Has.mk (heap3_0 _ _ _ _)).row_other _ _ (by omega)).out Try.underlying23 size23 ?_; simp only [Act.put, List.setIfInBounds_toArray, List.set_cons_succ, List.set_cons_zero, World.size_alloc]))
  go_loopw [5, 6, 9] (fun _ _ i wr => ∃ k : Nat, k ≤ 256 ∧ i = .int .i64 k ∧ Below w.heap.size w wr ∧ Has wr w.heap.size (arr .u16 256 g) 23 ∧ Has wr (w.heap.size + 1) (arr .i64 256 fun _ => 0) 25 ∧ Has wr (w.heap.size + 1 + 1) (arr .i64 256 (upto g k)) 25) (fun _ _ i _ => 256 - (intOf i).toNat)
  case atStart => exact ⟨0, by omega, rfl, Below.setRow ((((Below.refl _ _).alloc (Nat.le_refl _) _).alloc (by simp only [World.size_alloc]; omega) _).alloc (by simp only [World.size_alloc]; omega) _) _ (by omega) _, (Has.mk (heap3_0 _ _ _ _)).row_other _ _ (by omega), (Has.mk (heap3_1 _ _ _ _)).row_other _ _ (by omega), by rw [upto_zero]; exact (Has.mk (heap3_2 _ _ _ _)).row _⟩
  case round =>
    obtain ⟨k, hk, rfl, hb, h0, h1, h2⟩ := hrel
    by_cases hlt : k < 256
    · obtain ⟨g0, g1⟩ := HG.out k hlt
      have hi := index23 g k hlt
      have c2 := h2.cell k hlt
      have z2 := h2.free k
      go_wp2
      go_roundw
      case rel => exact ⟨k + 1, by omega, by go_num, below_set hb _ _ (by omega) _, h0.other _ _ _ (by omega), h1.other _ _ _ (by omega), by rw [← upto_succ]; exact h2.set k _⟩
      case measure => simp [intOf]; omega
    · obtain rfl : k = 256 := by omega
      go_wp2_with fail
      have hz : ∀ i, i < 256 → wr.drew.cell? ⟨w.heap.size, 0 + i, none⟩ = some (.int .u16 (g i)) := fun i hi => by rw [Nat.zero_add]; exact h0.drew.cell i hi
      have HZ := Lib.hid hz; clear hz
      have d0 := h0.drew
      have d1 := h1.drew
      have d2 := h2.drew
      have db := hb.drew
      refine wp_region_still_tail 3 (by kernel_rfl) (by kernel_rfl) ?_
      simp only [List.take_succ_cons, List.take_zero, List.drop_succ_cons, List.drop_zero]
      refine still_ld rfl 25 _ rfl (w.heap.size + 1 + 1) rfl 25 .i64 256 _ _ d2.out Try.underlying25 size25 ?_
      simp only [Act.put, List.setIfInBounds_toArray, List.set_cons_succ, List.set_cons_zero, World.size_alloc]
      still_step
      still_call (still_flip (reduced_no g w.heap.size 0 256 256 _ (by omega) HZ.out j hj HR.out))
      refine wpStill_nil ?_
      change wpList _ _ _ _ _ wr.drew
      clear h0 h1 h2 hb HZ
      generalize wr.drew = wd at *
      go_wp2_with (refine st_arr rfl 25 _ _ rfl (w.heap.size + 1) rfl .i64 256 _ rfl 25 .i64 _ d1.out size25 ?_; simp only [Act.put, List.setIfInBounds_toArray, List.set_cons_succ, List.set_cons_zero, World.size_alloc])
      refine bodyPost_ret (v := .tuple #[.agg (arr .i64 256 (upto g 256)), .bool false]) ?_ rfl ⟨by rw [upto_all], Below.setRow db _ (by omega) _⟩
      rw [results_cell_tmp rfl]
      simp [asAddr, run_loadVar_row (P := Try.prog) (wd.setRow (w.heap.size + 1) (arr .i64 256 (upto g 256))) (w.heap.size + 1) 25 25 (arr .i64 256 (upto g 256)) (0, 0) _ (d1.row _).out Try.underlying25 rfl (by rw [arr_size]; exact size25)]
/-- Whether all of 256 numbers are below 3329. -/
structure RedB (g : Nat → Int) (b : Bool) : Prop where
  out : (b = true ∧ ∀ i, i < 256 → g i < 3329) ∨ (b = false ∧ ∃ j, j < 256 ∧ 3329 ≤ g j)
theorem redB_any (g : Nat → Int) : ∃ b, RedB g b := by
  by_cases h : ∀ i, i < 256 → g i < 3329
  · exact ⟨true, ⟨.inl ⟨rfl, h⟩⟩⟩
  · refine ⟨false, ⟨.inr ⟨rfl, Classical.byContradiction fun h' => h fun i hi => ?_⟩⟩⟩
    exact Int.not_le.1 fun hle => h' ⟨i, hi, hle⟩
theorem RedB.yes {g : Nat → Int} (h : RedB g true) : ∀ i, i < 256 → g i < 3329 := by
  rcases h.out with ⟨_, h⟩ | ⟨h, _⟩
  · exact h
  · cases h
theorem poly_any (g : Nat → Int) (b : Bool) (w : World) (hg : ∀ i, i < 256 → 0 ≤ g i ∧ g i ≤ 65535) (hb : RedB g b) :
    Calls Try.prog 12 #[.agg (arr .u16 256 g)] w fun e w' => e = .returned (.tuple #[.agg (arr .i64 256 g), .bool b]) ∧ Below w.heap.size w w' := by
  rcases hb.out with ⟨rfl, h⟩ | ⟨rfl, j, hj, h⟩
  · exact poly_yes g w hg h
  · exact poly_no g w hg j hj h
set_option maxRecDepth 100000 in
set_option maxHeartbeats 1000000 in
theorem is_yes (f g : Nat → Int) (w : World) (hf : ∀ i, i < 256 → 0 ≤ f i ∧ f i ≤ 65535) (he : ∀ i, i < 256 → f i = g i) :
    Calls Try.prog 18 #[.agg (arr .u16 256 f), .agg (arr .i64 256 g)] w fun e w' => e = .returned (.bool true) ∧ Below w.heap.size w w' := by
  rw [← arr_congr (k := .i64) he]
  clear he
  have HF := Lib.hid hf; clear hf
  go_enter Try.func18, Try.ntmps18
  go_wp2_with (refine ld_arr rfl 23 _ rfl w.heap.size rfl 23 .u16 256 f _ (Has.alloc (Has.new _ _ _) _).out Try.underlying23 size23 ?_; simp only [Act.put, List.setIfInBounds_toArray, List.set_cons_succ, List.set_cons_zero, World.size_alloc])
  go_loop [5, 6, 8] (fun _ _ i => ∃ k : Nat, k ≤ 256 ∧ i = .int .i64 k) (fun _ _ i => 256 - (intOf i).toNat)
  case atStart => exact ⟨0, by omega, rfl⟩
  case round =>
    obtain ⟨k, hk, rfl⟩ := hrel
    by_cases hlt : k < 256
    · obtain ⟨f0, f1⟩ := HF.out k hlt
      have hi := index23 f k hlt
      have hcell := arr_get .i64 256 f k hlt
      go_wp2
      go_round
      case rel => exact ⟨k + 1, by omega, by go_num⟩
      case measure => simp [intOf]; omega
    · go_wp2
      go_ret
      exact ⟨rfl, (((Below.refl _ _).alloc (Nat.le_refl _) _).alloc (by simp only [World.size_alloc]; omega) _)⟩
end Go.Proofs.Ytghngfeacpamhaa
