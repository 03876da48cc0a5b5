/-
  Sums and differences of 256 numbers each, by the package's functions and by the reference. Condition: all numbers are below 3329.
-/
import Derived.Test.YtcglkelhklihgaaTyp
import Derived.Test.YtcglkelhklihgaaField
namespace Go.Proofs.Ytcglkelhklihgaa
open Go.RowKit

set_option maxRecDepth 100000 in
set_option maxHeartbeats 1000000 in
theorem ntAdd_any (f g : Nat → Int) (w : World) (hf : ∀ i, i < 256 → 0 ≤ f i ∧ f i < 3329) (hg : ∀ i, i < 256 → 0 ≤ g i ∧ g i < 3329) :
    Calls Try.prog 21 #[.agg (arr .u16 256 f), .agg (arr .u16 256 g)] w fun e w' => e = .returned (.agg (arr .u16 256 fun i => (f i + g i) % 3329)) ∧ Below w.heap.size w w' := by
  have HF := Lib.hid hf; clear hf
  have HG := Lib.hid hg; clear hg
  go_enter Try.func21, Try.ntmps21
  go_wp2_with (first | (refine wpList_alloc_zero rfl 37 rfl _ zero37 ?_; simp only [Act.put, List.setIfInBounds_toArray, List.set_cons_succ, List.set_cons_zero, World.size_alloc]) | (refine ld_arr rfl 37 _ rfl (w.heap.size + 1 + 1) rfl 37 .u16 256 _ _ (heap3_2 _ _ _ _) Try.underlying37 size37 ?_))
  go_loopw [5, 7] (fun _ i wr => ∃ k : Nat, k ≤ 256 ∧ i = .int .i64 k ∧ Below w.heap.size w wr ∧ Has wr w.heap.size (arr .u16 256 f) 37 ∧ Has wr (w.heap.size + 1) (arr .u16 256 g) 37 ∧ Has wr (w.heap.size + 1 + 1) (arr .u16 256 (upto (fun i => (f i + g i) % 3329) k)) 37) (fun _ i _ => 256 - (intOf i).toNat)
  case atStart => exact ⟨0, by omega, rfl, ((((Below.refl _ _).alloc (Nat.le_refl _) _).alloc (by simp only [World.size_alloc]; omega) _).alloc (by simp only [World.size_alloc]; omega) _), .mk (heap3_0 _ _ _ _), .mk (heap3_1 _ _ _ _), .mk (by rw [upto_zero]; exact heap3_2 _ _ _ _)⟩
  case round =>
    obtain ⟨k, hk, rfl, hb, h0, h1, h2⟩ := hrel
    by_cases hlt : k < 256
    · obtain ⟨f0, f1⟩ := HF.out k hlt
      obtain ⟨g0, g1⟩ := HG.out k hlt
      have c0 := h0.cell k hlt
      have c1 := h1.cell k hlt
      have c2 := h2.cell k hlt
      have z2 := h2.free k
      go_wp2
      go_still_tail 9, (by kernel_rfl)
      still_call (still_flip (fieldAdd_any (f k) (g k) _ f0 f1 g0 g1))
      repeat still_step
      refine wpStill_nil ?_
      change wpList _ _ _ _ _ wr.drew
      have d0 := h0.drew
      have d1 := h1.drew
      have d2 := h2.drew
      have db := hb.drew
      clear h0 h1 h2 hb c0 c1 c2 z2
      generalize wr.drew = wd at *
      have c2 := d2.cell k hlt
      have z2 := d2.free k
      go_wp2
      go_roundw
      case rel => exact ⟨k + 1, by omega, by go_num, below_set db _ _ (by omega) _, d0.other _ _ _ (by omega), d1.other _ _ _ (by omega), by rw [← upto_succ]; exact d2.set k _⟩
      case measure => simp [intOf]; omega
    · obtain rfl : k = 256 := by omega
      go_wp2_with (first | (refine ld_arr rfl 37 _ rfl (w.heap.size + 1 + 1) rfl 37 .u16 256 _ _ h2.out Try.underlying37 size37 ?_) | (refine st_arr rfl 37 _ _ rfl (w.heap.size + 1 + 1) rfl .u16 256 _ rfl 37 .u16 _ h2.out size37 ?_))
      refine bodyPost_ret (res_arr rfl _ _ (w.heap.size + 1 + 1) 37 .u16 256 _ _ rfl (setRow_heap _ _ _ _ _ _ h2.out) Try.underlying37 size37) rfl ⟨by rw [upto_all], ?_⟩
      exact Below.setRow hb _ (by omega) _
set_option maxRecDepth 100000 in
set_option maxHeartbeats 1000000 in
theorem rgAdd_any (f g : Nat → Int) (w : World) (hf : ∀ i, i < 256 → 0 ≤ f i ∧ f i < 3329) (hg : ∀ i, i < 256 → 0 ≤ g i ∧ g i < 3329) :
    Calls Try.prog 22 #[.agg (arr .u16 256 f), .agg (arr .u16 256 g)] w fun e w' => e = .returned (.agg (arr .u16 256 fun i => (f i + g i) % 3329)) ∧ Below w.heap.size w w' := by
  have HF := Lib.hid hf; clear hf
  have HG := Lib.hid hg; clear hg
  go_enter Try.func22, Try.ntmps22
  go_wp2_with (first | (refine wpList_alloc_zero rfl 41 rfl _ zero41 ?_; simp only [Act.put, List.setIfInBounds_toArray, List.set_cons_succ, List.set_cons_zero, World.size_alloc]) | (refine ld_arr rfl 41 _ rfl (w.heap.size + 1 + 1) rfl 41 .u16 256 _ _ (heap3_2 _ _ _ _) Try.underlying41 size41 ?_))
  go_loopw [5, 7] (fun _ i wr => ∃ k : Nat, k ≤ 256 ∧ i = .int .i64 k ∧ Below w.heap.size w wr ∧ Has wr w.heap.size (arr .u16 256 f) 41 ∧ Has wr (w.heap.size + 1) (arr .u16 256 g) 41 ∧ Has wr (w.heap.size + 1 + 1) (arr .u16 256 (upto (fun i => (f i + g i) % 3329) k)) 41) (fun _ i _ => 256 - (intOf i).toNat)
  case atStart => exact ⟨0, by omega, rfl, ((((Below.refl _ _).alloc (Nat.le_refl _) _).alloc (by simp only [World.size_alloc]; omega) _).alloc (by simp only [World.size_alloc]; omega) _), .mk (heap3_0 _ _ _ _), .mk (heap3_1 _ _ _ _), .mk (by rw [upto_zero]; exact heap3_2 _ _ _ _)⟩
  case round =>
    obtain ⟨k, hk, rfl, hb, h0, h1, h2⟩ := hrel
    by_cases hlt : k < 256
    · obtain ⟨f0, f1⟩ := HF.out k hlt
      obtain ⟨g0, g1⟩ := HG.out k hlt
      have c0 := h0.cell k hlt
      have c1 := h1.cell k hlt
      have c2 := h2.cell k hlt
      have z2 := h2.free k
      go_wp2
      go_still_tail 9, (by kernel_rfl)
      still_call (still_flip (fieldAdd_any (f k) (g k) _ f0 f1 g0 g1))
      repeat still_step
      refine wpStill_nil ?_
      change wpList _ _ _ _ _ wr.drew
      have d0 := h0.drew
      have d1 := h1.drew
      have d2 := h2.drew
      have db := hb.drew
      clear h0 h1 h2 hb c0 c1 c2 z2
      generalize wr.drew = wd at *
      have c2 := d2.cell k hlt
      have z2 := d2.free k
      go_wp2
      go_roundw
      case rel => exact ⟨k + 1, by omega, by go_num, below_set db _ _ (by omega) _, d0.other _ _ _ (by omega), d1.other _ _ _ (by omega), by rw [← upto_succ]; exact d2.set k _⟩
      case measure => simp [intOf]; omega
    · obtain rfl : k = 256 := by omega
      go_wp2_with (first | (refine ld_arr rfl 41 _ rfl (w.heap.size + 1 + 1) rfl 41 .u16 256 _ _ h2.out Try.underlying41 size41 ?_) | (refine st_arr rfl 41 _ _ rfl (w.heap.size + 1 + 1) rfl .u16 256 _ rfl 41 .u16 _ h2.out size41 ?_))
      refine bodyPost_ret (res_arr rfl _ _ (w.heap.size + 1 + 1) 41 .u16 256 _ _ rfl (setRow_heap _ _ _ _ _ _ h2.out) Try.underlying41 size41) rfl ⟨by rw [upto_all], ?_⟩
      exact Below.setRow hb _ (by omega) _
set_option maxRecDepth 100000 in
set_option maxHeartbeats 1000000 in
theorem rgSub_any (f g : Nat → Int) (w : World) (hf : ∀ i, i < 256 → 0 ≤ f i ∧ f i < 3329) (hg : ∀ i, i < 256 → 0 ≤ g i ∧ g i < 3329) :
    Calls Try.prog 23 #[.agg (arr .u16 256 f), .agg (arr .u16 256 g)] w fun e w' => e = .returned (.agg (arr .u16 256 fun i => (f i + 3329 - g i) % 3329)) ∧ Below w.heap.size w w' := by
  have HF := Lib.hid hf; clear hf
  have HG := Lib.hid hg; clear hg
  go_enter Try.func23, Try.ntmps23
  go_wp2_with (first | (refine wpList_alloc_zero rfl 41 rfl _ zero41 ?_; simp only [Act.put, List.setIfInBounds_toArray, List.set_cons_succ, List.set_cons_zero, World.size_alloc]) | (refine ld_arr rfl 41 _ rfl (w.heap.size + 1 + 1) rfl 41 .u16 256 _ _ (heap3_2 _ _ _ _) Try.underlying41 size41 ?_))
  go_loopw [5, 7] (fun _ i wr => ∃ k : Nat, k ≤ 256 ∧ i = .int .i64 k ∧ Below w.heap.size w wr ∧ Has wr w.heap.size (arr .u16 256 f) 41 ∧ Has wr (w.heap.size + 1) (arr .u16 256 g) 41 ∧ Has wr (w.heap.size + 1 + 1) (arr .u16 256 (upto (fun i => (f i + 3329 - g i) % 3329) k)) 41) (fun _ i _ => 256 - (intOf i).toNat)
  case atStart => exact ⟨0, by omega, rfl, ((((Below.refl _ _).alloc (Nat.le_refl _) _).alloc (by simp only [World.size_alloc]; omega) _).alloc (by simp only [World.size_alloc]; omega) _), .mk (heap3_0 _ _ _ _), .mk (heap3_1 _ _ _ _), .mk (by rw [upto_zero]; exact heap3_2 _ _ _ _)⟩
  case round =>
    obtain ⟨k, hk, rfl, hb, h0, h1, h2⟩ := hrel
    by_cases hlt : k < 256
    · obtain ⟨f0, f1⟩ := HF.out k hlt
      obtain ⟨g0, g1⟩ := HG.out k hlt
      have c0 := h0.cell k hlt
      have c1 := h1.cell k hlt
      have c2 := h2.cell k hlt
      have z2 := h2.free k
      go_wp2
      go_still_tail 9, (by kernel_rfl)
      still_call (still_flip (fieldSub_any (f k) (g k) _ f0 f1 g0 g1))
      repeat still_step
      refine wpStill_nil ?_
      change wpList _ _ _ _ _ wr.drew
      have d0 := h0.drew
      have d1 := h1.drew
      have d2 := h2.drew
      have db := hb.drew
      clear h0 h1 h2 hb c0 c1 c2 z2
      generalize wr.drew = wd at *
      have c2 := d2.cell k hlt
      have z2 := d2.free k
      go_wp2
      go_roundw
      case rel => exact ⟨k + 1, by omega, by go_num, below_set db _ _ (by omega) _, d0.other _ _ _ (by omega), d1.other _ _ _ (by omega), by rw [← upto_succ]; exact d2.set k _⟩
      case measure => simp [intOf]; omega
    · obtain rfl : k = 256 := by omega
      go_wp2_with (first | (refine ld_arr rfl 41 _ rfl (w.heap.size + 1 + 1) rfl 41 .u16 256 _ _ h2.out Try.underlying41 size41 ?_) | (refine st_arr rfl 41 _ _ rfl (w.heap.size + 1 + 1) rfl .u16 256 _ rfl 41 .u16 _ h2.out size41 ?_))
      refine bodyPost_ret (res_arr rfl _ _ (w.heap.size + 1 + 1) 41 .u16 256 _ _ rfl (setRow_heap _ _ _ _ _ _ h2.out) Try.underlying41 size41) rfl ⟨by rw [upto_all], ?_⟩
      exact Below.setRow hb _ (by omega) _
set_option maxRecDepth 100000 in
set_option maxHeartbeats 1000000 in
theorem specPlus_any (f g : Nat → Int) (w : World) (hf : ∀ i, i < 256 → 0 ≤ f i ∧ f i < 3329) (hg : ∀ i, i < 256 → 0 ≤ g i ∧ g i < 3329) :
    Calls Try.prog 9 #[.agg (arr .i64 256 f), .agg (arr .i64 256 g)] w fun e w' => e = .returned (.agg (arr .i64 256 fun i => (f i + g i) % 3329)) ∧ Below w.heap.size w w' := by
  have HF := Lib.hid hf; clear hf
  have HG := Lib.hid hg; clear hg
  go_enter Try.func9, Try.ntmps9
  go_wp2_with (first | (refine wpList_alloc_zero rfl 25 rfl _ zero25 ?_; simp only [Act.put, List.setIfInBounds_toArray, List.set_cons_succ, List.set_cons_zero, World.size_alloc]) | (refine wpList_build_zero rfl 25 rfl _ built25 ?_; simp only [Act.put, List.setIfInBounds_toArray, List.set_cons_succ, List.set_cons_zero, World.size_alloc]) | (refine st_arr rfl 25 _ _ rfl (w.heap.size + 1 + 1 + 1) rfl .i64 256 _ rfl 25 .i64 _ (heap4_3 _ _ _ _ _) size25 ?_; simp only [Act.put, List.setIfInBounds_toArray, List.set_cons_succ, List.set_cons_zero, World.size_alloc]))
  go_loopw [6] (fun i wr => ∃ k : Nat, k ≤ 256 ∧ i = .int .i64 k ∧ Below w.heap.size w wr ∧ Has wr w.heap.size (arr .i64 256 f) 25 ∧ Has wr (w.heap.size + 1) (arr .i64 256 g) 25 ∧ Has wr (w.heap.size + 1 + 1) (arr .i64 256 fun _ => 0) 25 ∧ Has wr (w.heap.size + 1 + 1 + 1) (arr .i64 256 (upto (fun i => (f i + g i) % 3329) k)) 25) (fun i _ => 256 - (intOf i).toNat)
  case atStart => exact ⟨0, by omega, rfl, Below.setRow (((((Below.refl _ _).alloc (Nat.le_refl _) _).alloc (by simp only [World.size_alloc]; omega) _).alloc (by simp only [World.size_alloc]; omega) _).alloc (by simp only [World.size_alloc]; omega) _) _ (by omega) _, (Has.mk (heap4_0 _ _ _ _ _)).row_other _ _ (by omega), (Has.mk (heap4_1 _ _ _ _ _)).row_other _ _ (by omega), (Has.mk (heap4_2 _ _ _ _ _)).row_other _ _ (by omega), by rw [upto_zero]; exact (Has.mk (heap4_3 _ _ _ _ _)).row _⟩
  case round =>
    obtain ⟨k, hk, rfl, hb, h0, h1, h2, h3⟩ := hrel
    by_cases hlt : k < 256
    · obtain ⟨f0, f1⟩ := HF.out k hlt
      obtain ⟨g0, g1⟩ := HG.out k hlt
      have c0 := h0.cell k hlt
      have c1 := h1.cell k hlt
      have c3 := h3.cell k hlt
      have z3 := h3.free k
      go_wp2
      go_still_tail 10, (by kernel_rfl)
      change wpList _ _ _ _ _ wr.drew
      have d0 := h0.drew
      have d1 := h1.drew
      have d2 := h2.drew
      have d3 := h3.drew
      have db := hb.drew
      clear h0 h1 h2 h3 hb c0 c1 c3 z3
      generalize wr.drew = wd at *
      have c3 := d3.cell k hlt
      have z3 := d3.free k
      go_wp2
      go_roundw
      case rel => exact ⟨k + 1, by omega, by go_num, below_set db _ _ (by omega) _, d0.other _ _ _ (by omega), d1.other _ _ _ (by omega), d2.other _ _ _ (by omega), by rw [← upto_succ]; exact d3.set k _⟩
      case measure => simp [intOf]; omega
    · obtain rfl : k = 256 := by omega
      go_wp2_with (first | (refine ld_arr rfl 25 _ rfl (w.heap.size + 1 + 1 + 1) rfl 25 .i64 256 _ _ h3.out Try.underlying25 size25 ?_) | (refine st_arr rfl 25 _ _ rfl (w.heap.size + 1 + 1) rfl .i64 256 _ rfl 25 .i64 _ h2.out size25 ?_))
      refine bodyPost_ret (res_arr rfl _ _ (w.heap.size + 1 + 1) 25 .i64 256 _ _ rfl (setRow_heap _ _ _ _ _ _ h2.out) Try.underlying25 size25) rfl ⟨by rw [upto_all], ?_⟩
      exact Below.setRow hb _ (by omega) _
set_option maxRecDepth 100000 in
set_option maxHeartbeats 1000000 in
theorem specMinus_any (f g : Nat → Int) (w : World) (hf : ∀ i, i < 256 → 0 ≤ f i ∧ f i < 3329) (hg : ∀ i, i < 256 → 0 ≤ g i ∧ g i < 3329) :
    Calls Try.prog 12 #[.agg (arr .i64 256 f), .agg (arr .i64 256 g)] w fun e w' => e = .returned (.agg (arr .i64 256 fun i => (f i + 3329 - g i) % 3329)) ∧ Below w.heap.size w w' := by
  have HF := Lib.hid hf; clear hf
  have HG := Lib.hid hg; clear hg
  go_enter Try.func12, Try.ntmps12
  go_wp2_with (first | (refine wpList_alloc_zero rfl 25 rfl _ zero25 ?_; simp only [Act.put, List.setIfInBounds_toArray, List.set_cons_succ, List.set_cons_zero, World.size_alloc]) | (refine wpList_build_zero rfl 25 rfl _ built25 ?_; simp only [Act.put, List.setIfInBounds_toArray, List.set_cons_succ, List.set_cons_zero, World.size_alloc]) | (refine st_arr rfl 25 _ _ rfl (w.heap.size + 1 + 1 + 1) rfl .i64 256 _ rfl 25 .i64 _ (heap4_3 _ _ _ _ _) size25 ?_; simp only [Act.put, List.setIfInBounds_toArray, List.set_cons_succ, List.set_cons_zero, World.size_alloc]))
  go_loopw [6] (fun i wr => ∃ k : Nat, k ≤ 256 ∧ i = .int .i64 k ∧ Below w.heap.size w wr ∧ Has wr w.heap.size (arr .i64 256 f) 25 ∧ Has wr (w.heap.size + 1) (arr .i64 256 g) 25 ∧ Has wr (w.heap.size + 1 + 1) (arr .i64 256 fun _ => 0) 25 ∧ Has wr (w.heap.size + 1 + 1 + 1) (arr .i64 256 (upto (fun i => (f i + 3329 - g i) % 3329) k)) 25) (fun i _ => 256 - (intOf i).toNat)
  case atStart => exact ⟨0, by omega, rfl, Below.setRow (((((Below.refl _ _).alloc (Nat.le_refl _) _).alloc (by simp only [World.size_alloc]; omega) _).alloc (by simp only [World.size_alloc]; omega) _).alloc (by simp only [World.size_alloc]; omega) _) _ (by omega) _, (Has.mk (heap4_0 _ _ _ _ _)).row_other _ _ (by omega), (Has.mk (heap4_1 _ _ _ _ _)).row_other _ _ (by omega), (Has.mk (heap4_2 _ _ _ _ _)).row_other _ _ (by omega), by rw [upto_zero]; exact (Has.mk (heap4_3 _ _ _ _ _)).row _⟩
  case round =>
    obtain ⟨k, hk, rfl, hb, h0, h1, h2, h3⟩ := hrel
    by_cases hlt : k < 256
    · obtain ⟨f0, f1⟩ := HF.out k hlt
      obtain ⟨g0, g1⟩ := HG.out k hlt
      have c0 := h0.cell k hlt
      have c1 := h1.cell k hlt
      have c3 := h3.cell k hlt
      have z3 := h3.free k
      go_wp2
      go_still_tail 11, (by kernel_rfl)
      change wpList _ _ _ _ _ wr.drew
      have d0 := h0.drew
      have d1 := h1.drew
      have d2 := h2.drew
      have d3 := h3.drew
      have db := hb.drew
      clear h0 h1 h2 h3 hb c0 c1 c3 z3
      generalize wr.drew = wd at *
      have c3 := d3.cell k hlt
      have z3 := d3.free k
      go_wp2
      go_roundw
      case rel => exact ⟨k + 1, by omega, by go_num, below_set db _ _ (by omega) _, d0.other _ _ _ (by omega), d1.other _ _ _ (by omega), d2.other _ _ _ (by omega), by rw [← upto_succ]; exact d3.set k _⟩
      case measure => simp [intOf]; omega
    · obtain rfl : k = 256 := by omega
      go_wp2_with (first | (refine ld_arr rfl 25 _ rfl (w.heap.size + 1 + 1 + 1) rfl 25 .i64 256 _ _ h3.out Try.underlying25 size25 ?_) | (refine st_arr rfl 25 _ _ rfl (w.heap.size + 1 + 1) rfl .i64 256 _ rfl 25 .i64 _ h2.out size25 ?_))
      refine bodyPost_ret (res_arr rfl _ _ (w.heap.size + 1 + 1) 25 .i64 256 _ _ rfl (setRow_heap _ _ _ _ _ _ h2.out) Try.underlying25 size25) rfl ⟨by rw [upto_all], ?_⟩
      exact Below.setRow hb _ (by omega) _
end Go.Proofs.Ytcglkelhklihgaa
