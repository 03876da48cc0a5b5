/-
  Sums and differences of 256 numbers each, by the package's functions and by the reference. Condition: all numbers are below 3329.
-/
import Derived.Test.YtcglkelhklihgaaDoorTyp
import Derived.Test.YtcglkelhklihgaaDoorField
namespace Go.Proofs.YtcglkelhklihgaaDoor
open Go.RowKit

set_option maxRecDepth 100000 in
set_option maxHeartbeats 1000000 in
theorem ntAdd_any (f g : Nat → Int) (w : World) (hf : ∀ i, i < 256 → 0 ≤ f i ∧ f i < 3329) (hg : ∀ i, i < 256 → 0 ≤ g i ∧ g i < 3329) :
    Calls Tryd.prog 36 #[.agg (arr .u16 256 f), .agg (arr .u16 256 g)] w fun e w' => e = .returned (.agg (arr .u16 256 fun i => (f i + g i) % 3329)) ∧ Below w.heap.size w w' := by
  have HF := Lib.hid hf; clear hf
  have HG := Lib.hid hg; clear hg
  go_enter Tryd.func36, Tryd.ntmps36
  go_wp2_with (first | (refine wpList_alloc_zero rfl 40 rfl _ zero40 ?_; simp only [Act.put, List.setIfInBounds_toArray, List.set_cons_succ, List.set_cons_zero, World.size_alloc]) | (refine ld_arr rfl 40 _ rfl (w.heap.size + 1 + 1) rfl 40 .u16 256 _ _ (heap3_2 _ _ _ _) Tryd.underlying40 size40 ?_))
  go_loopw [5, 7] (fun _ i wr => ∃ k : Nat, k ≤ 256 ∧ i = .int .i64 k ∧ Below w.heap.size w wr ∧ Has wr w.heap.size (arr .u16 256 f) 40 ∧ Has wr (w.heap.size + 1) (arr .u16 256 g) 40 ∧ Has wr (w.heap.size + 1 + 1) (arr .u16 256 (upto (fun i => (f i + g i) % 3329) k)) 40) (fun _ i _ => 256 - (intOf i).toNat)
  case atStart => exact ⟨0, by omega, rfl, ((((Below.refl _ _).alloc (Nat.le_refl _) _).alloc (by simp only [World.size_alloc]; omega) _).alloc (by simp only [World.size_alloc]; omega) _), .mk (heap3_0 _ _ _ _), .mk (heap3_1 _ _ _ _), .mk (by rw [upto_zero]; exact heap3_2 _ _ _ _)⟩
  case round =>
    obtain ⟨k, hk, rfl, hb, h0, h1, h2⟩ := hrel
    by_cases hlt : k < 256
    · obtain ⟨f0, f1⟩ := HF.out k hlt
      obtain ⟨g0, g1⟩ := HG.out k hlt
      have c0 := h0.cell k hlt
      have c1 := h1.cell k hlt
      have c2 := h2.cell k hlt
      have z2 := h2.free k
      go_wp2
      go_still_tail 9, (by kernel_rfl)
      still_call (still_flip (fieldAdd_any (f k) (g k) _ f0 f1 g0 g1))
      repeat still_step
      refine wpStill_nil ?_
      change wpList _ _ _ _ _ wr.drew
      have d0 := h0.drew
      have d1 := h1.drew
      have d2 := h2.drew
      have db := hb.drew
      clear h0 h1 h2 hb c0 c1 c2 z2
      generalize wr.drew = wd at *
      have c2 := d2.cell k hlt
      have z2 := d2.free k
      go_wp2
      go_roundw
      case rel => exact ⟨k + 1, by omega, by go_num, below_set db _ _ (by omega) _, d0.other _ _ _ (by omega), d1.other _ _ _ (by omega), by rw [← upto_succ]; exact d2.set k _⟩
      case measure => simp [intOf]; omega
    · obtain rfl : k = 256 := by omega
      go_wp2_with (first | (refine ld_arr rfl 40 _ rfl (w.heap.size + 1 + 1) rfl 40 .u16 256 _ _ h2.out Tryd.underlying40 size40 ?_) | (refine st_arr rfl 40 _ _ rfl (w.heap.size + 1 + 1) rfl .u16 256 _ rfl 40 .u16 _ h2.out size40 ?_))
      refine bodyPost_ret (res_arr rfl _ _ (w.heap.size + 1 + 1) 40 .u16 256 _ _ rfl (setRow_heap _ _ _ _ _ _ h2.out) Tryd.underlying40 size40) rfl ⟨by rw [upto_all], ?_⟩
      exact Below.setRow hb _ (by omega) _
set_option maxRecDepth 100000 in
set_option maxHeartbeats 1000000 in
theorem rgAdd_any (f g : Nat → Int) (w : World) (hf : ∀ i, i < 256 → 0 ≤ f i ∧ f i < 3329) (hg : ∀ i, i < 256 → 0 ≤ g i ∧ g i < 3329) :
    Calls Tryd.prog 35 #[.agg (arr .u16 256 f), .agg (arr .u16 256 g)] w fun e w' => e = .returned (.agg (arr .u16 256 fun i => (f i + g i) % 3329)) ∧ Below w.heap.size w w' := by
  have HF := Lib.hid hf; clear hf
  have HG := Lib.hid hg; clear hg
  go_enter Tryd.func35, Tryd.ntmps35
  go_wp2_with (first | (refine wpList_alloc_zero rfl 45 rfl _ zero45 ?_; simp only [Act.put, List.setIfInBounds_toArray, List.set_cons_succ, List.set_cons_zero, World.size_alloc]) | (refine ld_arr rfl 45 _ rfl (w.heap.size + 1 + 1) rfl 45 .u16 256 _ _ (heap3_2 _ _ _ _) Tryd.underlying45 size45 ?_))
  go_loopw [5, 7] (fun _ i wr => ∃ k : Nat, k ≤ 256 ∧ i = .int .i64 k ∧ Below w.heap.size w wr ∧ Has wr w.heap.size (arr .u16 256 f) 45 ∧ Has wr (w.heap.size + 1) (arr .u16 256 g) 45 ∧ Has wr (w.heap.size + 1 + 1) (arr .u16 256 (upto (fun i => (f i + g i) % 3329) k)) 45) (fun _ i _ => 256 - (intOf i).toNat)
  case atStart => exact ⟨0, by omega, rfl, ((((Below.refl _ _).alloc (Nat.le_refl _) _).alloc (by simp only [World.size_alloc]; omega) _).alloc (by simp only [World.size_alloc]; omega) _), .mk (heap3_0 _ _ _ _), .mk (heap3_1 _ _ _ _), .mk (by rw [upto_zero]; exact heap3_2 _ _ _ _)⟩
  case round =>
    obtain ⟨k, hk, rfl, hb, h0, h1, h2⟩ := hrel
    by_cases hlt : k < 256
    · obtain ⟨f0, f1⟩ := HF.out k hlt
      obtain ⟨g0, g1⟩ := HG.out k hlt
      have c0 := h0.cell k hlt
      have c1 := h1.cell k hlt
      have c2 := h2.cell k hlt
      have z2 := h2.free k
      go_wp2
      go_still_tail 9, (by kernel_rfl)
      still_call (still_flip (fieldAdd_any (f k) (g k) _ f0 f1 g0 g1))
      repeat still_step
      refine wpStill_nil ?_
      change wpList _ _ _ _ _ wr.drew
      have d0 := h0.drew
      have d1 := h1.drew
      have d2 := h2.drew
      have db := hb.drew
      clear h0 h1 h2 hb c0 c1 c2 z2
      generalize wr.drew = wd at *
      have c2 := d2.cell k hlt
      have z2 := d2.free k
      go_wp2
      go_roundw
      case rel => exact ⟨k + 1, by omega, by go_num, below_set db _ _ (by omega) _, d0.other _ _ _ (by omega), d1.other _ _ _ (by omega), by rw [← upto_succ]; exact d2.set k _⟩
      case measure => simp [intOf]; omega
    · obtain rfl : k = 256 := by omega
      go_wp2_with (first | (refine ld_arr rfl 45 _ rfl (w.heap.size + 1 + 1) rfl 45 .u16 256 _ _ h2.out Tryd.underlying45 size45 ?_) | (refine st_arr rfl 45 _ _ rfl (w.heap.size + 1 + 1) rfl .u16 256 _ rfl 45 .u16 _ h2.out size45 ?_))
      refine bodyPost_ret (res_arr rfl _ _ (w.heap.size + 1 + 1) 45 .u16 256 _ _ rfl (setRow_heap _ _ _ _ _ _ h2.out) Tryd.underlying45 size45) rfl ⟨by rw [upto_all], ?_⟩
      exact Below.setRow hb _ (by omega) _
end Go.Proofs.YtcglkelhklihgaaDoor
