/-
  spec.Compress and spec.Decompress of polynomials. Conditions: numbers below 3329, below 2 to the d; d is 1 to 11.
-/
import Derived.Test.YtghngfeacpamhaaByt
import Derived.Test.YtghngfeacpamhaaComp
namespace Go.Proofs.Ytghngfeacpamhaa
open Go.RowKit

theorem pow_bd (d : Nat) (d0 : 1 ≤ d) (d1 : d ≤ 11) : (2 : Int) ≤ 2 ^ d ∧ (2 : Int) ^ d ≤ 2048 := by
  match d, d0, d1 with
  | 1, _, _ | 2, _, _ | 3, _, _ | 4, _, _ | 5, _, _ | 6, _, _ | 7, _, _ | 8, _, _ | 9, _, _ | 10, _, _ | 11, _, _ => decide
set_option maxRecDepth 100000 in
set_option maxHeartbeats 1000000 in
theorem specDecompress_any (f : Nat → Int) (d : Nat) (w : World) (d0 : 1 ≤ d) (d1 : d ≤ 11) (hf : ∀ i, i < 256 → 0 ≤ f i ∧ f i < 2 ^ d) :
    Calls Try.prog 20 #[.agg (arr .i64 256 f), .int .i64 d] w fun e w' => e = .returned (.agg (arr .i64 256 fun i => dcmp d (f i))) ∧ Below w.heap.size w w' := by
  have HF := Lib.hid hf; clear hf
  go_enter Try.func20, Try.ntmps20
  go_wp2_with (first | (refine wpList_alloc_zero rfl 25 rfl _ zero25 ?_; simp only [Act.put, List.setIfInBounds_toArray, List.set_cons_succ, List.set_cons_zero, World.size_alloc]) | (refine wpList_build_zero rfl 25 rfl _ built25 ?_; simp only [Act.put, List.setIfInBounds_toArray, List.set_cons_succ, List.set_cons_zero, World.size_alloc]) | (refine st_arr rfl 25 _ _ rfl (w.heap.size + 1 + 1) rfl .i64 256 _ rfl 25 .i64 _ (heap3_2 _ _ _ _) size25 ?_; simp only [Act.put, List.setIfInBounds_toArray, List.set_cons_succ, List.set_cons_zero, World.size_alloc]))
  go_loopw [6] (fun i wr => ∃ k : Nat, k ≤ 256 ∧ i = .int .i64 k ∧ Below w.heap.size w wr ∧ Has wr w.heap.size (arr .i64 256 f) 25 ∧ Has wr (w.heap.size + 1) (arr .i64 256 fun _ => 0) 25 ∧ Has wr (w.heap.size + 1 + 1) (arr .i64 256 (upto (fun i => dcmp d (f i)) k)) 25) (fun i _ => 256 - (intOf i).toNat)
  case atStart => exact ⟨0, by omega, rfl, Below.setRow ((((Below.refl _ _).alloc (Nat.le_refl _) _).alloc (by simp only [World.size_alloc]; omega) _).alloc (by simp only [World.size_alloc]; omega) _) _ (by omega) _, (Has.mk (heap3_0 _ _ _ _)).row_other _ _ (by omega), (Has.mk (heap3_1 _ _ _ _)).row_other _ _ (by omega), by rw [upto_zero]; exact (Has.mk (heap3_2 _ _ _ _)).row _⟩
  case round =>
    obtain ⟨k, hk, rfl, hb, h0, h1, h2⟩ := hrel
    by_cases hlt : k < 256
    · obtain ⟨f0, f1⟩ := HF.out k hlt
      have c0 := h0.cell k hlt
      have c2 := h2.cell k hlt
      have z2 := h2.free k
      have EU := Lib.hid (upto_succ (fun i => dcmp d (f i)) k)
      have pd := pow_bd d d0 d1
      have pe : (2 : Int) ^ (d + 1) = 2 * 2 ^ d := by rw [Int.pow_succ, Int.mul_comm]
      have y0 : IntKind.i64.wrap (6658 * f k) = 6658 * f k := IntWalk.i64_in _ (by omega)
      have y1 : IntKind.i64.wrap (2 ^ d) = 2 ^ d := IntWalk.i64_in _ (by omega)
      have y2 : IntKind.i64.wrap (6658 * f k + 2 ^ d) = 6658 * f k + 2 ^ d := IntWalk.i64_in _ (by omega)
      have y3 : IntKind.i64.wrap (2 * 2 ^ d) = 2 * 2 ^ d := IntWalk.i64_in _ (by omega)
      have y4 : (6658 * f k + 2 ^ d).tdiv (2 * 2 ^ d) = dcmp d (f k) := by rw [Int.tdiv_eq_ediv_of_nonneg (by omega)]; unfold dcmp; rw [pe]
      have y5 : 0 ≤ dcmp d (f k) ∧ dcmp d (f k) ≤ 6658 * f k + 2 ^ d := by
        unfold dcmp; rw [pe]
        exact ⟨Int.ediv_nonneg (by omega) (by omega), Int.ediv_le_self _ (by omega)⟩
      have y6 : IntKind.i64.wrap (dcmp d (f k)) = dcmp d (f k) := IntWalk.i64_in _ (by omega)
      have y7 : ¬ ((2 : Int) * 2 ^ d = 0) := by omega
      clear pe
      go_wp2
      go_still_tail 12, (by kernel_rfl)
      change wpList _ _ _ _ _ wr.drew
      have d0 := h0.drew
      have d1 := h1.drew
      have d2 := h2.drew
      have db := hb.drew
      clear h0 h1 h2 hb c0 c2 z2
      generalize wr.drew = wd at *
      have c2 := d2.cell k hlt
      have z2 := d2.free k
      go_wp2
      go_roundw
      case rel => exact ⟨k + 1, by omega, by go_num, below_set db _ _ (by omega) _, d0.other _ _ _ (by omega), d1.other _ _ _ (by omega), by rw [← EU.out]; exact d2.set k _⟩
      case measure => simp [intOf]; omega
    · obtain rfl : k = 256 := by omega
      go_wp2_with (first | (refine ld_arr rfl 25 _ rfl (w.heap.size + 1 + 1) rfl 25 .i64 256 _ _ h2.out Try.underlying25 size25 ?_) | (refine st_arr rfl 25 _ _ rfl (w.heap.size + 1) rfl .i64 256 _ rfl 25 .i64 _ h1.out size25 ?_))
      refine bodyPost_ret (res_arr rfl _ _ (w.heap.size + 1) 25 .i64 256 _ _ rfl (setRow_heap _ _ _ _ _ _ h1.out) Try.underlying25 size25) rfl ⟨by rw [upto_all], ?_⟩
      exact Below.setRow hb _ (by omega) _
set_option maxRecDepth 100000 in
set_option maxHeartbeats 1000000 in
theorem specCompress_any (f : Nat → Int) (d : Nat) (w : World) (d0 : 1 ≤ d) (d1 : d ≤ 11) (hf : ∀ i, i < 256 → 0 ≤ f i ∧ f i < 3329) :
    Calls Try.prog 22 #[.agg (arr .i64 256 f), .int .i64 d] w fun e w' => e = .returned (.agg (arr .i64 256 fun i => cmpr d (f i))) ∧ Below w.heap.size w w' := by
  have HF := Lib.hid hf; clear hf
  go_enter Try.func22, Try.ntmps22
  go_wp2_with (first | (refine wpList_alloc_zero rfl 25 rfl _ zero25 ?_; simp only [Act.put, List.setIfInBounds_toArray, List.set_cons_succ, List.set_cons_zero, World.size_alloc]) | (refine wpList_build_zero rfl 25 rfl _ built25 ?_; simp only [Act.put, List.setIfInBounds_toArray, List.set_cons_succ, List.set_cons_zero, World.size_alloc]) | (refine st_arr rfl 25 _ _ rfl (w.heap.size + 1 + 1) rfl .i64 256 _ rfl 25 .i64 _ (heap3_2 _ _ _ _) size25 ?_; simp only [Act.put, List.setIfInBounds_toArray, List.set_cons_succ, List.set_cons_zero, World.size_alloc]))
  go_loopw [6] (fun i wr => ∃ k : Nat, k ≤ 256 ∧ i = .int .i64 k ∧ Below w.heap.size w wr ∧ Has wr w.heap.size (arr .i64 256 f) 25 ∧ Has wr (w.heap.size + 1) (arr .i64 256 fun _ => 0) 25 ∧ Has wr (w.heap.size + 1 + 1) (arr .i64 256 (upto (fun i => cmpr d (f i)) k)) 25) (fun i _ => 256 - (intOf i).toNat)
  case atStart => exact ⟨0, by omega, rfl, Below.setRow ((((Below.refl _ _).alloc (Nat.le_refl _) _).alloc (by simp only [World.size_alloc]; omega) _).alloc (by simp only [World.size_alloc]; omega) _) _ (by omega) _, (Has.mk (heap3_0 _ _ _ _)).row_other _ _ (by omega), (Has.mk (heap3_1 _ _ _ _)).row_other _ _ (by omega), by rw [upto_zero]; exact (Has.mk (heap3_2 _ _ _ _)).row _⟩
  case round =>
    obtain ⟨k, hk, rfl, hb, h0, h1, h2⟩ := hrel
    by_cases hlt : k < 256
    · obtain ⟨f0, f1⟩ := HF.out k hlt
      have c0 := h0.cell k hlt
      have c2 := h2.cell k hlt
      have z2 := h2.free k
      have EU := Lib.hid (upto_succ (fun i => cmpr d (f i)) k)
      have pd := pow_bd d d0 d1
      obtain ⟨m0, m1⟩ := mul_bd (f k) (2 ^ d) 3328 2048 f0 (by omega) (by omega) pd.2
      have y0 : IntKind.i64.wrap (f k * 2 ^ d) = f k * 2 ^ d := IntWalk.i64_in _ (by omega)
      have y1 : IntKind.i64.wrap (2 * (f k * 2 ^ d)) = 2 * (f k * 2 ^ d) := IntWalk.i64_in _ (by omega)
      have y2 : IntKind.i64.wrap (2 * (f k * 2 ^ d) + 3329) = 2 * (f k * 2 ^ d) + 3329 := IntWalk.i64_in _ (by omega)
      have y3 : (2 * (f k * 2 ^ d) + 3329).tdiv 6658 = (2 * (f k * 2 ^ d) + 3329) / 6658 := Int.tdiv_eq_ediv_of_nonneg (by omega)
      have y4 : IntKind.i64.wrap ((2 * (f k * 2 ^ d) + 3329) / 6658) = (2 * (f k * 2 ^ d) + 3329) / 6658 := IntWalk.i64_in _ (by omega)
      have y5 : IntKind.i64.wrap (2 ^ d) = 2 ^ d := IntWalk.i64_in _ (by omega)
      have y6 : ((2 * (f k * 2 ^ d) + 3329) / 6658).tmod (2 ^ d) = cmpr d (f k) := Int.tmod_eq_emod_of_nonneg (by omega)
      have y7 : 0 ≤ cmpr d (f k) ∧ cmpr d (f k) < 2 ^ d := ⟨Int.emod_nonneg _ (by omega), Int.emod_lt_of_pos _ (by omega)⟩
      have y8 : IntKind.i64.wrap (cmpr d (f k)) = cmpr d (f k) := IntWalk.i64_in _ (by omega)
      have y9 : ¬ ((2 : Int) ^ d = 0) := by omega
      go_wp2
      go_still_tail 13, (by kernel_rfl)
      change wpList _ _ _ _ _ wr.drew
      have d0 := h0.drew
      have d1 := h1.drew
      have d2 := h2.drew
      have db := hb.drew
      clear h0 h1 h2 hb c0 c2 z2
      generalize wr.drew = wd at *
      have c2 := d2.cell k hlt
      have z2 := d2.free k
      go_wp2
      go_roundw
      case rel => exact ⟨k + 1, by omega, by go_num, below_set db _ _ (by omega) _, d0.other _ _ _ (by omega), d1.other _ _ _ (by omega), by rw [← EU.out]; exact d2.set k _⟩
      case measure => simp [intOf]; omega
    · obtain rfl : k = 256 := by omega
      go_wp2_with (first | (refine ld_arr rfl 25 _ rfl (w.heap.size + 1 + 1) rfl 25 .i64 256 _ _ h2.out Try.underlying25 size25 ?_) | (refine st_arr rfl 25 _ _ rfl (w.heap.size + 1) rfl .i64 256 _ rfl 25 .i64 _ h1.out size25 ?_))
      refine bodyPost_ret (res_arr rfl _ _ (w.heap.size + 1) 25 .i64 256 _ _ rfl (setRow_heap _ _ _ _ _ _ h1.out) Try.underlying25 size25) rfl ⟨by rw [upto_all], ?_⟩
      exact Below.setRow hb _ (by omega) _
end Go.Proofs.Ytghngfeacpamhaa
