/-
  ring, transform, ofRing, ofTransform: each hands back the same 256 numbers; nothing that was there is changed. No condition.
-/
import Derived.Test.YtghngfeacpamhaaTyp
namespace Go.Proofs.Ytghngfeacpamhaa
open Go.RowKit

set_option maxRecDepth 100000 in
set_option maxHeartbeats 1000000 in
theorem ring_any (g : Nat → Int) (w : World) :
    Calls Try.prog 28 #[.agg (arr .u16 256 g)] w fun e w' => e = .returned (.agg (arr .u16 256 g)) ∧ Below w.heap.size w w' := by
  go_enter Try.func28, Try.ntmps28
  go_wp2_with (first | (refine wpList_alloc_zero rfl 50 rfl _ zero50 ?_; simp only [Act.put, List.setIfInBounds_toArray, List.set_cons_succ, List.set_cons_zero, World.size_alloc]) | (refine ld_arr rfl 23 _ rfl w.heap.size rfl 23 .u16 256 g _ (heap3_0 _ _ _ _) Try.underlying23 size23 ?_; simp only [Act.put, List.setIfInBounds_toArray, List.set_cons_succ, List.set_cons_zero, World.size_alloc]))
  go_loopw [4, 5, 7] (fun _ _ i wr => ∃ k : Nat, k ≤ 256 ∧ i = .int .i64 k ∧ wr = ((w.alloc (.cells (arr .u16 256 g) 23)).alloc (.cells (arr .u16 256 fun _ => 0) 50)).alloc (.cells (arr .u16 256 (upto g k)) 50)) (fun _ _ i _ => 256 - (intOf i).toNat)
  case atStart => exact ⟨0, by omega, rfl, by rw [upto_zero]⟩
  case round =>
    obtain ⟨k, hk, rfl, rfl⟩ := hrel
    by_cases hlt : k < 256
    · have hi := index23 g k hlt
      have hcell := arr_get .u16 256 (upto g k) k hlt
      go_wp2
      go_roundw
      case rel => exact ⟨k + 1, by omega, by go_num, by rw [arr_set, upto_succ]⟩
      case measure => simp [intOf]; omega
    · obtain rfl : k = 256 := by omega
      go_wp2_with (first | (refine ld_arr rfl 50 _ rfl (w.heap.size + 1 + 1) rfl 50 .u16 256 (upto g 256) _ (heap3_2 _ _ _ _) Try.underlying50 size50 ?_) | (refine st_arr rfl 50 _ _ rfl (w.heap.size + 1) rfl .u16 256 (upto g 256) rfl 50 .u16 _ (heap3_1 _ _ _ _) size50 ?_))
      refine bodyPost_ret (res_arr rfl _ _ (w.heap.size + 1) 50 .u16 256 (upto g 256) _ rfl (setRow_heap _ _ _ _ _ _ (heap3_1 _ _ _ _)) Try.underlying50 size50) rfl ⟨by rw [upto_all], ?_⟩
      exact Below.setRow ((((Below.refl _ _).alloc (Nat.le_refl _) _).alloc (by simp only [World.size_alloc]; omega) _).alloc (by simp only [World.size_alloc]; omega) _) _ (by omega) _
set_option maxRecDepth 100000 in
set_option maxHeartbeats 1000000 in
theorem ofRing_any (g : Nat → Int) (w : World) :
    Calls Try.prog 30 #[.agg (arr .u16 256 g)] w fun e w' => e = .returned (.agg (arr .u16 256 g)) ∧ Below w.heap.size w w' := by
  go_enter Try.func30, Try.ntmps30
  go_wp2_with (first | (refine wpList_alloc_zero rfl 23 rfl _ zero23 ?_; simp only [Act.put, List.setIfInBounds_toArray, List.set_cons_succ, List.set_cons_zero, World.size_alloc]) | (refine ld_arr rfl 50 _ rfl w.heap.size rfl 50 .u16 256 g _ (heap3_0 _ _ _ _) Try.underlying50 size50 ?_; simp only [Act.put, List.setIfInBounds_toArray, List.set_cons_succ, List.set_cons_zero, World.size_alloc]))
  go_loopw [4, 5, 7] (fun _ _ i wr => ∃ k : Nat, k ≤ 256 ∧ i = .int .i64 k ∧ wr = ((w.alloc (.cells (arr .u16 256 g) 50)).alloc (.cells (arr .u16 256 fun _ => 0) 23)).alloc (.cells (arr .u16 256 (upto g k)) 23)) (fun _ _ i _ => 256 - (intOf i).toNat)
  case atStart => exact ⟨0, by omega, rfl, by rw [upto_zero]⟩
  case round =>
    obtain ⟨k, hk, rfl, rfl⟩ := hrel
    by_cases hlt : k < 256
    · have hi := index50 g k hlt
      have hcell := arr_get .u16 256 (upto g k) k hlt
      go_wp2
      go_roundw
      case rel => exact ⟨k + 1, by omega, by go_num, by rw [arr_set, upto_succ]⟩
      case measure => simp [intOf]; omega
    · obtain rfl : k = 256 := by omega
      go_wp2_with (first | (refine ld_arr rfl 23 _ rfl (w.heap.size + 1 + 1) rfl 23 .u16 256 (upto g 256) _ (heap3_2 _ _ _ _) Try.underlying23 size23 ?_) | (refine st_arr rfl 23 _ _ rfl (w.heap.size + 1) rfl .u16 256 (upto g 256) rfl 23 .u16 _ (heap3_1 _ _ _ _) size23 ?_))
      refine bodyPost_ret (res_arr rfl _ _ (w.heap.size + 1) 23 .u16 256 (upto g 256) _ rfl (setRow_heap _ _ _ _ _ _ (heap3_1 _ _ _ _)) Try.underlying23 size23) rfl ⟨by rw [upto_all], ?_⟩
      exact Below.setRow ((((Below.refl _ _).alloc (Nat.le_refl _) _).alloc (by simp only [World.size_alloc]; omega) _).alloc (by simp only [World.size_alloc]; omega) _) _ (by omega) _
end Go.Proofs.Ytghngfeacpamhaa
