/-
  The thin package's functions over arrays of 256 numbers (sums, differences): what each returns. Condition: all numbers are below 3329.
-/
import Derived.Test.YtcglkelhklihgaaCopy
import Derived.Test.YtcglkelhklihgaaTwo
namespace Go.Proofs.Ytcglkelhklihgaa
open Go.RowKit

set_option maxRecDepth 100000 in
set_option maxHeartbeats 1000000 in
theorem zzRingAdd_any (f g : Nat → Int) (w : World) (hf : ∀ i, i < 256 → 0 ≤ f i ∧ f i < 3329) (hg : ∀ i, i < 256 → 0 ≤ g i ∧ g i < 3329) :
    Calls Try.prog 18 #[.agg (arr .u16 256 f), .agg (arr .u16 256 g)] w fun e w' => e = .returned (.agg (arr .u16 256 fun i => (f i + g i) % 3329)) ∧ Below w.heap.size w w' := by
  have HC := Lib.hid fun W => rgAdd_any f g W hf hg
  clear hf hg
  go_enter Try.func18, Try.ntmps18
  go_wp2_with (first | (refine wpList_alloc_zero rfl 41 rfl _ zero41 ?_; simp only [Act.put, List.setIfInBounds_toArray, List.set_cons_succ, List.set_cons_zero, World.size_alloc]) | (refine ld_arr rfl 41 _ rfl (w.heap.size) rfl 41 .u16 256 _ _ (heap3_0 _ _ _ _) Try.underlying41 size41 ?_; simp only [Act.put, List.setIfInBounds_toArray, List.set_cons_succ, List.set_cons_zero, World.size_alloc]) | (refine ld_arr rfl 41 _ rfl (w.heap.size + 1) rfl 41 .u16 256 _ _ (heap3_1 _ _ _ _) Try.underlying41 size41 ?_; simp only [Act.put, List.setIfInBounds_toArray, List.set_cons_succ, List.set_cons_zero, World.size_alloc]))
  obtain ⟨W, hW, h0, h1, h2, hw, HS⟩ := pack3 w (arr .u16 256 f) (arr .u16 256 g) (arr .u16 256 fun _ => 0) 41 41 41
  rw [← hW]
  clear hW
  refine (HC.out _).mono ?_
  rintro e w1 ⟨rfl, hb⟩
  have d2 := h2.below hb (by omega)
  have db := hw.trans (hb.mono (by omega))
  clear hb hw HS h0 h1 h2
  go_wp2_with (refine st_arr rfl 41 _ _ rfl (w.heap.size + 1 + 1) rfl .u16 256 _ rfl 41 .u16 _ d2.out size41 ?_; simp only [Act.put, List.setIfInBounds_toArray, List.set_cons_succ, List.set_cons_zero, World.size_alloc])
  exact bodyPost_ret (res_arr rfl _ _ (w.heap.size + 1 + 1) 41 .u16 256 _ _ rfl (d2.row _).out Try.underlying41 size41) rfl ⟨rfl, Below.setRow db _ (by omega) _⟩
set_option maxRecDepth 100000 in
set_option maxHeartbeats 1000000 in
theorem implRingAdd_any (f g : Nat → Int) (w : World) (hf : ∀ i, i < 256 → 0 ≤ f i ∧ f i < 3329) (hg : ∀ i, i < 256 → 0 ≤ g i ∧ g i < 3329) :
    Calls Try.prog 10 #[.agg (arr .u16 256 f), .agg (arr .u16 256 g)] w fun e w' => e = .returned (.agg (arr .u16 256 fun i => (f i + g i) % 3329)) ∧ Below w.heap.size w w' := by
  have HC := Lib.hid fun W => zzRingAdd_any f g W hf hg
  clear hf hg
  go_enter Try.func10, Try.ntmps10
  go_wp2_with (refine wpList_alloc_zero rfl 23 rfl _ zero23 ?_; simp only [Act.put, List.setIfInBounds_toArray, List.set_cons_succ, List.set_cons_zero, World.size_alloc])
  obtain ⟨W, hW, h0, h1, h2, hw, HS⟩ := pack3 w (arr .u16 256 f) (arr .u16 256 g) (arr .u16 256 fun _ => 0) 23 23 23
  rw [← hW]
  clear hW
  refine wp_region_quiet_tail 6 (fun w' => Below (w.heap.size + 1 + 1 + 1) W w') (Below.refl _ _).drew (by kernel_rfl) (by kernel_rfl) ?_
  simp only [List.take_succ_cons, List.take_zero, List.drop_succ_cons, List.drop_zero]
  refine quiet_ld rfl 23 _ rfl (w.heap.size) rfl 23 .u16 256 _ _ (fun w' hc => (h0.below hc (by omega)).out) Try.underlying23 size23 ?_
  simp only [Act.put, List.setIfInBounds_toArray, List.set_cons_succ, List.set_cons_zero]
  refine quiet_call rfl 19 #[.agg (arr .u16 256 f)] _ (fun _ => by go_simp) (fun w' hc => quiet_of_any (ring_any f w') hc HS) ?_
  simp only [Act.put, List.setIfInBounds_toArray, List.set_cons_succ, List.set_cons_zero]
  refine quiet_ld rfl 23 _ rfl (w.heap.size + 1) rfl 23 .u16 256 _ _ (fun w' hc => (h1.below hc (by omega)).out) Try.underlying23 size23 ?_
  simp only [Act.put, List.setIfInBounds_toArray, List.set_cons_succ, List.set_cons_zero]
  refine quiet_call rfl 19 #[.agg (arr .u16 256 g)] _ (fun _ => by go_simp) (fun w' hc => quiet_of_any (ring_any g w') hc HS) ?_
  simp only [Act.put, List.setIfInBounds_toArray, List.set_cons_succ, List.set_cons_zero]
  refine quiet_call rfl 18 #[.agg (arr .u16 256 f), .agg (arr .u16 256 g)] _ (fun _ => by go_simp) (fun w' hc => quiet_of_any (HC.out w') hc HS) ?_
  simp only [Act.put, List.setIfInBounds_toArray, List.set_cons_succ, List.set_cons_zero]
  refine quiet_call rfl 17 #[.agg (arr .u16 256 fun i => (f i + g i) % 3329)] _ (fun _ => by go_simp) (fun w' hc => quiet_of_any (ofRing_any (fun i => (f i + g i) % 3329) w') hc HS) ?_
  simp only [Act.put, List.setIfInBounds_toArray, List.set_cons_succ, List.set_cons_zero]
  refine wpQuiet_nil ?_
  intro w1 hc
  have d2 := h2.below hc (by omega)
  have db := hw.trans (hc.mono (by omega))
  clear hc hw HS h0 h1 h2
  go_wp2_with (refine st_arr rfl 23 _ _ rfl (w.heap.size + 1 + 1) rfl .u16 256 _ rfl 23 .u16 _ d2.out size23 ?_; simp only [Act.put, List.setIfInBounds_toArray, List.set_cons_succ, List.set_cons_zero, World.size_alloc])
  exact bodyPost_ret (res_arr rfl _ _ (w.heap.size + 1 + 1) 23 .u16 256 _ _ rfl (d2.row _).out Try.underlying23 size23) rfl ⟨rfl, Below.setRow db _ (by omega) _⟩
set_option maxRecDepth 100000 in
set_option maxHeartbeats 1000000 in
theorem zzRingSub_any (f g : Nat → Int) (w : World) (hf : ∀ i, i < 256 → 0 ≤ f i ∧ f i < 3329) (hg : ∀ i, i < 256 → 0 ≤ g i ∧ g i < 3329) :
    Calls Try.prog 20 #[.agg (arr .u16 256 f), .agg (arr .u16 256 g)] w fun e w' => e = .returned (.agg (arr .u16 256 fun i => (f i + 3329 - g i) % 3329)) ∧ Below w.heap.size w w' := by
  have HC := Lib.hid fun W => rgSub_any f g W hf hg
  clear hf hg
  go_enter Try.func20, Try.ntmps20
  go_wp2_with (first | (refine wpList_alloc_zero rfl 41 rfl _ zero41 ?_; simp only [Act.put, List.setIfInBounds_toArray, List.set_cons_succ, List.set_cons_zero, World.size_alloc]) | (refine ld_arr rfl 41 _ rfl (w.heap.size) rfl 41 .u16 256 _ _ (heap3_0 _ _ _ _) Try.underlying41 size41 ?_; simp only [Act.put, List.setIfInBounds_toArray, List.set_cons_succ, List.set_cons_zero, World.size_alloc]) | (refine ld_arr rfl 41 _ rfl (w.heap.size + 1) rfl 41 .u16 256 _ _ (heap3_1 _ _ _ _) Try.underlying41 size41 ?_; simp only [Act.put, List.setIfInBounds_toArray, List.set_cons_succ, List.set_cons_zero, World.size_alloc]))
  obtain ⟨W, hW, h0, h1, h2, hw, HS⟩ := pack3 w (arr .u16 256 f) (arr .u16 256 g) (arr .u16 256 fun _ => 0) 41 41 41
  rw [← hW]
  clear hW
  refine (HC.out _).mono ?_
  rintro e w1 ⟨rfl, hb⟩
  have d2 := h2.below hb (by omega)
  have db := hw.trans (hb.mono (by omega))
  clear hb hw HS h0 h1 h2
  go_wp2_with (refine st_arr rfl 41 _ _ rfl (w.heap.size + 1 + 1) rfl .u16 256 _ rfl 41 .u16 _ d2.out size41 ?_; simp only [Act.put, List.setIfInBounds_toArray, List.set_cons_succ, List.set_cons_zero, World.size_alloc])
  exact bodyPost_ret (res_arr rfl _ _ (w.heap.size + 1 + 1) 41 .u16 256 _ _ rfl (d2.row _).out Try.underlying41 size41) rfl ⟨rfl, Below.setRow db _ (by omega) _⟩
set_option maxRecDepth 100000 in
set_option maxHeartbeats 1000000 in
theorem implRingSub_any (f g : Nat → Int) (w : World) (hf : ∀ i, i < 256 → 0 ≤ f i ∧ f i < 3329) (hg : ∀ i, i < 256 → 0 ≤ g i ∧ g i < 3329) :
    Calls Try.prog 11 #[.agg (arr .u16 256 f), .agg (arr .u16 256 g)] w fun e w' => e = .returned (.agg (arr .u16 256 fun i => (f i + 3329 - g i) % 3329)) ∧ Below w.heap.size w w' := by
  have HC := Lib.hid fun W => zzRingSub_any f g W hf hg
  clear hf hg
  go_enter Try.func11, Try.ntmps11
  go_wp2_with (refine wpList_alloc_zero rfl 23 rfl _ zero23 ?_; simp only [Act.put, List.setIfInBounds_toArray, List.set_cons_succ, List.set_cons_zero, World.size_alloc])
  obtain ⟨W, hW, h0, h1, h2, hw, HS⟩ := pack3 w (arr .u16 256 f) (arr .u16 256 g) (arr .u16 256 fun _ => 0) 23 23 23
  rw [← hW]
  clear hW
  refine wp_region_quiet_tail 6 (fun w' => Below (w.heap.size + 1 + 1 + 1) W w') (Below.refl _ _).drew (by kernel_rfl) (by kernel_rfl) ?_
  simp only [List.take_succ_cons, List.take_zero, List.drop_succ_cons, List.drop_zero]
  refine quiet_ld rfl 23 _ rfl (w.heap.size) rfl 23 .u16 256 _ _ (fun w' hc => (h0.below hc (by omega)).out) Try.underlying23 size23 ?_
  simp only [Act.put, List.setIfInBounds_toArray, List.set_cons_succ, List.set_cons_zero]
  refine quiet_call rfl 19 #[.agg (arr .u16 256 f)] _ (fun _ => by go_simp) (fun w' hc => quiet_of_any (ring_any f w') hc HS) ?_
  simp only [Act.put, List.setIfInBounds_toArray, List.set_cons_succ, List.set_cons_zero]
  refine quiet_ld rfl 23 _ rfl (w.heap.size + 1) rfl 23 .u16 256 _ _ (fun w' hc => (h1.below hc (by omega)).out) Try.underlying23 size23 ?_
  simp only [Act.put, List.setIfInBounds_toArray, List.set_cons_succ, List.set_cons_zero]
  refine quiet_call rfl 19 #[.agg (arr .u16 256 g)] _ (fun _ => by go_simp) (fun w' hc => quiet_of_any (ring_any g w') hc HS) ?_
  simp only [Act.put, List.setIfInBounds_toArray, List.set_cons_succ, List.set_cons_zero]
  refine quiet_call rfl 20 #[.agg (arr .u16 256 f), .agg (arr .u16 256 g)] _ (fun _ => by go_simp) (fun w' hc => quiet_of_any (HC.out w') hc HS) ?_
  simp only [Act.put, List.setIfInBounds_toArray, List.set_cons_succ, List.set_cons_zero]
  refine quiet_call rfl 17 #[.agg (arr .u16 256 fun i => (f i + 3329 - g i) % 3329)] _ (fun _ => by go_simp) (fun w' hc => quiet_of_any (ofRing_any (fun i => (f i + 3329 - g i) % 3329) w') hc HS) ?_
  simp only [Act.put, List.setIfInBounds_toArray, List.set_cons_succ, List.set_cons_zero]
  refine wpQuiet_nil ?_
  intro w1 hc
  have d2 := h2.below hc (by omega)
  have db := hw.trans (hc.mono (by omega))
  clear hc hw HS h0 h1 h2
  go_wp2_with (refine st_arr rfl 23 _ _ rfl (w.heap.size + 1 + 1) rfl .u16 256 _ rfl 23 .u16 _ d2.out size23 ?_; simp only [Act.put, List.setIfInBounds_toArray, List.set_cons_succ, List.set_cons_zero, World.size_alloc])
  exact bodyPost_ret (res_arr rfl _ _ (w.heap.size + 1 + 1) 23 .u16 256 _ _ rfl (d2.row _).out Try.underlying23 size23) rfl ⟨rfl, Below.setRow db _ (by omega) _⟩
set_option maxRecDepth 100000 in
set_option maxHeartbeats 1000000 in
theorem zzNTTAdd_any (f g : Nat → Int) (w : World) (hf : ∀ i, i < 256 → 0 ≤ f i ∧ f i < 3329) (hg : ∀ i, i < 256 → 0 ≤ g i ∧ g i < 3329) :
    Calls Try.prog 15 #[.agg (arr .u16 256 f), .agg (arr .u16 256 g)] w fun e w' => e = .returned (.agg (arr .u16 256 fun i => (f i + g i) % 3329)) ∧ Below w.heap.size w w' := by
  have HC := Lib.hid fun W => ntAdd_any f g W hf hg
  clear hf hg
  go_enter Try.func15, Try.ntmps15
  go_wp2_with (first | (refine wpList_alloc_zero rfl 37 rfl _ zero37 ?_; simp only [Act.put, List.setIfInBounds_toArray, List.set_cons_succ, List.set_cons_zero, World.size_alloc]) | (refine ld_arr rfl 37 _ rfl (w.heap.size) rfl 37 .u16 256 _ _ (heap3_0 _ _ _ _) Try.underlying37 size37 ?_; simp only [Act.put, List.setIfInBounds_toArray, List.set_cons_succ, List.set_cons_zero, World.size_alloc]) | (refine ld_arr rfl 37 _ rfl (w.heap.size + 1) rfl 37 .u16 256 _ _ (heap3_1 _ _ _ _) Try.underlying37 size37 ?_; simp only [Act.put, List.setIfInBounds_toArray, List.set_cons_succ, List.set_cons_zero, World.size_alloc]))
  obtain ⟨W, hW, h0, h1, h2, hw, HS⟩ := pack3 w (arr .u16 256 f) (arr .u16 256 g) (arr .u16 256 fun _ => 0) 37 37 37
  rw [← hW]
  clear hW
  refine (HC.out _).mono ?_
  rintro e w1 ⟨rfl, hb⟩
  have d2 := h2.below hb (by omega)
  have db := hw.trans (hb.mono (by omega))
  clear hb hw HS h0 h1 h2
  go_wp2_with (refine st_arr rfl 37 _ _ rfl (w.heap.size + 1 + 1) rfl .u16 256 _ rfl 37 .u16 _ d2.out size37 ?_; simp only [Act.put, List.setIfInBounds_toArray, List.set_cons_succ, List.set_cons_zero, World.size_alloc])
  exact bodyPost_ret (res_arr rfl _ _ (w.heap.size + 1 + 1) 37 .u16 256 _ _ rfl (d2.row _).out Try.underlying37 size37) rfl ⟨rfl, Below.setRow db _ (by omega) _⟩
set_option maxRecDepth 100000 in
set_option maxHeartbeats 1000000 in
theorem implNTTAdd_any (f g : Nat → Int) (w : World) (hf : ∀ i, i < 256 → 0 ≤ f i ∧ f i < 3329) (hg : ∀ i, i < 256 → 0 ≤ g i ∧ g i < 3329) :
    Calls Try.prog 8 #[.agg (arr .u16 256 f), .agg (arr .u16 256 g)] w fun e w' => e = .returned (.agg (arr .u16 256 fun i => (f i + g i) % 3329)) ∧ Below w.heap.size w w' := by
  have HC := Lib.hid fun W => zzNTTAdd_any f g W hf hg
  clear hf hg
  go_enter Try.func8, Try.ntmps8
  go_wp2_with (refine wpList_alloc_zero rfl 23 rfl _ zero23 ?_; simp only [Act.put, List.setIfInBounds_toArray, List.set_cons_succ, List.set_cons_zero, World.size_alloc])
  obtain ⟨W, hW, h0, h1, h2, hw, HS⟩ := pack3 w (arr .u16 256 f) (arr .u16 256 g) (arr .u16 256 fun _ => 0) 23 23 23
  rw [← hW]
  clear hW
  refine wp_region_quiet_tail 6 (fun w' => Below (w.heap.size + 1 + 1 + 1) W w') (Below.refl _ _).drew (by kernel_rfl) (by kernel_rfl) ?_
  simp only [List.take_succ_cons, List.take_zero, List.drop_succ_cons, List.drop_zero]
  refine quiet_ld rfl 23 _ rfl (w.heap.size) rfl 23 .u16 256 _ _ (fun w' hc => (h0.below hc (by omega)).out) Try.underlying23 size23 ?_
  simp only [Act.put, List.setIfInBounds_toArray, List.set_cons_succ, List.set_cons_zero]
  refine quiet_call rfl 16 #[.agg (arr .u16 256 f)] _ (fun _ => by go_simp) (fun w' hc => quiet_of_any (transform_any f w') hc HS) ?_
  simp only [Act.put, List.setIfInBounds_toArray, List.set_cons_succ, List.set_cons_zero]
  refine quiet_ld rfl 23 _ rfl (w.heap.size + 1) rfl 23 .u16 256 _ _ (fun w' hc => (h1.below hc (by omega)).out) Try.underlying23 size23 ?_
  simp only [Act.put, List.setIfInBounds_toArray, List.set_cons_succ, List.set_cons_zero]
  refine quiet_call rfl 16 #[.agg (arr .u16 256 g)] _ (fun _ => by go_simp) (fun w' hc => quiet_of_any (transform_any g w') hc HS) ?_
  simp only [Act.put, List.setIfInBounds_toArray, List.set_cons_succ, List.set_cons_zero]
  refine quiet_call rfl 15 #[.agg (arr .u16 256 f), .agg (arr .u16 256 g)] _ (fun _ => by go_simp) (fun w' hc => quiet_of_any (HC.out w') hc HS) ?_
  simp only [Act.put, List.setIfInBounds_toArray, List.set_cons_succ, List.set_cons_zero]
  refine quiet_call rfl 14 #[.agg (arr .u16 256 fun i => (f i + g i) % 3329)] _ (fun _ => by go_simp) (fun w' hc => quiet_of_any (ofTransform_any (fun i => (f i + g i) % 3329) w') hc HS) ?_
  simp only [Act.put, List.setIfInBounds_toArray, List.set_cons_succ, List.set_cons_zero]
  refine wpQuiet_nil ?_
  intro w1 hc
  have d2 := h2.below hc (by omega)
  have db := hw.trans (hc.mono (by omega))
  clear hc hw HS h0 h1 h2
  go_wp2_with (refine st_arr rfl 23 _ _ rfl (w.heap.size + 1 + 1) rfl .u16 256 _ rfl 23 .u16 _ d2.out size23 ?_; simp only [Act.put, List.setIfInBounds_toArray, List.set_cons_succ, List.set_cons_zero, World.size_alloc])
  exact bodyPost_ret (res_arr rfl _ _ (w.heap.size + 1 + 1) 23 .u16 256 _ _ rfl (d2.row _).out Try.underlying23 size23) rfl ⟨rfl, Below.setRow db _ (by omega) _⟩
end Go.Proofs.Ytcglkelhklihgaa
