/-
  The thin package's functions over arrays of 256 numbers (sums, differences): what each returns. Condition: all numbers are below 3329.
-/
import Derived.Test.YtcglkelhklihgaaDoorCopy
import Derived.Test.YtcglkelhklihgaaDoorTwo
namespace Go.Proofs.YtcglkelhklihgaaDoor
open Go.RowKit

set_option maxRecDepth 100000 in
set_option maxHeartbeats 1000000 in
theorem zzRingAdd_any (f g : Nat → Int) (w : World) (hf : ∀ i, i < 256 → 0 ≤ f i ∧ f i < 3329) (hg : ∀ i, i < 256 → 0 ≤ g i ∧ g i < 3329) :
    Calls Tryd.prog 30 #[.agg (arr .u16 256 f), .agg (arr .u16 256 g)] w fun e w' => e = .returned (.agg (arr .u16 256 fun i => (f i + g i) % 3329)) ∧ Below w.heap.size w w' := by
  have HC := Lib.hid fun W => rgAdd_any f g W hf hg
  clear hf hg
  go_enter Tryd.func30, Tryd.ntmps30
  go_wp2_with (first | (refine wpList_alloc_zero rfl 45 rfl _ zero45 ?_; simp only [Act.put, List.setIfInBounds_toArray, List.set_cons_succ, List.set_cons_zero, World.size_alloc]) | (refine ld_arr rfl 45 _ rfl (w.heap.size) rfl 45 .u16 256 _ _ (heap3_0 _ _ _ _) Tryd.underlying45 size45 ?_; simp only [Act.put, List.setIfInBounds_toArray, List.set_cons_succ, List.set_cons_zero, World.size_alloc]) | (refine ld_arr rfl 45 _ rfl (w.heap.size + 1) rfl 45 .u16 256 _ _ (heap3_1 _ _ _ _) Tryd.underlying45 size45 ?_; simp only [Act.put, List.setIfInBounds_toArray, List.set_cons_succ, List.set_cons_zero, World.size_alloc]))
  obtain ⟨W, hW, h0, h1, h2, hw, HS⟩ := pack3 w (arr .u16 256 f) (arr .u16 256 g) (arr .u16 256 fun _ => 0) 45 45 45
  rw [← hW]
  clear hW
  refine (HC.out _).mono ?_
  rintro e w1 ⟨rfl, hb⟩
  have d2 := h2.below hb (by omega)
  have db := hw.trans (hb.mono (by omega))
  clear hb hw HS h0 h1 h2
  go_wp2_with (refine st_arr rfl 45 _ _ rfl (w.heap.size + 1 + 1) rfl .u16 256 _ rfl 45 .u16 _ d2.out size45 ?_; simp only [Act.put, List.setIfInBounds_toArray, List.set_cons_succ, List.set_cons_zero, World.size_alloc])
  exact bodyPost_ret (res_arr rfl _ _ (w.heap.size + 1 + 1) 45 .u16 256 _ _ rfl (d2.row _).out Tryd.underlying45 size45) rfl ⟨rfl, Below.setRow db _ (by omega) _⟩
set_option maxRecDepth 100000 in
set_option maxHeartbeats 1000000 in
theorem implRingAdd_any (f g : Nat → Int) (w : World) (hf : ∀ i, i < 256 → 0 ≤ f i ∧ f i < 3329) (hg : ∀ i, i < 256 → 0 ≤ g i ∧ g i < 3329) :
    Calls Tryd.prog 18 #[.agg (arr .u16 256 f), .agg (arr .u16 256 g)] w fun e w' => e = .returned (.agg (arr .u16 256 fun i => (f i + g i) % 3329)) ∧ Below w.heap.size w w' := by
  have HC := Lib.hid fun W => zzRingAdd_any f g W hf hg
  clear hf hg
  go_enter Tryd.func18, Tryd.ntmps18
  go_wp2_with (refine wpList_alloc_zero rfl 23 rfl _ zero23 ?_; simp only [Act.put, List.setIfInBounds_toArray, List.set_cons_succ, List.set_cons_zero, World.size_alloc])
  obtain ⟨W, hW, h0, h1, h2, hw, HS⟩ := pack3 w (arr .u16 256 f) (arr .u16 256 g) (arr .u16 256 fun _ => 0) 23 23 23
  rw [← hW]
  clear hW
  refine wp_region_quiet_tail 6 (fun w' => Below (w.heap.size + 1 + 1 + 1) W w') (Below.refl _ _).drew (by kernel_rfl) (by kernel_rfl) ?_
  simp only [List.take_succ_cons, List.take_zero, List.drop_succ_cons, List.drop_zero]
  refine quiet_ld rfl 23 _ rfl (w.heap.size) rfl 23 .u16 256 _ _ (fun w' hc => (h0.below hc (by omega)).out) Tryd.underlying23 size23 ?_
  simp only [Act.put, List.setIfInBounds_toArray, List.set_cons_succ, List.set_cons_zero]
  refine quiet_call rfl 25 #[.agg (arr .u16 256 f)] _ (fun _ => by go_simp) (fun w' hc => quiet_of_any (ring_any f w') hc HS) ?_
  simp only [Act.put, List.setIfInBounds_toArray, List.set_cons_succ, List.set_cons_zero]
  refine quiet_ld rfl 23 _ rfl (w.heap.size + 1) rfl 23 .u16 256 _ _ (fun w' hc => (h1.below hc (by omega)).out) Tryd.underlying23 size23 ?_
  simp only [Act.put, List.setIfInBounds_toArray, List.set_cons_succ, List.set_cons_zero]
  refine quiet_call rfl 25 #[.agg (arr .u16 256 g)] _ (fun _ => by go_simp) (fun w' hc => quiet_of_any (ring_any g w') hc HS) ?_
  simp only [Act.put, List.setIfInBounds_toArray, List.set_cons_succ, List.set_cons_zero]
  refine quiet_call rfl 30 #[.agg (arr .u16 256 f), .agg (arr .u16 256 g)] _ (fun _ => by go_simp) (fun w' hc => quiet_of_any (HC.out w') hc HS) ?_
  simp only [Act.put, List.setIfInBounds_toArray, List.set_cons_succ, List.set_cons_zero]
  refine quiet_call rfl 26 #[.agg (arr .u16 256 fun i => (f i + g i) % 3329)] _ (fun _ => by go_simp) (fun w' hc => quiet_of_any (ofRing_any (fun i => (f i + g i) % 3329) w') hc HS) ?_
  simp only [Act.put, List.setIfInBounds_toArray, List.set_cons_succ, List.set_cons_zero]
  refine wpQuiet_nil ?_
  intro w1 hc
  have d2 := h2.below hc (by omega)
  have db := hw.trans (hc.mono (by omega))
  clear hc hw HS h0 h1 h2
  go_wp2_with (refine st_arr rfl 23 _ _ rfl (w.heap.size + 1 + 1) rfl .u16 256 _ rfl 23 .u16 _ d2.out size23 ?_; simp only [Act.put, List.setIfInBounds_toArray, List.set_cons_succ, List.set_cons_zero, World.size_alloc])
  exact bodyPost_ret (res_arr rfl _ _ (w.heap.size + 1 + 1) 23 .u16 256 _ _ rfl (d2.row _).out Tryd.underlying23 size23) rfl ⟨rfl, Below.setRow db _ (by omega) _⟩
set_option maxRecDepth 100000 in
set_option maxHeartbeats 1000000 in
theorem zzNTTAdd_any (f g : Nat → Int) (w : World) (hf : ∀ i, i < 256 → 0 ≤ f i ∧ f i < 3329) (hg : ∀ i, i < 256 → 0 ≤ g i ∧ g i < 3329) :
    Calls Tryd.prog 31 #[.agg (arr .u16 256 f), .agg (arr .u16 256 g)] w fun e w' => e = .returned (.agg (arr .u16 256 fun i => (f i + g i) % 3329)) ∧ Below w.heap.size w w' := by
  have HC := Lib.hid fun W => ntAdd_any f g W hf hg
  clear hf hg
  go_enter Tryd.func31, Tryd.ntmps31
  go_wp2_with (first | (refine wpList_alloc_zero rfl 40 rfl _ zero40 ?_; simp only [Act.put, List.setIfInBounds_toArray, List.set_cons_succ, List.set_cons_zero, World.size_alloc]) | (refine ld_arr rfl 40 _ rfl (w.heap.size) rfl 40 .u16 256 _ _ (heap3_0 _ _ _ _) Tryd.underlying40 size40 ?_; simp only [Act.put, List.setIfInBounds_toArray, List.set_cons_succ, List.set_cons_zero, World.size_alloc]) | (refine ld_arr rfl 40 _ rfl (w.heap.size + 1) rfl 40 .u16 256 _ _ (heap3_1 _ _ _ _) Tryd.underlying40 size40 ?_; simp only [Act.put, List.setIfInBounds_toArray, List.set_cons_succ, List.set_cons_zero, World.size_alloc]))
  obtain ⟨W, hW, h0, h1, h2, hw, HS⟩ := pack3 w (arr .u16 256 f) (arr .u16 256 g) (arr .u16 256 fun _ => 0) 40 40 40
  rw [← hW]
  clear hW
  refine (HC.out _).mono ?_
  rintro e w1 ⟨rfl, hb⟩
  have d2 := h2.below hb (by omega)
  have db := hw.trans (hb.mono (by omega))
  clear hb hw HS h0 h1 h2
  go_wp2_with (refine st_arr rfl 40 _ _ rfl (w.heap.size + 1 + 1) rfl .u16 256 _ rfl 40 .u16 _ d2.out size40 ?_; simp only [Act.put, List.setIfInBounds_toArray, List.set_cons_succ, List.set_cons_zero, World.size_alloc])
  exact bodyPost_ret (res_arr rfl _ _ (w.heap.size + 1 + 1) 40 .u16 256 _ _ rfl (d2.row _).out Tryd.underlying40 size40) rfl ⟨rfl, Below.setRow db _ (by omega) _⟩
set_option maxRecDepth 100000 in
set_option maxHeartbeats 1000000 in
theorem implNTTAdd_any (f g : Nat → Int) (w : World) (hf : ∀ i, i < 256 → 0 ≤ f i ∧ f i < 3329) (hg : ∀ i, i < 256 → 0 ≤ g i ∧ g i < 3329) :
    Calls Tryd.prog 19 #[.agg (arr .u16 256 f), .agg (arr .u16 256 g)] w fun e w' => e = .returned (.agg (arr .u16 256 fun i => (f i + g i) % 3329)) ∧ Below w.heap.size w w' := by
  have HC := Lib.hid fun W => zzNTTAdd_any f g W hf hg
  clear hf hg
  go_enter Tryd.func19, Tryd.ntmps19
  go_wp2_with (refine wpList_alloc_zero rfl 23 rfl _ zero23 ?_; simp only [Act.put, List.setIfInBounds_toArray, List.set_cons_succ, List.set_cons_zero, World.size_alloc])
  obtain ⟨W, hW, h0, h1, h2, hw, HS⟩ := pack3 w (arr .u16 256 f) (arr .u16 256 g) (arr .u16 256 fun _ => 0) 23 23 23
  rw [← hW]
  clear hW
  refine wp_region_quiet_tail 6 (fun w' => Below (w.heap.size + 1 + 1 + 1) W w') (Below.refl _ _).drew (by kernel_rfl) (by kernel_rfl) ?_
  simp only [List.take_succ_cons, List.take_zero, List.drop_succ_cons, List.drop_zero]
  refine quiet_ld rfl 23 _ rfl (w.heap.size) rfl 23 .u16 256 _ _ (fun w' hc => (h0.below hc (by omega)).out) Tryd.underlying23 size23 ?_
  simp only [Act.put, List.setIfInBounds_toArray, List.set_cons_succ, List.set_cons_zero]
  refine quiet_call rfl 22 #[.agg (arr .u16 256 f)] _ (fun _ => by go_simp) (fun w' hc => quiet_of_any (transform_any f w') hc HS) ?_
  simp only [Act.put, List.setIfInBounds_toArray, List.set_cons_succ, List.set_cons_zero]
  refine quiet_ld rfl 23 _ rfl (w.heap.size + 1) rfl 23 .u16 256 _ _ (fun w' hc => (h1.below hc (by omega)).out) Tryd.underlying23 size23 ?_
  simp only [Act.put, List.setIfInBounds_toArray, List.set_cons_succ, List.set_cons_zero]
  refine quiet_call rfl 22 #[.agg (arr .u16 256 g)] _ (fun _ => by go_simp) (fun w' hc => quiet_of_any (transform_any g w') hc HS) ?_
  simp only [Act.put, List.setIfInBounds_toArray, List.set_cons_succ, List.set_cons_zero]
  refine quiet_call rfl 31 #[.agg (arr .u16 256 f), .agg (arr .u16 256 g)] _ (fun _ => by go_simp) (fun w' hc => quiet_of_any (HC.out w') hc HS) ?_
  simp only [Act.put, List.setIfInBounds_toArray, List.set_cons_succ, List.set_cons_zero]
  refine quiet_call rfl 20 #[.agg (arr .u16 256 fun i => (f i + g i) % 3329)] _ (fun _ => by go_simp) (fun w' hc => quiet_of_any (ofTransform_any (fun i => (f i + g i) % 3329) w') hc HS) ?_
  simp only [Act.put, List.setIfInBounds_toArray, List.set_cons_succ, List.set_cons_zero]
  refine wpQuiet_nil ?_
  intro w1 hc
  have d2 := h2.below hc (by omega)
  have db := hw.trans (hc.mono (by omega))
  clear hc hw HS h0 h1 h2
  go_wp2_with (refine st_arr rfl 23 _ _ rfl (w.heap.size + 1 + 1) rfl .u16 256 _ rfl 23 .u16 _ d2.out size23 ?_; simp only [Act.put, List.setIfInBounds_toArray, List.set_cons_succ, List.set_cons_zero, World.size_alloc])
  exact bodyPost_ret (res_arr rfl _ _ (w.heap.size + 1 + 1) 23 .u16 256 _ _ rfl (d2.row _).out Tryd.underlying23 size23) rfl ⟨rfl, Below.setRow db _ (by omega) _⟩
end Go.Proofs.YtcglkelhklihgaaDoor
