/-
  ToNTT, FromNTT, NTTMul of the thin package: what each returns. Conditions: all numbers are below 3329; the variables zetas and gammas hold their tables.
-/
import Derived.Test.YtcglkelhklihgaaDoorImp
import Derived.Test.YtcglkelhklihgaaDoorNtf
import Derived.Test.YtcglkelhklihgaaDoorNti
import Derived.Test.YtcglkelhklihgaaDoorNmu
namespace Go.Proofs.YtcglkelhklihgaaDoor
open Go.RowKit

set_option maxRecDepth 100000 in
set_option maxHeartbeats 1000000 in
theorem zzToNTT_any (f : Nat → Int) (w : World) (hf : ∀ i, i < 256 → 0 ≤ f i ∧ f i < 3329) (hz : Tab w 1 zet) :
    Calls Tryd.prog 24 #[.agg (arr .u16 256 f)] w fun e w' => e = .returned (.agg (arr .u16 256 (nttv f))) ∧ Below w.heap.size w w' := by
  have hz1 := hz.lt
  have HC := Lib.hid fun (W : World) (z : Tab W 1 zet) => ntt_any f W hf z
  clear hf
  go_enter Tryd.func24, Tryd.ntmps24
  go_wp2_with (first | (refine wpList_alloc_zero rfl 40 rfl _ zero40 ?_; simp only [Act.put, List.setIfInBounds_toArray, List.set_cons_succ, List.set_cons_zero, World.size_alloc]) | (refine ld_arr rfl 45 _ rfl (w.heap.size) rfl 45 .u16 256 _ _ (Has.alloc (Has.new _ _ _) _).out Tryd.underlying45 size45 ?_; simp only [Act.put, List.setIfInBounds_toArray, List.set_cons_succ, List.set_cons_zero, World.size_alloc]))
  obtain ⟨W, hW, h0, h1, hw, HS⟩ := pack2 w (arr .u16 256 f) (arr .u16 256 fun _ => 0) 45 40
  rw [← hW]
  clear hW
  refine (HC.out _ (hz.below hw hz1)).mono ?_
  rintro e w1 ⟨rfl, hb⟩
  have d1 := h1.below hb (by omega)
  have db := hw.trans (hb.mono (by omega))
  clear hb hw HS h0 h1
  go_wp2_with (refine st_arr rfl 40 _ _ rfl (w.heap.size + 1) rfl .u16 256 _ rfl 40 .u16 _ d1.out size40 ?_; simp only [Act.put, List.setIfInBounds_toArray, List.set_cons_succ, List.set_cons_zero, World.size_alloc])
  exact bodyPost_ret (res_arr rfl _ _ (w.heap.size + 1) 40 .u16 256 _ _ rfl (d1.row _).out Tryd.underlying40 size40) rfl ⟨rfl, Below.setRow db _ (by omega) _⟩
set_option maxRecDepth 100000 in
set_option maxHeartbeats 1000000 in
theorem implToNTT_any (f : Nat → Int) (w : World) (hf : ∀ i, i < 256 → 0 ≤ f i ∧ f i < 3329) (hz : Tab w 1 zet) :
    Calls Tryd.prog 13 #[.agg (arr .u16 256 f)] w fun e w' => e = .returned (.agg (arr .u16 256 (nttv f))) ∧ Below w.heap.size w w' := by
  have hz1 := hz.lt
  have HC := Lib.hid fun (W : World) (z : Tab W 1 zet) => zzToNTT_any f W hf z
  clear hf
  go_enter Tryd.func13, Tryd.ntmps13
  go_wp2_with (first | (refine wpList_alloc_zero rfl 23 rfl _ zero23 ?_; simp only [Act.put, List.setIfInBounds_toArray, List.set_cons_succ, List.set_cons_zero, World.size_alloc]) | (refine ld_arr rfl 23 _ rfl (w.heap.size) rfl 23 .u16 256 f _ (Has.alloc (Has.new _ _ _) _).out Tryd.underlying23 size23 ?_; simp only [Act.put, List.setIfInBounds_toArray, List.set_cons_succ, List.set_cons_zero, World.size_alloc]))
  obtain ⟨W, hW, h0, h1, hw, HS⟩ := pack2 w (arr .u16 256 f) (arr .u16 256 fun _ => 0) 23 23
  rw [← hW]
  clear hW
  refine (ring_any f _).mono ?_
  rintro e w1 ⟨rfl, hb⟩
  have d0 := h0.below hb (by omega)
  have d1 := h1.below hb (by omega)
  have db := hw.trans (hb.mono (by omega))
  have ds : w.heap.size + 1 + 1 ≤ w1.heap.size := Nat.le_trans HS hb.size
  clear hb h0 h1 hw HS
  obtain ⟨W, h0, h1, hw, HS, rfl⟩ : ∃ W, Has W (w.heap.size) (arr .u16 256 f) 23 ∧ Has W (w.heap.size + 1) (arr .u16 256 fun _ => 0) 23 ∧ Below w.heap.size w W ∧ w.heap.size + 1 + 1 ≤ W.heap.size ∧ W = w1 := ⟨_, d0, d1, db, ds, rfl⟩
  clear d0 d1 db ds
  go_wp2_with fail
  refine (HC.out _ (hz.below hw hz1)).mono ?_
  rintro e w1 ⟨rfl, hb⟩
  have d0 := h0.below hb (by omega)
  have d1 := h1.below hb (by omega)
  have db := hw.trans (hb.mono (by omega))
  have ds : w.heap.size + 1 + 1 ≤ w1.heap.size := Nat.le_trans HS hb.size
  clear hb h0 h1 hw HS
  obtain ⟨W, h0, h1, hw, HS, rfl⟩ : ∃ W, Has W (w.heap.size) (arr .u16 256 f) 23 ∧ Has W (w.heap.size + 1) (arr .u16 256 fun _ => 0) 23 ∧ Below w.heap.size w W ∧ w.heap.size + 1 + 1 ≤ W.heap.size ∧ W = w1 := ⟨_, d0, d1, db, ds, rfl⟩
  clear d0 d1 db ds
  go_wp2_with fail
  refine (ofTransform_any (nttv f) _).mono ?_
  rintro e w1 ⟨rfl, hb⟩
  have d0 := h0.below hb (by omega)
  have d1 := h1.below hb (by omega)
  have db := hw.trans (hb.mono (by omega))
  have ds : w.heap.size + 1 + 1 ≤ w1.heap.size := Nat.le_trans HS hb.size
  clear hb h0 h1 hw HS
  obtain ⟨W, h0, h1, hw, HS, rfl⟩ : ∃ W, Has W (w.heap.size) (arr .u16 256 f) 23 ∧ Has W (w.heap.size + 1) (arr .u16 256 fun _ => 0) 23 ∧ Below w.heap.size w W ∧ w.heap.size + 1 + 1 ≤ W.heap.size ∧ W = w1 := ⟨_, d0, d1, db, ds, rfl⟩
  clear d0 d1 db ds
  go_wp2_with (refine st_arr rfl 23 _ _ rfl (w.heap.size + 1) rfl .u16 256 _ rfl 23 .u16 _ h1.out size23 ?_; simp only [Act.put, List.setIfInBounds_toArray, List.set_cons_succ, List.set_cons_zero, World.size_alloc])
  exact bodyPost_ret (res_arr rfl _ _ (w.heap.size + 1) 23 .u16 256 _ _ rfl (h1.row _).out Tryd.underlying23 size23) rfl ⟨rfl, Below.setRow hw _ (by omega) _⟩
set_option maxRecDepth 100000 in
set_option maxHeartbeats 1000000 in
theorem zzFromNTT_any (f : Nat → Int) (w : World) (hf : ∀ i, i < 256 → 0 ≤ f i ∧ f i < 3329) (hz : Tab w 1 zet) :
    Calls Tryd.prog 27 #[.agg (arr .u16 256 f)] w fun e w' => e = .returned (.agg (arr .u16 256 (invv f))) ∧ Below w.heap.size w w' := by
  have hz1 := hz.lt
  have HC := Lib.hid fun (W : World) (z : Tab W 1 zet) => inverseNTT_any f W hf z
  clear hf
  go_enter Tryd.func27, Tryd.ntmps27
  go_wp2_with (first | (refine wpList_alloc_zero rfl 45 rfl _ zero45 ?_; simp only [Act.put, List.setIfInBounds_toArray, List.set_cons_succ, List.set_cons_zero, World.size_alloc]) | (refine ld_arr rfl 40 _ rfl (w.heap.size) rfl 40 .u16 256 _ _ (Has.alloc (Has.new _ _ _) _).out Tryd.underlying40 size40 ?_; simp only [Act.put, List.setIfInBounds_toArray, List.set_cons_succ, List.set_cons_zero, World.size_alloc]))
  obtain ⟨W, hW, h0, h1, hw, HS⟩ := pack2 w (arr .u16 256 f) (arr .u16 256 fun _ => 0) 40 45
  rw [← hW]
  clear hW
  refine (HC.out _ (hz.below hw hz1)).mono ?_
  rintro e w1 ⟨rfl, hb⟩
  have d1 := h1.below hb (by omega)
  have db := hw.trans (hb.mono (by omega))
  clear hb hw HS h0 h1
  go_wp2_with (refine st_arr rfl 45 _ _ rfl (w.heap.size + 1) rfl .u16 256 _ rfl 45 .u16 _ d1.out size45 ?_; simp only [Act.put, List.setIfInBounds_toArray, List.set_cons_succ, List.set_cons_zero, World.size_alloc])
  exact bodyPost_ret (res_arr rfl _ _ (w.heap.size + 1) 45 .u16 256 _ _ rfl (d1.row _).out Tryd.underlying45 size45) rfl ⟨rfl, Below.setRow db _ (by omega) _⟩
set_option maxRecDepth 100000 in
set_option maxHeartbeats 1000000 in
theorem implFromNTT_any (f : Nat → Int) (w : World) (hf : ∀ i, i < 256 → 0 ≤ f i ∧ f i < 3329) (hz : Tab w 1 zet) :
    Calls Tryd.prog 15 #[.agg (arr .u16 256 f)] w fun e w' => e = .returned (.agg (arr .u16 256 (invv f))) ∧ Below w.heap.size w w' := by
  have hz1 := hz.lt
  have HC := Lib.hid fun (W : World) (z : Tab W 1 zet) => zzFromNTT_any f W hf z
  clear hf
  go_enter Tryd.func15, Tryd.ntmps15
  go_wp2_with (first | (refine wpList_alloc_zero rfl 23 rfl _ zero23 ?_; simp only [Act.put, List.setIfInBounds_toArray, List.set_cons_succ, List.set_cons_zero, World.size_alloc]) | (refine ld_arr rfl 23 _ rfl (w.heap.size) rfl 23 .u16 256 f _ (Has.alloc (Has.new _ _ _) _).out Tryd.underlying23 size23 ?_; simp only [Act.put, List.setIfInBounds_toArray, List.set_cons_succ, List.set_cons_zero, World.size_alloc]))
  obtain ⟨W, hW, h0, h1, hw, HS⟩ := pack2 w (arr .u16 256 f) (arr .u16 256 fun _ => 0) 23 23
  rw [← hW]
  clear hW
  refine (transform_any f _).mono ?_
  rintro e w1 ⟨rfl, hb⟩
  have d0 := h0.below hb (by omega)
  have d1 := h1.below hb (by omega)
  have db := hw.trans (hb.mono (by omega))
  have ds : w.heap.size + 1 + 1 ≤ w1.heap.size := Nat.le_trans HS hb.size
  clear hb h0 h1 hw HS
  obtain ⟨W, h0, h1, hw, HS, rfl⟩ : ∃ W, Has W (w.heap.size) (arr .u16 256 f) 23 ∧ Has W (w.heap.size + 1) (arr .u16 256 fun _ => 0) 23 ∧ Below w.heap.size w W ∧ w.heap.size + 1 + 1 ≤ W.heap.size ∧ W = w1 := ⟨_, d0, d1, db, ds, rfl⟩
  clear d0 d1 db ds
  go_wp2_with fail
  refine (HC.out _ (hz.below hw hz1)).mono ?_
  rintro e w1 ⟨rfl, hb⟩
  have d0 := h0.below hb (by omega)
  have d1 := h1.below hb (by omega)
  have db := hw.trans (hb.mono (by omega))
  have ds : w.heap.size + 1 + 1 ≤ w1.heap.size := Nat.le_trans HS hb.size
  clear hb h0 h1 hw HS
  obtain ⟨W, h0, h1, hw, HS, rfl⟩ : ∃ W, Has W (w.heap.size) (arr .u16 256 f) 23 ∧ Has W (w.heap.size + 1) (arr .u16 256 fun _ => 0) 23 ∧ Below w.heap.size w W ∧ w.heap.size + 1 + 1 ≤ W.heap.size ∧ W = w1 := ⟨_, d0, d1, db, ds, rfl⟩
  clear d0 d1 db ds
  go_wp2_with fail
  refine (ofRing_any (invv f) _).mono ?_
  rintro e w1 ⟨rfl, hb⟩
  have d0 := h0.below hb (by omega)
  have d1 := h1.below hb (by omega)
  have db := hw.trans (hb.mono (by omega))
  have ds : w.heap.size + 1 + 1 ≤ w1.heap.size := Nat.le_trans HS hb.size
  clear hb h0 h1 hw HS
  obtain ⟨W, h0, h1, hw, HS, rfl⟩ : ∃ W, Has W (w.heap.size) (arr .u16 256 f) 23 ∧ Has W (w.heap.size + 1) (arr .u16 256 fun _ => 0) 23 ∧ Below w.heap.size w W ∧ w.heap.size + 1 + 1 ≤ W.heap.size ∧ W = w1 := ⟨_, d0, d1, db, ds, rfl⟩
  clear d0 d1 db ds
  go_wp2_with (refine st_arr rfl 23 _ _ rfl (w.heap.size + 1) rfl .u16 256 _ rfl 23 .u16 _ h1.out size23 ?_; simp only [Act.put, List.setIfInBounds_toArray, List.set_cons_succ, List.set_cons_zero, World.size_alloc])
  exact bodyPost_ret (res_arr rfl _ _ (w.heap.size + 1) 23 .u16 256 _ _ rfl (h1.row _).out Tryd.underlying23 size23) rfl ⟨rfl, Below.setRow hw _ (by omega) _⟩
set_option maxRecDepth 100000 in
set_option maxHeartbeats 1000000 in
theorem zzNTTMul_any (f g : Nat → Int) (w : World) (hf : ∀ i, i < 256 → 0 ≤ f i ∧ f i < 3329) (hg : ∀ i, i < 256 → 0 ≤ g i ∧ g i < 3329) (hz : Tab w 0 gam) :
    Calls Tryd.prog 21 #[.agg (arr .u16 256 f), .agg (arr .u16 256 g)] w fun e w' => e = .returned (.agg (arr .u16 256 (mulv f g))) ∧ Below w.heap.size w w' := by
  have hz1 := hz.lt
  have HC := Lib.hid fun (W : World) (z : Tab W 0 gam) => nttMul_any f g W hf hg z
  clear hf hg
  go_enter Tryd.func21, Tryd.ntmps21
  go_wp2_with (first | (refine wpList_alloc_zero rfl 40 rfl _ zero40 ?_; simp only [Act.put, List.setIfInBounds_toArray, List.set_cons_succ, List.set_cons_zero, World.size_alloc]) | (refine ld_arr rfl 40 _ rfl (w.heap.size) rfl 40 .u16 256 _ _ (heap3_0 _ _ _ _) Tryd.underlying40 size40 ?_; simp only [Act.put, List.setIfInBounds_toArray, List.set_cons_succ, List.set_cons_zero, World.size_alloc]) | (refine ld_arr rfl 40 _ rfl (w.heap.size + 1) rfl 40 .u16 256 _ _ (heap3_1 _ _ _ _) Tryd.underlying40 size40 ?_; simp only [Act.put, List.setIfInBounds_toArray, List.set_cons_succ, List.set_cons_zero, World.size_alloc]))
  obtain ⟨W, hW, h0, h1, h2, hw, HS⟩ := pack3 w (arr .u16 256 f) (arr .u16 256 g) (arr .u16 256 fun _ => 0) 40 40 40
  rw [← hW]
  clear hW
  refine (HC.out _ (hz.below hw hz1)).mono ?_
  rintro e w1 ⟨rfl, hb⟩
  have d2 := h2.below hb (by omega)
  have db := hw.trans (hb.mono (by omega))
  clear hb hw HS h0 h1 h2
  go_wp2_with (refine st_arr rfl 40 _ _ rfl (w.heap.size + 1 + 1) rfl .u16 256 _ rfl 40 .u16 _ d2.out size40 ?_; simp only [Act.put, List.setIfInBounds_toArray, List.set_cons_succ, List.set_cons_zero, World.size_alloc])
  exact bodyPost_ret (res_arr rfl _ _ (w.heap.size + 1 + 1) 40 .u16 256 _ _ rfl (d2.row _).out Tryd.underlying40 size40) rfl ⟨rfl, Below.setRow db _ (by omega) _⟩
set_option maxRecDepth 100000 in
set_option maxHeartbeats 1000000 in
theorem implNTTMul_any (f g : Nat → Int) (w : World) (hf : ∀ i, i < 256 → 0 ≤ f i ∧ f i < 3329) (hg : ∀ i, i < 256 → 0 ≤ g i ∧ g i < 3329) (hz : Tab w 0 gam) :
    Calls Tryd.prog 11 #[.agg (arr .u16 256 f), .agg (arr .u16 256 g)] w fun e w' => e = .returned (.agg (arr .u16 256 (mulv f g))) ∧ Below w.heap.size w w' := by
  have hz1 := hz.lt
  have HC := Lib.hid fun (W : World) (z : Tab W 0 gam) => zzNTTMul_any f g W hf hg z
  clear hf hg
  go_enter Tryd.func11, Tryd.ntmps11
  go_wp2_with (refine wpList_alloc_zero rfl 23 rfl _ zero23 ?_; simp only [Act.put, List.setIfInBounds_toArray, List.set_cons_succ, List.set_cons_zero, World.size_alloc])
  obtain ⟨W, hW, h0, h1, h2, hw, HS⟩ := pack3 w (arr .u16 256 f) (arr .u16 256 g) (arr .u16 256 fun _ => 0) 23 23 23
  rw [← hW]
  clear hW
  refine wp_region_quiet_tail 6 (fun w' => Below (w.heap.size + 1 + 1 + 1) W w') (Below.refl _ _).drew (by kernel_rfl) (by kernel_rfl) ?_
  simp only [List.take_succ_cons, List.take_zero, List.drop_succ_cons, List.drop_zero]
  refine quiet_ld rfl 23 _ rfl (w.heap.size) rfl 23 .u16 256 _ _ (fun w' hc => (h0.below hc (by omega)).out) Tryd.underlying23 size23 ?_
  simp only [Act.put, List.setIfInBounds_toArray, List.set_cons_succ, List.set_cons_zero]
  refine quiet_call rfl 22 #[.agg (arr .u16 256 f)] _ (fun _ => by go_simp) (fun w' hc => quiet_of_any (transform_any f w') hc HS) ?_
  simp only [Act.put, List.setIfInBounds_toArray, List.set_cons_succ, List.set_cons_zero]
  refine quiet_ld rfl 23 _ rfl (w.heap.size + 1) rfl 23 .u16 256 _ _ (fun w' hc => (h1.below hc (by omega)).out) Tryd.underlying23 size23 ?_
  simp only [Act.put, List.setIfInBounds_toArray, List.set_cons_succ, List.set_cons_zero]
  refine quiet_call rfl 22 #[.agg (arr .u16 256 g)] _ (fun _ => by go_simp) (fun w' hc => quiet_of_any (transform_any g w') hc HS) ?_
  simp only [Act.put, List.setIfInBounds_toArray, List.set_cons_succ, List.set_cons_zero]
  refine quiet_call rfl 21 #[.agg (arr .u16 256 f), .agg (arr .u16 256 g)] _ (fun _ => by go_simp) (fun w' hc => quiet_of_any (HC.out w' ((hz.below hw hz1).below hc (by omega))) hc HS) ?_
  simp only [Act.put, List.setIfInBounds_toArray, List.set_cons_succ, List.set_cons_zero]
  refine quiet_call rfl 20 #[.agg (arr .u16 256 (mulv f g))] _ (fun _ => by go_simp) (fun w' hc => quiet_of_any (ofTransform_any ((mulv f g)) w') hc HS) ?_
  simp only [Act.put, List.setIfInBounds_toArray, List.set_cons_succ, List.set_cons_zero]
  refine wpQuiet_nil ?_
  intro w1 hc
  have d2 := h2.below hc (by omega)
  have db := hw.trans (hc.mono (by omega))
  clear hc hw HS h0 h1 h2
  go_wp2_with (refine st_arr rfl 23 _ _ rfl (w.heap.size + 1 + 1) rfl .u16 256 _ rfl 23 .u16 _ d2.out size23 ?_; simp only [Act.put, List.setIfInBounds_toArray, List.set_cons_succ, List.set_cons_zero, World.size_alloc])
  exact bodyPost_ret (res_arr rfl _ _ (w.heap.size + 1 + 1) 23 .u16 256 _ _ rfl (d2.row _).out Tryd.underlying23 size23) rfl ⟨rfl, Below.setRow db _ (by omega) _⟩
end Go.Proofs.YtcglkelhklihgaaDoor
