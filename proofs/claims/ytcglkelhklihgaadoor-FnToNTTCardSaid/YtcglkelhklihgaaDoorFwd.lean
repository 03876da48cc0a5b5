/-
  spec.Forward: the residues of a polynomial. Condition: all numbers are below 3329.
-/
import Derived.Test.YtcglkelhklihgaaDoorRot
import Derived.Test.YtcglkelhklihgaaDoorPrd
namespace Go.Proofs.YtcglkelhklihgaaDoor
open Go.RowKit

set_option maxRecDepth 100000 in
set_option maxHeartbeats 1000000 in
theorem specForward_any (f : Nat → Int) (w : World) (hf : ∀ i, i < 256 → 0 ≤ f i ∧ f i < 3329) :
    Calls Tryd.prog 14 #[.agg (arr .i64 256 f)] w fun e w' => e = .returned (.agg (arr .i64 256 (fwdv f))) ∧ Below w.heap.size w w' := by
  have HF := Lib.hid hf; clear hf
  go_enter Tryd.func14, Tryd.ntmps14
  go_wp2_with (first | (refine wpList_alloc_zero rfl 25 rfl _ zero25 ?_; simp only [Act.put, List.setIfInBounds_toArray, List.set_cons_succ, List.set_cons_zero, World.size_alloc]) | (refine wpList_build_zero rfl 25 rfl _ built25 ?_; simp only [Act.put, List.setIfInBounds_toArray, List.set_cons_succ, List.set_cons_zero, World.size_alloc]) | (refine st_arr rfl 25 _ _ rfl (w.heap.size + 1 + 1) rfl .i64 256 _ rfl 25 .i64 _ (heap3_2 _ _ _ _) size25 ?_; simp only [Act.put, List.setIfInBounds_toArray, List.set_cons_succ, List.set_cons_zero, World.size_alloc]))
  go_loopw [4, 5, 6, 7] (fun i _ _ _ wr => ∃ a : Nat, a ≤ 128 ∧ i = .int .i64 a ∧ Below w.heap.size w wr ∧ Has wr w.heap.size (arr .i64 256 f) 25 ∧ Has wr (w.heap.size + 1) (arr .i64 256 fun _ => 0) 25 ∧ Has wr (w.heap.size + 1 + 1) (arr .i64 256 (fall f a)) 25) (fun i _ _ _ _ => 128 - (intOf i).toNat)
  case atStart => exact ⟨0, by omega, rfl, Below.setRow ((((Below.refl _ _).alloc (Nat.le_refl _) _).alloc (by simp only [World.size_alloc]; omega) _).alloc (by simp only [World.size_alloc]; omega) _) _ (by omega) _, (Has.mk (heap3_0 _ _ _ _)).row_other _ _ (by omega), (Has.mk (heap3_1 _ _ _ _)).row_other _ _ (by omega), (Has.mk (heap3_2 _ _ _ _)).row _⟩
  case round =>
    obtain ⟨a, ha, rfl, hb, h0, h1, h2⟩ := hrel
    by_cases hlt : a < 128
    · obtain ⟨r0, r1⟩ := gam_bd a
      have CR := Lib.hid fun W => root_any a W hlt
      obtain ⟨wo, rfl⟩ : ∃ wo : World, wo = wr := ⟨_, rfl⟩
      go_wp2_with fail
      refine (CR.out _).mono ?_
      rintro e w1 ⟨rfl, rfl⟩
      go_wp2
      go_loopw [6, 7] (fun p j wr => ∃ k : Nat, k ≤ 128 ∧ j = .int .i64 k ∧ p = .int .i64 (pw (gam a) k) ∧ Below w.heap.size w wr ∧ Has wr w.heap.size (arr .i64 256 f) 25 ∧ Has wr (w.heap.size + 1) (arr .i64 256 fun _ => 0) 25 ∧ Has wr (w.heap.size + 1 + 1) (arr .i64 256 (frow f (fall f a) a (gam a) k)) 25) (fun _ j _ => 128 - (intOf j).toNat)
      case atStart => exact ⟨0, by omega, rfl, rfl, hb, h0, h1, h2⟩
      case round =>
        obtain ⟨k, hk, rfl, rfl, hb, h0, h1, h2⟩ := hrel
        by_cases hlt2 : k < 128
        · obtain ⟨f0, f1⟩ := HF.out (2 * k) (by omega)
          obtain ⟨f2, f3⟩ := HF.out (2 * k + 1) (by omega)
          obtain ⟨p0, p1⟩ := pw_bd (gam a) k
          obtain ⟨o0, o1⟩ := frow_red f (fall f a) a (gam a) (fall_red f a) k (2 * a)
          obtain ⟨o2, o3⟩ := frow_red f (fall f a) a (gam a) (fall_red f a) k (2 * a + 1)
          have E0 := Lib.hid (show frow f (fall f a) a (gam a) (k + 1) = upd (upd (frow f (fall f a) a (gam a) k) (2 * a) ((frow f (fall f a) a (gam a) k (2 * a) + f (2 * k) * pw (gam a) k) % 3329)) (2 * a + 1) ((frow f (fall f a) a (gam a) k (2 * a + 1) + f (2 * k + 1) * pw (gam a) k) % 3329) from rfl)
          have E1 := Lib.hid (show pw (gam a) (k + 1) = pw (gam a) k * gam a % 3329 from rfl)
          have c0 := h0.cell (2 * k) (by omega)
          have c2 := h2.cell (2 * a) (by omega)
          have z2 := h2.free (2 * a)
          have x0 : (2 * (a : Int)).toNat = 2 * a := by omega
          have x1 : (2 * (a : Int) + 1).toNat = 2 * a + 1 := by omega
          have x2 : (2 * (k : Int)).toNat = 2 * k := by omega
          have x3 : (2 * (k : Int) + 1).toNat = 2 * k + 1 := by omega
          have q0 : (0 : Int) ≤ 2 * (a : Int) := by omega
          have q1 : 2 * (a : Int) < 256 := by omega
          have q2 : 2 * (a : Int) + 1 < 256 := by omega
          have q3 : (0 : Int) ≤ 2 * (k : Int) := by omega
          have q4 : 2 * (k : Int) < 256 := by omega
          have q5 : 2 * (k : Int) + 1 < 256 := by omega
          have q6 : (0 : Int) ≤ 2 * (a : Int) + 1 := by omega
          have q7 : (0 : Int) ≤ 2 * (k : Int) + 1 := by omega
          have y0 : IntKind.i64.wrap (2 * (a : Int)) = 2 * (a : Int) := IntWalk.i64_in _ (by omega)
          have y1 : IntKind.i64.wrap (2 * (a : Int) + 1) = 2 * (a : Int) + 1 := IntWalk.i64_in _ (by omega)
          have y2 : IntKind.i64.wrap (2 * (k : Int)) = 2 * (k : Int) := IntWalk.i64_in _ (by omega)
          have y3 : IntKind.i64.wrap (2 * (k : Int) + 1) = 2 * (k : Int) + 1 := IntWalk.i64_in _ (by omega)
          obtain ⟨m0, m1⟩ := mul_bd (f (2 * k)) (pw (gam a) k) 3328 3328 f0 (by omega) p0 (by omega)
          obtain ⟨m2, m3⟩ := mul_bd (f (2 * k + 1)) (pw (gam a) k) 3328 3328 f2 (by omega) p0 (by omega)
          obtain ⟨m4, m5⟩ := mul_bd (pw (gam a) k) (gam a) 3328 3328 p0 (by omega) r0 (by omega)
          generalize pw (gam a) k = p at *
          generalize gam a = r at *
          generalize hO : frow f (fall f a) a r k = O at *
          clear hO
          go_wp2
          go_still_tail 15, (by kernel_rfl)
          change wpList _ _ _ _ _ wr.drew
          have d0 := h0.drew
          have d1 := h1.drew
          have d2 := h2.drew
          have db := hb.drew
          clear h0 h1 h2 hb c0 c2 z2
          generalize wr.drew = wd at *
          have c2 := d2.cell (2 * a) (by omega)
          have z2 := d2.free (2 * a)
          go_wp2
          have e0 := d0.other (w.heap.size + 1 + 1) (2 * a) (.int .i64 ((O (2 * a) + f (2 * k) * p) % 3329)) (by omega)
          have e1 := d1.other (w.heap.size + 1 + 1) (2 * a) (.int .i64 ((O (2 * a) + f (2 * k) * p) % 3329)) (by omega)
          have e2 := d2.set (2 * a) ((O (2 * a) + f (2 * k) * p) % 3329)
          have eb := below_set db (w.heap.size + 1 + 1) (2 * a) (by omega) (.int .i64 ((O (2 * a) + f (2 * k) * p) % 3329))
          clear d0 d1 d2 db c2 z2
          generalize wd.setCell ⟨w.heap.size + 1 + 1, 2 * a, none⟩ (.int .i64 ((O (2 * a) + f (2 * k) * p) % 3329)) = we at *
          have c0 := e0.cell (2 * k + 1) (by omega)
          have c2 := e2.cell (2 * a + 1) (by omega)
          rw [upd_other _ _ _ _ (by omega)] at c2
          have z2 := e2.free (2 * a + 1)
          go_still_tail 18, (by kernel_rfl)
          change wpList _ _ _ _ _ we.drew
          have d0 := e0.drew
          have d1 := e1.drew
          have d2 := e2.drew
          have db := eb.drew
          clear e0 e1 e2 eb c0 c2 z2
          generalize we.drew = wf at *
          have c2 := d2.cell (2 * a + 1) (by omega)
          have z2 := d2.free (2 * a + 1)
          go_wp2
          go_roundw
          case rel => exact ⟨k + 1, by omega, by go_num, by rw [E1.out], below_set db _ _ (by omega) _, d0.other _ _ _ (by omega), d1.other _ _ _ (by omega), by rw [E0.out]; exact d2.set _ _⟩
          case measure => simp [intOf]; omega
        · obtain rfl : k = 128 := by omega
          have E := Lib.hid (show fall f (a + 1) = frow f (fall f a) a (gam a) 128 from rfl)
          generalize pw (gam a) 128 = p at *
          generalize frow f (fall f a) a (gam a) 128 = O at *
          go_wp2
          go_roundw
          case rel => exact ⟨a + 1, by omega, by go_num, hb, h0, h1, by rw [E.out]; exact h2⟩
          case measure => simp [intOf]; omega
    · obtain rfl : a = 128 := by omega
      go_wp2_with (first | (refine ld_arr rfl 25 _ rfl (w.heap.size + 1 + 1) rfl 25 .i64 256 _ _ h2.out Tryd.underlying25 size25 ?_) | (refine st_arr rfl 25 _ _ rfl (w.heap.size + 1) rfl .i64 256 _ rfl 25 .i64 _ h1.out size25 ?_))
      exact bodyPost_ret (res_arr rfl _ _ (w.heap.size + 1) 25 .i64 256 _ _ rfl (setRow_heap _ _ _ _ _ _ h1.out) Tryd.underlying25 size25) rfl ⟨rfl, Below.setRow hb _ (by omega) _⟩
end Go.Proofs.YtcglkelhklihgaaDoor
