/-
  spec.Backward: the polynomial of residues. Condition: all numbers are below 3329.
-/
import Derived.Test.YtcglkelhklihgaaDoorRot
import Derived.Test.YtcglkelhklihgaaDoorPrd
namespace Go.Proofs.YtcglkelhklihgaaDoor
open Go.RowKit

set_option maxRecDepth 100000 in
set_option maxHeartbeats 1000000 in
theorem specBackward_any (f : Nat → Int) (w : World) (hf : ∀ i, i < 256 → 0 ≤ f i ∧ f i < 3329) :
    Calls Tryd.prog 16 #[.agg (arr .i64 256 f)] w fun e w' => e = .returned (.agg (arr .i64 256 (bwdv f))) ∧ Below w.heap.size w w' := by
  have HF := Lib.hid hf; clear hf
  go_enter Tryd.func16, Tryd.ntmps16
  go_wp2_with (first | (refine wpList_alloc_zero rfl 25 rfl _ zero25 ?_; simp only [Act.put, List.setIfInBounds_toArray, List.set_cons_succ, List.set_cons_zero, World.size_alloc]) | (refine wpList_build_zero rfl 25 rfl _ built25 ?_; simp only [Act.put, List.setIfInBounds_toArray, List.set_cons_succ, List.set_cons_zero, World.size_alloc]) | (refine st_arr rfl 25 _ _ rfl (w.heap.size + 1 + 1) rfl .i64 256 _ rfl 25 .i64 _ (heap3_2 _ _ _ _) size25 ?_; simp only [Act.put, List.setIfInBounds_toArray, List.set_cons_succ, List.set_cons_zero, World.size_alloc]))
  go_loopw [4, 5, 6, 7] (fun i _ _ _ wr => ∃ a : Nat, a ≤ 128 ∧ i = .int .i64 a ∧ Below w.heap.size w wr ∧ Has wr w.heap.size (arr .i64 256 f) 25 ∧ Has wr (w.heap.size + 1) (arr .i64 256 fun _ => 0) 25 ∧ Has wr (w.heap.size + 1 + 1) (arr .i64 256 (ball f a)) 25) (fun i _ _ _ _ => 128 - (intOf i).toNat)
  case atStart => exact ⟨0, by omega, rfl, Below.setRow ((((Below.refl _ _).alloc (Nat.le_refl _) _).alloc (by simp only [World.size_alloc]; omega) _).alloc (by simp only [World.size_alloc]; omega) _) _ (by omega) _, (Has.mk (heap3_0 _ _ _ _)).row_other _ _ (by omega), (Has.mk (heap3_1 _ _ _ _)).row_other _ _ (by omega), (Has.mk (heap3_2 _ _ _ _)).row _⟩
  case round =>
    obtain ⟨a, ha, rfl, hb, h0, h1, h2⟩ := hrel
    by_cases hlt : a < 128
    · obtain ⟨r0, r1⟩ := gai_bd a
      have hrv := rev7_bd a
      have CV := Lib.hid fun W => reversed_any a W hlt
      have CR := Lib.hid fun W => (show Calls Tryd.prog 28 #[.int .i64 (256 - (2 * rev7 a + 1) : Nat)] W fun e w' => e = .returned (.int .i64 (gai a)) ∧ W = w' by
        have h := power_any (256 - (2 * rev7 a + 1)) W (by omega)
        rw [Nat.mod_eq_of_lt (by omega)] at h
        exact h)
      obtain ⟨wo, rfl⟩ : ∃ wo : World, wo = wr := ⟨_, rfl⟩
      go_wp2_with fail
      refine (CV.out _).mono ?_
      rintro e w1 ⟨rfl, rfl⟩
      go_wp2_with fail
      rw [show (256 - (2 * ((rev7 a : Nat) : Int) + 1)) = ((256 - (2 * rev7 a + 1) : Nat) : Int) from by have := rev7_bd a; omega]
      refine (CR.out _).mono ?_
      rintro e w1 ⟨rfl, rfl⟩
      go_wp2
      go_loopw [6, 7] (fun p j wr => ∃ k : Nat, k ≤ 128 ∧ j = .int .i64 k ∧ p = .int .i64 (pb (gai a) k) ∧ Below w.heap.size w wr ∧ Has wr w.heap.size (arr .i64 256 f) 25 ∧ Has wr (w.heap.size + 1) (arr .i64 256 fun _ => 0) 25 ∧ Has wr (w.heap.size + 1 + 1) (arr .i64 256 (brow f (ball f a) a (gai a) k)) 25) (fun _ j _ => 128 - (intOf j).toNat)
      case atStart => exact ⟨0, by omega, rfl, rfl, hb, h0, h1, h2⟩
      case round =>
        obtain ⟨k, hk, rfl, rfl, hb, h0, h1, h2⟩ := hrel
        by_cases hlt2 : k < 128
        · obtain ⟨f0, f1⟩ := HF.out (2 * a) (by omega)
          obtain ⟨f2, f3⟩ := HF.out (2 * a + 1) (by omega)
          obtain ⟨p0, p1⟩ := pb_bd (gai a) k
          obtain ⟨o0, o1⟩ := brow_red f (ball f a) a (gai a) (ball_red f a) k (2 * k)
          obtain ⟨o2, o3⟩ := brow_red f (ball f a) a (gai a) (ball_red f a) k (2 * k + 1)
          have E0 := Lib.hid (show brow f (ball f a) a (gai a) (k + 1) = upd (upd (brow f (ball f a) a (gai a) k) (2 * k) ((brow f (ball f a) a (gai a) k (2 * k) + f (2 * a) * pb (gai a) k) % 3329)) (2 * k + 1) ((brow f (ball f a) a (gai a) k (2 * k + 1) + f (2 * a + 1) * pb (gai a) k) % 3329) from rfl)
          have E1 := Lib.hid (show pb (gai a) (k + 1) = pb (gai a) k * gai a % 3329 from rfl)
          have c0 := h0.cell (2 * a) (by omega)
          have c2 := h2.cell (2 * k) (by omega)
          have z2 := h2.free (2 * k)
          have x0 : (2 * (a : Int)).toNat = 2 * a := by omega
          have x1 : (2 * (a : Int) + 1).toNat = 2 * a + 1 := by omega
          have x2 : (2 * (k : Int)).toNat = 2 * k := by omega
          have x3 : (2 * (k : Int) + 1).toNat = 2 * k + 1 := by omega
          have q0 : (0 : Int) ≤ 2 * (a : Int) := by omega
          have q1 : 2 * (a : Int) < 256 := by omega
          have q2 : 2 * (a : Int) + 1 < 256 := by omega
          have q3 : (0 : Int) ≤ 2 * (k : Int) := by omega
          have q4 : 2 * (k : Int) < 256 := by omega
          have q5 : 2 * (k : Int) + 1 < 256 := by omega
          have q6 : (0 : Int) ≤ 2 * (a : Int) + 1 := by omega
          have q7 : (0 : Int) ≤ 2 * (k : Int) + 1 := by omega
          have y0 : IntKind.i64.wrap (2 * (a : Int)) = 2 * (a : Int) := IntWalk.i64_in _ (by omega)
          have y1 : IntKind.i64.wrap (2 * (a : Int) + 1) = 2 * (a : Int) + 1 := IntWalk.i64_in _ (by omega)
          have y2 : IntKind.i64.wrap (2 * (k : Int)) = 2 * (k : Int) := IntWalk.i64_in _ (by omega)
          have y3 : IntKind.i64.wrap (2 * (k : Int) + 1) = 2 * (k : Int) + 1 := IntWalk.i64_in _ (by omega)
          obtain ⟨m0, m1⟩ := mul_bd (f (2 * a)) (pb (gai a) k) 3328 3328 f0 (by omega) p0 (by omega)
          obtain ⟨m2, m3⟩ := mul_bd (f (2 * a + 1)) (pb (gai a) k) 3328 3328 f2 (by omega) p0 (by omega)
          obtain ⟨m4, m5⟩ := mul_bd (pb (gai a) k) (gai a) 3328 3328 p0 (by omega) r0 (by omega)
          generalize pb (gai a) k = p at *
          generalize gai a = r at *
          generalize hO : brow f (ball f a) a r k = O at *
          clear hO
          go_wp2
          go_still_tail 15, (by kernel_rfl)
          change wpList _ _ _ _ _ wr.drew
          have d0 := h0.drew
          have d1 := h1.drew
          have d2 := h2.drew
          have db := hb.drew
          clear h0 h1 h2 hb c0 c2 z2
          generalize wr.drew = wd at *
          have c2 := d2.cell (2 * k) (by omega)
          have z2 := d2.free (2 * k)
          go_wp2
          have e0 := d0.other (w.heap.size + 1 + 1) (2 * k) (.int .i64 ((O (2 * k) + f (2 * a) * p) % 3329)) (by omega)
          have e1 := d1.other (w.heap.size + 1 + 1) (2 * k) (.int .i64 ((O (2 * k) + f (2 * a) * p) % 3329)) (by omega)
          have e2 := d2.set (2 * k) ((O (2 * k) + f (2 * a) * p) % 3329)
          have eb := below_set db (w.heap.size + 1 + 1) (2 * k) (by omega) (.int .i64 ((O (2 * k) + f (2 * a) * p) % 3329))
          clear d0 d1 d2 db c2 z2
          generalize wd.setCell ⟨w.heap.size + 1 + 1, 2 * k, none⟩ (.int .i64 ((O (2 * k) + f (2 * a) * p) % 3329)) = we at *
          have c0 := e0.cell (2 * a + 1) (by omega)
          have c2 := e2.cell (2 * k + 1) (by omega)
          rw [upd_other _ _ _ _ (by omega)] at c2
          have z2 := e2.free (2 * k + 1)
          go_still_tail 18, (by kernel_rfl)
          change wpList _ _ _ _ _ we.drew
          have d0 := e0.drew
          have d1 := e1.drew
          have d2 := e2.drew
          have db := eb.drew
          clear e0 e1 e2 eb c0 c2 z2
          generalize we.drew = wf at *
          have c2 := d2.cell (2 * k + 1) (by omega)
          have z2 := d2.free (2 * k + 1)
          go_wp2
          go_roundw
          case rel => exact ⟨k + 1, by omega, by go_num, by rw [E1.out], below_set db _ _ (by omega) _, d0.other _ _ _ (by omega), d1.other _ _ _ (by omega), by rw [E0.out]; exact d2.set _ _⟩
          case measure => simp [intOf]; omega
        · obtain rfl : k = 128 := by omega
          have E := Lib.hid (show ball f (a + 1) = brow f (ball f a) a (gai a) 128 from rfl)
          generalize pb (gai a) 128 = p at *
          generalize brow f (ball f a) a (gai a) 128 = O at *
          go_wp2
          go_roundw
          case rel => exact ⟨a + 1, by omega, by go_num, hb, h0, h1, by rw [E.out]; exact h2⟩
          case measure => simp [intOf]; omega
    · obtain rfl : a = 128 := by omega
      go_wp2_with (first | (refine ld_arr rfl 25 _ rfl (w.heap.size + 1 + 1) rfl 25 .i64 256 _ _ h2.out Tryd.underlying25 size25 ?_) | (refine st_arr rfl 25 _ _ rfl (w.heap.size + 1) rfl .i64 256 _ rfl 25 .i64 _ h1.out size25 ?_))
      exact bodyPost_ret (res_arr rfl _ _ (w.heap.size + 1) 25 .i64 256 _ _ rfl (setRow_heap _ _ _ _ _ _ h1.out) Tryd.underlying25 size25) rfl ⟨rfl, Below.setRow hb _ (by omega) _⟩
end Go.Proofs.YtcglkelhklihgaaDoor
