/-
  spec.Times: the product of residues. Condition: all numbers are below 3329.
-/
import Derived.Test.YtcglkelhklihgaaDoorRot
import Derived.Test.YtcglkelhklihgaaDoorPrd
namespace Go.Proofs.YtcglkelhklihgaaDoor
open Go.RowKit

/-- Filled as far as 2 k. -/
theorem two_more (h : Nat → Int) (k : Nat) : upd (upd (upto h (2 * k)) (2 * k) (h (2 * k))) (2 * k + 1) (h (2 * k + 1)) = upto h (2 * (k + 1)) := by
  rw [upto_succ, upto_succ]; rfl
set_option maxRecDepth 100000 in
set_option maxHeartbeats 1000000 in
theorem specTimes_any (f g : Nat → Int) (w : World) (hf : ∀ i, i < 256 → 0 ≤ f i ∧ f i < 3329) (hg : ∀ i, i < 256 → 0 ≤ g i ∧ g i < 3329) :
    Calls Tryd.prog 12 #[.agg (arr .i64 256 f), .agg (arr .i64 256 g)] w fun e w' => e = .returned (.agg (arr .i64 256 (mulv f g))) ∧ Below w.heap.size w w' := by
  have HF := Lib.hid hf; clear hf
  have HG := Lib.hid hg; clear hg
  go_enter Tryd.func12, Tryd.ntmps12
  go_wp2_with (first | (refine wpList_alloc_zero rfl 25 rfl _ zero25 ?_; simp only [Act.put, List.setIfInBounds_toArray, List.set_cons_succ, List.set_cons_zero, World.size_alloc]) | (refine wpList_build_zero rfl 25 rfl _ built25 ?_; simp only [Act.put, List.setIfInBounds_toArray, List.set_cons_succ, List.set_cons_zero, World.size_alloc]) | (refine st_arr rfl 25 _ _ rfl (w.heap.size + 1 + 1 + 1) rfl .i64 256 _ rfl 25 .i64 _ (heap4_3 _ _ _ _ _) size25 ?_; simp only [Act.put, List.setIfInBounds_toArray, List.set_cons_succ, List.set_cons_zero, World.size_alloc]))
  go_loopw [6, 7, 8, 9, 10] (fun i _ _ _ _ wr => ∃ k : Nat, k ≤ 128 ∧ i = .int .i64 k ∧ Below w.heap.size w wr ∧ Has wr w.heap.size (arr .i64 256 f) 25 ∧ Has wr (w.heap.size + 1) (arr .i64 256 g) 25 ∧ Has wr (w.heap.size + 1 + 1) (arr .i64 256 fun _ => 0) 25 ∧ Has wr (w.heap.size + 1 + 1 + 1) (arr .i64 256 (upto (mulv f g) (2 * k))) 25) (fun i _ _ _ _ _ => 128 - (intOf i).toNat)
  case atStart => exact ⟨0, by omega, rfl, Below.setRow (((((Below.refl _ _).alloc (Nat.le_refl _) _).alloc (by simp only [World.size_alloc]; omega) _).alloc (by simp only [World.size_alloc]; omega) _).alloc (by simp only [World.size_alloc]; omega) _) _ (by omega) _, (Has.mk (heap4_0 _ _ _ _ _)).row_other _ _ (by omega), (Has.mk (heap4_1 _ _ _ _ _)).row_other _ _ (by omega), (Has.mk (heap4_2 _ _ _ _ _)).row_other _ _ (by omega), by rw [upto_zero]; exact (Has.mk (heap4_3 _ _ _ _ _)).row _⟩
  case round =>
    obtain ⟨k, hk, rfl, hb, h0, h1, h2, h3⟩ := hrel
    by_cases hlt : k < 128
    · obtain ⟨f0, f1⟩ := HF.out (2 * k) (by omega)
      obtain ⟨f2, f3⟩ := HF.out (2 * k + 1) (by omega)
      obtain ⟨g0, g1⟩ := HG.out (2 * k) (by omega)
      obtain ⟨g2, g3⟩ := HG.out (2 * k + 1) (by omega)
      obtain ⟨r0, r1⟩ := gam_bd k
      have CR := Lib.hid fun W => root_any k W hlt
      have E0 := Lib.hid (show mulv f g (2 * k) = (f (2 * k) * g (2 * k) + f (2 * k + 1) * g (2 * k + 1) % 3329 * gam k) % 3329 by unfold mulv; rw [if_pos (by omega), show 2 * k / 2 = k from by omega])
      have E1 := Lib.hid (show mulv f g (2 * k + 1) = (f (2 * k) * g (2 * k + 1) + f (2 * k + 1) * g (2 * k)) % 3329 by unfold mulv; rw [if_neg (by omega), show 2 * k + 1 - 1 = 2 * k from by omega])
      have c0 := h0.cell (2 * k) (by omega)
      have c1 := h0.cell (2 * k + 1) (by omega)
      have c2 := h1.cell (2 * k) (by omega)
      have c3 := h1.cell (2 * k + 1) (by omega)
      have x0 : (2 * (k : Int)).toNat = 2 * k := by omega
      have x1 : (2 * (k : Int) + 1).toNat = 2 * k + 1 := by omega
      go_wp2
      go_quiet (fail)
      have d0 := h0.drewN nq
      have d1 := h1.drewN nq
      have d2 := h2.drewN nq
      have d3 := h3.drewN nq
      have db : Below w.heap.size w (wr.drewN nq) := ⟨hb.os, hb.tape, hb.output, hb.size, hb.block⟩
      clear h0 h1 h2 h3 hb c0 c1 c2 c3
      generalize wr.drewN nq = wd at *
      have c4 := d3.cell (2 * k) (by omega)
      have c5 := d3.cell (2 * k + 1) (by omega)
      have z4 := d3.free (2 * k)
      have z5 := d3.free (2 * k + 1)
      generalize hA : f (2 * k) = A at *
      generalize hD : f (2 * k + 1) = D at *
      generalize hC : g (2 * k) = C at *
      generalize hE : g (2 * k + 1) = E at *
      clear hA hD hC hE HF HG
      obtain ⟨m0, m1⟩ := mul_bd A C 3328 3328 f0 (by omega) g0 (by omega)
      obtain ⟨m2, m3⟩ := mul_bd D E 3328 3328 f2 (by omega) g2 (by omega)
      obtain ⟨m4, m5⟩ := mul_bd A E 3328 3328 f0 (by omega) g2 (by omega)
      obtain ⟨m6, m7⟩ := mul_bd D C 3328 3328 f2 (by omega) g0 (by omega)
      obtain ⟨m8, m9⟩ := mul_bd (D * E % 3329) (gam k) 3328 3328 (by omega) (by omega) r0 (by omega)
      generalize gam k = G at *
      go_wp2_with fail
      refine (CR.out _).mono ?_
      rintro e w1 ⟨rfl, rfl⟩
      go_wp2
      go_roundw
      case rel => exact ⟨k + 1, by omega, by go_num, below_set (below_set db _ _ (by omega) _) _ _ (by omega) _, (d0.other _ _ _ (by omega)).other _ _ _ (by omega), (d1.other _ _ _ (by omega)).other _ _ _ (by omega), (d2.other _ _ _ (by omega)).other _ _ _ (by omega), by rw [← two_more, E0.out, E1.out]; exact (d3.set _ _).set _ _⟩
      case measure => simp [intOf]; omega
    · obtain rfl : k = 128 := by omega
      go_wp2_with (first | (refine ld_arr rfl 25 _ rfl (w.heap.size + 1 + 1 + 1) rfl 25 .i64 256 _ _ h3.out Tryd.underlying25 size25 ?_) | (refine st_arr rfl 25 _ _ rfl (w.heap.size + 1 + 1) rfl .i64 256 _ rfl 25 .i64 _ h2.out size25 ?_))
      refine bodyPost_ret (res_arr rfl _ _ (w.heap.size + 1 + 1) 25 .i64 256 _ _ rfl (setRow_heap _ _ _ _ _ _ h2.out) Tryd.underlying25 size25) rfl ⟨by rw [show 2 * 128 = 256 from rfl, upto_all], ?_⟩
      exact Below.setRow hb _ (by omega) _
end Go.Proofs.YtcglkelhklihgaaDoor
