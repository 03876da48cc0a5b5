/-
  nttMul: the product of two transforms. Conditions: all numbers are below 3329; the variable gammas holds the table.
-/
import Derived.Test.YtcglkelhklihgaaDoorNtf
import Derived.Test.YtcglkelhklihgaaDoorPrd
namespace Go.Proofs.YtcglkelhklihgaaDoor
open Go.RowKit

theorem two_upto (h : Nat → Int) (k : Nat) : upd (upd (upto h (2 * k)) (2 * k) (h (2 * k))) (2 * k + 1) (h (2 * k + 1)) = upto h (2 * (k + 1)) := by
  rw [upto_succ, upto_succ]; rfl
set_option maxRecDepth 100000 in
set_option maxHeartbeats 1000000 in
theorem nttMul_any (f g : Nat → Int) (w : World) (hf : ∀ i, i < 256 → 0 ≤ f i ∧ f i < 3329) (hg : ∀ i, i < 256 → 0 ≤ g i ∧ g i < 3329) (hz : Tab w 0 gam) :
    Calls Tryd.prog 32 #[.agg (arr .u16 256 f), .agg (arr .u16 256 g)] w fun e w' => e = .returned (.agg (arr .u16 256 (mulv f g))) ∧ Below w.heap.size w w' := by
  have HF := Lib.hid hf; clear hf
  have HG := Lib.hid hg; clear hg
  have hz1 := hz.lt
  go_enter Tryd.func32, Tryd.ntmps32
  go_wp2_with (refine wpList_alloc_zero rfl 40 rfl _ zero40 ?_; simp only [Act.put, List.setIfInBounds_toArray, List.set_cons_succ, List.set_cons_zero, World.size_alloc])
  obtain ⟨W, hW, h0, h1, h2, h3, hb, HS⟩ := pack4 w (arr .u16 256 f) (arr .u16 256 g) (arr .u16 256 fun _ => 0) (arr .u16 256 fun _ => 0) 40 40 40 40
  rw [← hW]
  clear hW HS
  go_loopw [6, 7, 8, 9, 10] (fun i _ _ _ _ wr => ∃ k : Nat, k ≤ 128 ∧ i = .int .i64 (2 * k : Nat) ∧ Below w.heap.size w wr ∧ Has wr w.heap.size (arr .u16 256 f) 40 ∧ Has wr (w.heap.size + 1) (arr .u16 256 g) 40 ∧ Has wr (w.heap.size + 1 + 1) (arr .u16 256 fun _ => 0) 40 ∧ Has wr (w.heap.size + 1 + 1 + 1) (arr .u16 256 (upto (mulv f g) (2 * k))) 40) (fun i _ _ _ _ _ => 256 - (intOf i).toNat)
  case atStart => exact ⟨0, by omega, rfl, hb, h0, h1, h2, by rw [upto_zero]; exact h3⟩
  case round =>
    obtain ⟨k, hk, rfl, hb, h0, h1, h2, h3⟩ := hrel
    by_cases hlt : k < 128
    · obtain ⟨f0, f1⟩ := HF.out (2 * k) (by omega)
      obtain ⟨f2, f3⟩ := HF.out (2 * k + 1) (by omega)
      obtain ⟨g0, g1⟩ := HG.out (2 * k) (by omega)
      obtain ⟨g2, g3⟩ := HG.out (2 * k + 1) (by omega)
      obtain ⟨r0, r1⟩ := gam_bd k
      have cz := (hz.below hb hz1).out k hlt
      have E0 := Lib.hid (show mulv f g (2 * k) = (f (2 * k) * g (2 * k) + f (2 * k + 1) * g (2 * k + 1) % 3329 * gam k) % 3329 by unfold mulv; rw [if_pos (by omega), show 2 * k / 2 = k from by omega])
      have E1 := Lib.hid (show mulv f g (2 * k + 1) = (f (2 * k) * g (2 * k + 1) + f (2 * k + 1) * g (2 * k)) % 3329 by unfold mulv; rw [if_neg (by omega), show 2 * k + 1 - 1 = 2 * k from by omega])
      have c0 := h0.cell (2 * k) (by omega)
      have c1 := h0.cell (2 * k + 1) (by omega)
      have c2 := h1.cell (2 * k) (by omega)
      have c3 := h1.cell (2 * k + 1) (by omega)
      have EC := Lib.hid (show ((2 * (k + 1) : Nat) : Int) = ((2 * k : Nat) : Int) + 2 by omega)
      have E2 := Lib.hid (two_upto (mulv f g) k)
      have ed : (2 * k) / 2 = k := by omega
      generalize hi : 2 * k = i at *
      have hi2 : i < 255 := by omega
      clear hi
      generalize hA : f i = A at *
      generalize hD : f (i + 1) = D at *
      generalize hC : g i = C at *
      generalize hE : g (i + 1) = E at *
      generalize hG : gam k = G at *
      clear HF HG
      have x1 : ((i : Int) + 1).toNat = i + 1 := by omega
      have x2 : ((i : Int) / 2).toNat = k := by omega
      have q1 : (0 : Int) ≤ (i : Int) + 1 := by omega
      have q2 : (i : Int) + 1 < 256 := by omega
      have q3 : (i : Int) < 256 := by omega
      have q4 : (0 : Int) ≤ (i : Int) / 2 := by omega
      have q5 : (i : Int) / 2 < 128 := by omega
      have y1 : IntKind.i64.wrap ((i : Int) + 1) = (i : Int) + 1 := IntWalk.i64_in _ (by omega)
      have t1 : (i : Int).tdiv 2 = (i : Int) / 2 := Int.tdiv_eq_ediv_of_nonneg (by omega)
      have y2 : IntKind.i64.wrap ((i : Int) / 2) = (i : Int) / 2 := IntWalk.i64_in _ (by omega)
      go_wp2
      go_quiet (fail)
      have b0 := h0.drewN nq
      have b1 := h1.drewN nq
      have b2 := h2.drewN nq
      have b3 := h3.drewN nq
      have bb : Below w.heap.size w (wr.drewN nq) := ⟨hb.os, hb.tape, hb.output, hb.size, hb.block⟩
      clear h0 h1 h2 h3 hb c0 c1 c2 c3 cz
      generalize wr.drewN nq = wx at *
      have c0 := b0.cell i (by omega)
      have c1 := b0.cell (i + 1) (by omega)
      have c2 := b1.cell i (by omega)
      have c3 := b1.cell (i + 1) (by omega)
      rw [hA] at c0
      rw [hD] at c1
      rw [hC] at c2
      rw [hE] at c3
      clear nq
      go_wp2
      go_quiet (fail)
      have d0 := b0.drewN nq
      have d1 := b1.drewN nq
      have d2 := b2.drewN nq
      have d3 := b3.drewN nq
      have db : Below w.heap.size w (wx.drewN nq) := ⟨bb.os, bb.tape, bb.output, bb.size, bb.block⟩
      have dz := (hz.below db hz1).out k hlt
      rw [hG] at dz
      clear b0 b1 b2 b3 bb c0 c1 c2 c3
      generalize wx.drewN nq = wd at *
      clear hA hC hE hD hG
      have c4 := d3.cell i (by omega)
      have z4 := d3.free i
      obtain ⟨m2, m3⟩ := mul_bd D E 3328 3328 f2 (by omega) g2 (by omega)
      go_wp2_with fail
      refine wp_region_still_tail 12 (by kernel_rfl) (by kernel_rfl) ?_
      simp only [List.take_succ_cons, List.take_zero, List.drop_succ_cons, List.drop_zero]
      repeat still_step
      still_call (still_flip (fieldMul_any D E _ f2 f3 g2 g3))
      repeat still_step
      still_call (still_flip (fieldAddMul_any A C (D * E % 3329) G _ f0 f1 g0 g1 (by omega) (by omega) r0 r1))
      repeat still_step
      refine wpStill_nil ?_
      change wpList _ _ _ _ _ wd.drew
      have e0 := d0.drew
      have e1 := d1.drew
      have e2 := d2.drew
      have e3 := d3.drew
      have eb := db.drew
      clear d0 d1 d2 d3 db c4 z4 dz
      generalize wd.drew = we at *
      have c4 := e3.cell i (by omega)
      have z4 := e3.free i
      have c5 : ∀ x : Int, (we.setCell ⟨w.heap.size + 1 + 1 + 1, i, none⟩ (.int .u16 x)).cell? ⟨w.heap.size + 1 + 1 + 1, i + 1, none⟩ = some (.int .u16 (upto (mulv f g) i (i + 1))) := fun x => by
        have h := (e3.set i x).cell (i + 1) (by omega)
        rw [upd_other _ _ _ _ (by omega)] at h
        exact h
      have z5 : ∀ x : Int, (we.setCell ⟨w.heap.size + 1 + 1 + 1, i, none⟩ (.int .u16 x)).frozen? ⟨w.heap.size + 1 + 1 + 1, i + 1, none⟩ = false := fun x => (e3.set i x).free (i + 1)
      clear t1 y1 y2
      go_wp2_with (go_at_call 37; refine (fieldAddMul_any A E D C _ f0 f1 g2 g3 f2 f3 g0 g1).mono ?_; rintro e w1 ⟨rfl, rfl⟩)
      go_roundw
      case rel => exact ⟨k + 1, by omega, by rw [EC.out], below_set (below_set eb _ _ (by omega) _) _ _ (by omega) _, (e0.other _ _ _ (by omega)).other _ _ _ (by omega), (e1.other _ _ _ (by omega)).other _ _ _ (by omega), (e2.other _ _ _ (by omega)).other _ _ _ (by omega), by rw [← E2.out, E0.out, E1.out]; exact (e3.set _ _).set _ _⟩
      case measure => simp [intOf]; omega
    · obtain rfl : k = 128 := by omega
      rw [show 2 * 128 = 256 from rfl, show ((256 : Nat) : Int) = 256 from rfl] at *
      go_wp2_with (first | (refine ld_arr rfl 40 _ rfl (w.heap.size + 1 + 1 + 1) rfl 40 .u16 256 _ _ h3.out Tryd.underlying40 size40 ?_) | (refine st_arr rfl 40 _ _ rfl (w.heap.size + 1 + 1) rfl .u16 256 _ rfl 40 .u16 _ h2.out size40 ?_))
      exact bodyPost_ret (res_arr rfl _ _ (w.heap.size + 1 + 1) 40 .u16 256 _ _ rfl (h2.row _).out Tryd.underlying40 size40) rfl ⟨by rw [upto_all], Below.setRow hb _ (by omega) _⟩
end Go.Proofs.YtcglkelhklihgaaDoor
