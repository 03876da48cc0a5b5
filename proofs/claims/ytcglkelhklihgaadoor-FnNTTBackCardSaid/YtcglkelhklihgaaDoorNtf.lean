/-
  ntt: the layers of the transform. Conditions: all numbers are below 3329; the variable zetas holds the table.
-/
import Derived.Test.YtcglkelhklihgaaDoorTyp
import Derived.Test.YtcglkelhklihgaaDoorField
import Derived.Test.YtcglkelhklihgaaDoorNtt
import Derived.Lib.Hide
namespace Go.Proofs.YtcglkelhklihgaaDoor
open Go.RowKit

/-- A table of 128 numbers among the package's variables. -/
structure Tab (w : World) (g : Nat) (f : Nat → Int) : Prop where
  out : ∀ i, i < 128 → w.cell? ⟨g, i, none⟩ = some (.int .u16 (f i))
theorem Tab.lt {w : World} {g : Nat} {f : Nat → Int} (h : Tab w g f) : g < w.heap.size := block_lt_of_cell (h.out 0 (by omega))
theorem Tab.below {w w' : World} {g B : Nat} {f : Nat → Int} (h : Tab w g f) (hb : Below B w w') (hg : g < B) : Tab w' g f :=
  ⟨fun i hi => by rw [hb.cell (p := ⟨g, i, none⟩) hg]; exact h.out i hi⟩

/-- f[lo:hi] of an array variable. -/
theorem slice_run45 (W : World) (b lo hi n : Nat) (x y : Int) (hx : x = (lo : Int)) (hy : y = (hi : Int)) (hn : hi = lo + n) (h1 : hi ≤ 256) (h2 : lo < 256) :
    (do let v ← Instr.sliceAt 45 (.pointer (some ⟨b, 0, none⟩)) (some (.int .i64 x)) (some (.int .i64 y)) Option.none; pure (Next.value v) : Sem Next).run Tryd.prog W = .ok (.value (.slice (some ⟨b, lo, none⟩) n (256 - lo))) W := by
  subst hx hy
  have hs : (sizeOf 38).run Tryd.prog W = .ok 1 W := by kernel_rfl
  have hu : (underlying 45).run Tryd.prog W = .ok (.array 256 38) W := by kernel_rfl
  have ha : (⟨b, 0, none⟩ : Addr).add lo = ⟨b, lo, none⟩ := by unfold Addr.add; split <;> simp_all
  have e2 : lo ≤ hi := by omega
  have e3 : hi - lo = n := by omega
  have e4 : ¬ 256 = lo := by omega
  simp [Instr.sliceAt, Instr.sliceBounds, Instr.sliceBound, Instr.sureAddr, asIntOf, Sem.run_bind, hu, hs, h1, e2, e3, e4, ha]
theorem inner_red (F : Nat → Int) (L st : Nat) (z : Int) (hF : ∀ i, i < 256 → 0 ≤ F i ∧ F i < 3329) (j : Nat) (hj : j ≤ L) : ∀ m, m < 256 → 0 ≤ inner F L st z j m ∧ inner F L st z j m < 3329 := by
  intro m hm
  rw [inner_at F L st z j hj m]
  split
  · omega
  · split
    · omega
    · exact hF m hm
theorem midl_all (F : Nat → Int) (L k0 n : Nat) (hF : ∀ i, i < 256 → 0 ≤ F i ∧ F i < 3329) : ∀ m, m < 256 → 0 ≤ midl F L k0 n m ∧ midl F L k0 n m < 3329 := by
  intro m hm
  rcases Nat.lt_or_ge m (2 * L * n) with h | h
  · exact midl_red F L k0 n m h
  · rw [midl_far F L k0 n m h]; exact hF m hm
theorem mid_nums : ∀ s, s < 7 → 2 * Ln s * 2 ^ s = 256 ∧ 2 ^ s ≤ 64 := by decide
theorem mid_st (s n : Nat) (hs : s < 7) (hn : n < 2 ^ s) : 2 * Ln s * n + 2 * Ln s ≤ 256 := by
  have h1 : 2 * Ln s * (n + 1) ≤ 2 * Ln s * 2 ^ s := Nat.mul_le_mul_left _ hn
  rw [(mid_nums s hs).1, Nat.mul_add, Nat.mul_one] at h1
  exact h1
set_option maxRecDepth 100000 in
set_option maxHeartbeats 1000000 in
theorem ntt_any (f : Nat → Int) (w : World) (hf : ∀ i, i < 256 → 0 ≤ f i ∧ f i < 3329) (hz : Tab w 1 zet) :
    Calls Tryd.prog 33 #[.agg (arr .u16 256 f)] w fun e w' => e = .returned (.agg (arr .u16 256 (nttv f))) ∧ Below w.heap.size w w' := by
  have HF := Lib.hid hf; clear hf
  have hz1 := hz.lt
  go_enter Tryd.func33, Tryd.ntmps33
  go_wp2_with (refine wpList_alloc_zero rfl 40 rfl _ zero40 ?_; simp only [Act.put, List.setIfInBounds_toArray, List.set_cons_succ, List.set_cons_zero, World.size_alloc])
  obtain ⟨W, hW, h0, h1, hb, HS⟩ := pack2 w (arr .u16 256 f) (arr .u16 256 fun _ => 0) 45 40
  rw [← hW]
  clear hW HS
  go_wp2_with fail
  go_loopw [3, 4, 5, 6, 7, 8, 9, 10] (fun kk ll _ _ _ _ _ _ wr => ∃ s : Nat, s ≤ 7 ∧ kk = .int .i64 (2 ^ s : Nat) ∧ ll = .int .i64 (Ln s : Nat) ∧ Below w.heap.size w wr ∧ Has wr w.heap.size (arr .u16 256 (lay f s)) 45 ∧ Has wr (w.heap.size + 1) (arr .u16 256 fun _ => 0) 40) (fun _ ll _ _ _ _ _ _ _ => (intOf ll).toNat)
  case atStart => exact ⟨0, by omega, rfl, rfl, hb, h0, h1⟩
  case round =>
    obtain ⟨s, hs, rfl, rfl, hb, h0, h1⟩ := hrel
    by_cases hs7 : s < 7
    · obtain ⟨l1, _, l3, l4⟩ := Ln_two s hs7
      obtain ⟨n1, n2⟩ := mid_nums s hs7
      have LR := Lib.hid (lay_red f HF.out s hs)
      have ES := Lib.hid (show lay f (s + 1) = midl (lay f s) (Ln s) (2 ^ s) (2 ^ s) from rfl)
      have EL := Lib.hid (show Ln (s + 1) = Ln s / 2 by omega)
      have EP := Lib.hid (show (2 ^ (s + 1) : Nat) = 2 ^ s + 2 ^ s by rw [Nat.pow_succ]; omega)
      have ST := Lib.hid fun n hn => mid_st s n hs7 hn
      generalize Ln s = L at *
      generalize 2 ^ s = k0 at *
      generalize lay f s = F at *
      obtain ⟨wo, rfl⟩ : ∃ wo : World, wo = wr := ⟨_, rfl⟩
      clear l1
      have g1 : decide ((2 : Int) ≤ (L : Int)) = true := by simp; omega
      go_wp2_with fail
      go_loopw [3, 5, 6, 7, 8, 9, 10] (fun kk ss _ _ _ _ _ wr => ∃ n : Nat, n ≤ k0 ∧ kk = .int .i64 (k0 + n : Nat) ∧ ss = .int .i64 (2 * L * n : Nat) ∧ Below w.heap.size w wr ∧ Has wr w.heap.size (arr .u16 256 (midl F L k0 n)) 45 ∧ Has wr (w.heap.size + 1) (arr .u16 256 fun _ => 0) 40) (fun _ ss _ _ _ _ _ _ => 256 - (intOf ss).toNat)
      case atStart => exact ⟨0, by omega, rfl, rfl, hb, h0, h1⟩
      case round =>
        obtain ⟨n, hn, rfl, rfl, hb, h0, h1⟩ := hrel
        by_cases hnk : n < k0
        · have hst := ST.out n hnk
          have MR := Lib.hid (midl_all F L k0 n LR.out)
          have EM := Lib.hid (show midl F L k0 (n + 1) = inner (midl F L k0 n) L (2 * L * n) (zet (k0 + n)) L from rfl)
          have EN := Lib.hid (show 2 * L * (n + 1) = 2 * L * n + 2 * L by rw [Nat.mul_add, Nat.mul_one])
          have hk : k0 + n < 128 := by omega
          have cz := (hz.below hb hz1).out (k0 + n) hk
          obtain ⟨z0, z1⟩ := zet_bd (k0 + n)
          have EK := Lib.hid (show k0 + (n + 1) = k0 + n + 1 by omega)
          generalize zet (k0 + n) = z at *
          generalize k0 + n = kk at *
          generalize 2 * L * n = st at *
          generalize midl F L k0 n = G at *
          have q0 : ((kk : Int)).toNat = kk := by omega
          have q1 : (0 : Int) ≤ (st : Int) := by omega
          have q2 : (st : Int) + (L : Int) ≤ 256 := by omega
          have q3 : (st : Int) + (L : Int) + (L : Int) ≤ 256 := by omega
          have y0 : IntKind.i64.wrap ((st : Int) + (L : Int)) = (st : Int) + (L : Int) := IntWalk.i64_in _ (by omega)
          have y1 : IntKind.i64.wrap ((st : Int) + (L : Int) + (L : Int)) = (st : Int) + (L : Int) + (L : Int) := IntWalk.i64_in _ (by omega)
          have y2 : ((st : Int) + (L : Int)).toNat = st + L := by omega
          have y3 : ((st : Int) + (L : Int) + (L : Int)).toNat = st + L + L := by omega
          obtain ⟨wo, rfl⟩ : ∃ wo : World, wo = wr := ⟨_, rfl⟩
          go_wp2_with fail
          refine wp_region_quiet_lit (by kernel_rfl) (by kernel_rfl) ?_
          iterate 4 (quiet_step (fail))
          refine quiet_val rfl (.slice (some ⟨w.heap.size, st, none⟩) L (256 - st)) (fun W => ?_) ?_
          · exact slice_run45 W w.heap.size st (st + L) L _ _ rfl (by omega) (by omega) (by omega) (by omega)
          simp only [Act.put, List.setIfInBounds_toArray, List.set_cons_succ, List.set_cons_zero]
          iterate 8 (quiet_step (fail))
          refine quiet_val rfl (.slice (some ⟨w.heap.size, st + L, none⟩) L (256 - (st + L))) (fun W => ?_) ?_
          · exact slice_run45 W w.heap.size (st + L) (st + L + L) L _ _ (by omega) (by omega) (by omega) (by omega) (by omega)
          simp only [Act.put, List.setIfInBounds_toArray, List.set_cons_succ, List.set_cons_zero]
          iterate 2 (quiet_step (fail))
          refine wpQuiet_nil ?_
          intro _ hw'
          obtain ⟨nq, hw''⟩ := hw'
          subst hw''
          have d0 := h0.drewN nq
          have d1 := h1.drewN nq
          have db : Below w.heap.size w (wo.drewN nq) := ⟨hb.os, hb.tape, hb.output, hb.size, hb.block⟩
          clear h0 h1 hb cz y0 y1 y2 y3 q2 q3
          generalize wo.drewN nq = wi at *
          go_wp2_with fail
          go_loopw [9, 10] (fun jj _ wr => ∃ j : Nat, j ≤ L ∧ jj = .int .i64 (j : Nat) ∧ Below w.heap.size w wr ∧ Has wr w.heap.size (arr .u16 256 (inner G L st z j)) 45 ∧ Has wr (w.heap.size + 1) (arr .u16 256 fun _ => 0) 40) (fun jj _ _ => L - (intOf jj).toNat)
          case atStart => exact ⟨0, by omega, rfl, db, d0, d1⟩
          case round =>
            obtain ⟨j, hj, rfl, hb, h0, h1⟩ := hrel
            by_cases hjl : j < L
            · obtain ⟨a0, a1⟩ := inner_red G L st z MR.out j hj (st + j) (by omega)
              obtain ⟨b0, b1⟩ := inner_red G L st z MR.out j hj (st + L + j) (by omega)
              have EI := Lib.hid (show inner G L st z (j + 1) = upd (upd (inner G L st z j) (st + L + j) ((inner G L st z j (st + j) + 3329 - (z * inner G L st z j (st + L + j)) % 3329) % 3329)) (st + j) ((inner G L st z j (st + j) + (z * inner G L st z j (st + L + j)) % 3329) % 3329) from rfl)
              have c0 := h0.cell (st + j) (by omega)
              have c1 := h0.cell (st + L + j) (by omega)
              have f0 := h0.free (st + j)
              have f1 := h0.free (st + L + j)
              generalize inner G L st z j = K at *
              have c2 : ∀ x : Int, (wr.setCell ⟨w.heap.size, st + L + j, none⟩ (.int .u16 x)).cell? ⟨w.heap.size, st + j, none⟩ = some (.int .u16 (K (st + j))) := fun x => by
                have h := (h0.set (st + L + j) x).cell (st + j) (by omega)
                rw [upd_other _ _ _ _ (by omega)] at h
                exact h
              have f2 : ∀ x : Int, (wr.setCell ⟨w.heap.size, st + L + j, none⟩ (.int .u16 x)).frozen? ⟨w.heap.size, st + j, none⟩ = false := fun x => (h0.set (st + L + j) x).free (st + j)
              generalize hA : K (st + j) = A at *
              generalize hD : K (st + L + j) = D at *
              clear hA hD
              obtain ⟨m0, m1⟩ := mul_bd z D 3328 3328 z0 (by omega) b0 (by omega)
              have M1 := Lib.hid (show (A + 3329 - z * D % 3329) % 3329 = (A + 3329 - z * D) % 3329 by omega)
              have M2 := Lib.hid (show (A + z * D % 3329) % 3329 = (A + z * D) % 3329 by omega)
              go_wp2_with (first | (go_at_call 38; refine (fieldMul_any z D _ z0 z1 b0 b1).mono ?_; rintro e w1 ⟨rfl, rfl⟩) | (go_at_call 39; refine (fieldSub_any A _ _ a0 a1 (by omega) (by omega)).mono ?_; rintro e w1 ⟨rfl, rfl⟩) | (go_at_call 40; refine (fieldAdd_any A _ _ a0 a1 (by omega) (by omega)).mono ?_; rintro e w1 ⟨rfl, rfl⟩))
              go_roundw
              case rel => exact ⟨j + 1, by omega, by go_num, below_set (below_set hb _ _ (by omega) _) _ _ (by omega) _, by rw [EI.out, M1.out, M2.out]; exact (h0.set _ _).set _ _, (h1.other _ _ _ (by omega)).other _ _ _ (by omega)⟩
              case measure => simp [intOf]; omega
            · obtain rfl : j = L := by omega
              go_wp2_with fail
              go_roundw
              case rel => exact ⟨n + 1, by omega, by rw [EK.out]; go_num, by rw [EN.out]; go_num, hb, by rw [EM.out]; exact h0, h1⟩
              case measure => simp [intOf]; omega
        · obtain rfl : n = k0 := by omega
          rw [n1] at *
          go_wp2_with fail
          go_roundw
          case rel => exact ⟨s + 1, by omega, by rw [EP.out], by rw [EL.out]; go_num, hb, by rw [ES.out]; exact h0, h1⟩
          case measure => simp [intOf]; omega
    · obtain rfl : s = 7 := by omega
      have E7 := Lib.hid (show nttv f = lay f 7 from rfl)
      rw [show Ln 7 = 1 from by decide] at *
      generalize lay f 7 = F at *
      go_wp2_with (first | (refine ld_arr rfl 45 _ rfl w.heap.size rfl 45 .u16 256 _ _ h0.out Tryd.underlying45 size45 ?_) | (refine st_arr rfl 40 _ _ rfl (w.heap.size + 1) rfl .u16 256 _ rfl 40 .u16 _ h1.out size40 ?_))
      rw [E7.out]
      exact bodyPost_ret (res_arr rfl _ _ (w.heap.size + 1) 40 .u16 256 _ _ rfl (h1.row _).out Tryd.underlying40 size40) rfl ⟨rfl, Below.setRow hb _ (by omega) _⟩
end Go.Proofs.YtcglkelhklihgaaDoor
