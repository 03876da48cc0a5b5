/-
  inverseNTT: the layers of the inverse transform. Conditions: all numbers are below 3329; the variable zetas holds the table.
-/
import Derived.Test.YtcglkelhklihgaaDoorNtf
import Derived.Test.YtcglkelhklihgaaDoorInv
namespace Go.Proofs.YtcglkelhklihgaaDoor
open Go.RowKit

/-- f[lo:hi] of an array variable. -/
theorem slice_run40 (W : World) (b lo hi n : Nat) (x y : Int) (hx : x = (lo : Int)) (hy : y = (hi : Int)) (hn : hi = lo + n) (h1 : hi ≤ 256) (h2 : lo < 256) :
    (do let v ← Instr.sliceAt 40 (.pointer (some ⟨b, 0, none⟩)) (some (.int .i64 x)) (some (.int .i64 y)) Option.none; pure (Next.value v) : Sem Next).run Tryd.prog W = .ok (.value (.slice (some ⟨b, lo, none⟩) n (256 - lo))) W := by
  subst hx hy
  have hs : (sizeOf 38).run Tryd.prog W = .ok 1 W := by kernel_rfl
  have hu : (underlying 40).run Tryd.prog W = .ok (.array 256 38) W := by kernel_rfl
  have ha : (⟨b, 0, none⟩ : Addr).add lo = ⟨b, lo, none⟩ := by unfold Addr.add; split <;> simp_all
  have e2 : lo ≤ hi := by omega
  have e3 : hi - lo = n := by omega
  have e4 : ¬ 256 = lo := by omega
  simp [Instr.sliceAt, Instr.sliceBounds, Instr.sliceBound, Instr.sureAddr, asIntOf, Sem.run_bind, hu, hs, h1, e2, e3, e4, ha]

theorem innerI_red (F : Nat → Int) (L st : Nat) (z : Int) (hF : ∀ i, i < 256 → 0 ≤ F i ∧ F i < 3329) (j : Nat) (hj : j ≤ L) : ∀ m, m < 256 → 0 ≤ innerI F L st z j m ∧ innerI F L st z j m < 3329 := by
  intro m hm
  rw [innerI_at F L st z j hj m]
  split
  · omega
  · split
    · omega
    · exact hF m hm
theorem midI_all (F : Nat → Int) (L kk n : Nat) (hF : ∀ i, i < 256 → 0 ≤ F i ∧ F i < 3329) : ∀ m, m < 256 → 0 ≤ midI F L kk n m ∧ midI F L kk n m < 3329 := by
  induction n with
  | zero => exact hF
  | succ n ih => exact innerI_red _ L _ _ ih L (Nat.le_refl _)
theorem inv_nums : ∀ i, i < 7 → 2 * 2 ^ (i + 1) * 2 ^ (6 - i) = 256 ∧ 2 ^ (6 - i) ≤ 64 ∧ 2 ^ (7 - i) = 2 * 2 ^ (6 - i) ∧ 2 ≤ 2 ^ (i + 1) ∧ 2 ^ (i + 1) ≤ 128 ∧ 1 ≤ 2 ^ (6 - i) := by decide
theorem inv_st (i n : Nat) (hi : i < 7) (hn : n < 2 ^ (6 - i)) : 2 * 2 ^ (i + 1) * n + 2 * 2 ^ (i + 1) ≤ 256 := by
  have h1 : 2 * 2 ^ (i + 1) * (n + 1) ≤ 2 * 2 ^ (i + 1) * 2 ^ (6 - i) := Nat.mul_le_mul_left _ hn
  rw [(inv_nums i hi).1, Nat.mul_add, Nat.mul_one] at h1
  exact h1
/-- Scaled as far as k. -/
def scl (F : Nat → Int) (k : Nat) : Nat → Int := fun m => if m < k then (F m * 3303) % 3329 else F m
theorem scl_succ (F : Nat → Int) (k : Nat) : upd (scl F k) k ((F k * 3303) % 3329) = scl F (k + 1) := by
  funext m
  simp only [upd, scl]
  by_cases h : m = k
  · subst h; simp
  · have : (m < k + 1) = (m < k) := by simp; omega
    simp [h, this]
theorem scl_at (F : Nat → Int) (k : Nat) : scl F k k = F k := by simp [scl]
set_option maxRecDepth 100000 in
set_option maxHeartbeats 1000000 in
theorem inverseNTT_any (f : Nat → Int) (w : World) (hf : ∀ i, i < 256 → 0 ≤ f i ∧ f i < 3329) (hz : Tab w 1 zet) :
    Calls Tryd.prog 34 #[.agg (arr .u16 256 f)] w fun e w' => e = .returned (.agg (arr .u16 256 (invv f))) ∧ Below w.heap.size w w' := by
  have HF := Lib.hid hf; clear hf
  have hz1 := hz.lt
  go_enter Tryd.func34, Tryd.ntmps34
  go_wp2_with (refine wpList_alloc_zero rfl 45 rfl _ zero45 ?_; simp only [Act.put, List.setIfInBounds_toArray, List.set_cons_succ, List.set_cons_zero, World.size_alloc])
  obtain ⟨W, hW, h0, h1, hb, HS⟩ := pack2 w (arr .u16 256 f) (arr .u16 256 fun _ => 0) 40 45
  rw [← hW]
  clear hW HS
  go_wp2_with fail
  go_loopw [3, 4, 5, 6, 7, 8, 9, 10] (fun kk ll _ _ _ _ _ _ wr => ∃ i : Nat, i ≤ 7 ∧ kk = .int .i64 (2 ^ (7 - i) - 1 : Nat) ∧ ll = .int .i64 (2 ^ (i + 1) : Nat) ∧ Below w.heap.size w wr ∧ Has wr w.heap.size (arr .u16 256 (layI f i)) 40 ∧ Has wr (w.heap.size + 1) (arr .u16 256 fun _ => 0) 45) (fun _ ll _ _ _ _ _ _ _ => 256 - (intOf ll).toNat)
  case atStart => exact ⟨0, by omega, rfl, rfl, hb, h0, h1⟩
  case round =>
    obtain ⟨i, hi, rfl, rfl, hb, h0, h1⟩ := hrel
    by_cases hi7 : i < 7
    · obtain ⟨n1, n2, n3, l3, l4, n4⟩ := inv_nums i hi7
      have LR := Lib.hid (layI_red f HF.out i hi)
      have ES := Lib.hid (show layI f (i + 1) = midI (layI f i) (2 ^ (i + 1)) (2 ^ (7 - i) - 1) (2 ^ (6 - i)) from rfl)
      have EL := Lib.hid (show (2 ^ (i + 1 + 1) : Nat) = 2 ^ (i + 1) * 2 from Nat.pow_succ _ _)
      have EP := Lib.hid (show (2 ^ (7 - (i + 1)) - 1 : Nat) = 2 ^ (7 - i) - 1 - 2 ^ (6 - i) by rw [show 7 - (i + 1) = 6 - i from by omega, n3]; omega)
      have ST := Lib.hid fun n hn => inv_st i n hi7 hn
      generalize hL : 2 ^ (i + 1) = L at *
      generalize hK : 2 ^ (7 - i) - 1 = kk at *
      have hK2 : kk + 1 = 2 * 2 ^ (6 - i) := by omega
      clear hL hK n3
      generalize 2 ^ (6 - i) = N at *
      generalize layI f i = F at *
      obtain ⟨wo, rfl⟩ : ∃ wo : World, wo = wr := ⟨_, rfl⟩
      have HK2 := Lib.hid hK2; clear hK2
      have kb1 : 2 * N ≤ kk + 1 := by have := HK2.out; omega
      have kb2 : kk + 1 ≤ 2 * N := by have := HK2.out; omega
      have g1 : decide ((L : Int) ≤ 128) = true := by simp; omega
      go_wp2_with fail
      go_loopw [3, 5, 6, 7, 8, 9, 10] (fun ks ss _ _ _ _ _ wr => ∃ n : Nat, n ≤ N ∧ ks = .int .i64 (kk - n : Nat) ∧ ss = .int .i64 (2 * L * n : Nat) ∧ Below w.heap.size w wr ∧ Has wr w.heap.size (arr .u16 256 (midI F L kk n)) 40 ∧ Has wr (w.heap.size + 1) (arr .u16 256 fun _ => 0) 45) (fun _ ss _ _ _ _ _ _ => 256 - (intOf ss).toNat)
      case atStart => exact ⟨0, by omega, rfl, rfl, hb, h0, h1⟩
      case round =>
        obtain ⟨n, hn, rfl, rfl, hb, h0, h1⟩ := hrel
        by_cases hnk : n < N
        · have hst := ST.out n hnk
          have MR := Lib.hid (midI_all F L kk n LR.out)
          have EM := Lib.hid (show midI F L kk (n + 1) = innerI (midI F L kk n) L (2 * L * n) (zet (kk - n)) L from rfl)
          have EN := Lib.hid (show 2 * L * (n + 1) = 2 * L * n + 2 * L by rw [Nat.mul_add, Nat.mul_one])
          have hk : kk - n < 128 := by omega
          have hkp : 1 ≤ kk - n := by omega
          have cz := (hz.below hb hz1).out (kk - n) hk
          obtain ⟨z0, z1⟩ := zet_bd (kk - n)
          have EK := Lib.hid (show kk - (n + 1) = kk - n - 1 by omega)
          generalize zet (kk - n) = z at *
          generalize kk - n = kn at *
          generalize 2 * L * n = st at *
          generalize midI F L kk n = G at *
          have q0 : ((kn : Int)).toNat = kn := by omega
          have q1 : (0 : Int) ≤ (st : Int) := by omega
          have q2 : (st : Int) + (L : Int) ≤ 256 := by omega
          have q3 : (st : Int) + (L : Int) + (L : Int) ≤ 256 := by omega
          have y0 : IntKind.i64.wrap ((st : Int) + (L : Int)) = (st : Int) + (L : Int) := IntWalk.i64_in _ (by omega)
          have y1 : IntKind.i64.wrap ((st : Int) + (L : Int) + (L : Int)) = (st : Int) + (L : Int) + (L : Int) := IntWalk.i64_in _ (by omega)
          have y2 : ((st : Int) + (L : Int)).toNat = st + L := by omega
          have y3 : ((st : Int) + (L : Int) + (L : Int)).toNat = st + L + L := by omega
          obtain ⟨wo, rfl⟩ : ∃ wo : World, wo = wr := ⟨_, rfl⟩
          go_wp2_with fail
          refine wp_region_quiet_lit (by kernel_rfl) (by kernel_rfl) ?_
          iterate 4 (quiet_step (fail))
          refine quiet_val rfl (.slice (some ⟨w.heap.size, st, none⟩) L (256 - st)) (fun W => ?_) ?_
          · exact slice_run40 W w.heap.size st (st + L) L _ _ rfl (by omega) (by omega) (by omega) (by omega)
          simp only [Act.put, List.setIfInBounds_toArray, List.set_cons_succ, List.set_cons_zero]
          iterate 8 (quiet_step (fail))
          refine quiet_val rfl (.slice (some ⟨w.heap.size, st + L, none⟩) L (256 - (st + L))) (fun W => ?_) ?_
          · exact slice_run40 W w.heap.size (st + L) (st + L + L) L _ _ (by omega) (by omega) (by omega) (by omega) (by omega)
          simp only [Act.put, List.setIfInBounds_toArray, List.set_cons_succ, List.set_cons_zero]
          iterate 2 (quiet_step (fail))
          refine wpQuiet_nil ?_
          intro _ hw'
          obtain ⟨nq, hw''⟩ := hw'
          subst hw''
          have d0 := h0.drewN nq
          have d1 := h1.drewN nq
          have db : Below w.heap.size w (wo.drewN nq) := ⟨hb.os, hb.tape, hb.output, hb.size, hb.block⟩
          clear h0 h1 hb cz y0 y1 y2 y3 q2 q3
          generalize wo.drewN nq = wi at *
          go_wp2_with fail
          go_loopw [9, 10] (fun jj _ wr => ∃ j : Nat, j ≤ L ∧ jj = .int .i64 (j : Nat) ∧ Below w.heap.size w wr ∧ Has wr w.heap.size (arr .u16 256 (innerI G L st z j)) 40 ∧ Has wr (w.heap.size + 1) (arr .u16 256 fun _ => 0) 45) (fun jj _ _ => L - (intOf jj).toNat)
          case atStart => exact ⟨0, by omega, rfl, db, d0, d1⟩
          case round =>
            obtain ⟨j, hj, rfl, hb, h0, h1⟩ := hrel
            by_cases hjl : j < L
            · obtain ⟨a0, a1⟩ := innerI_red G L st z MR.out j hj (st + j) (by omega)
              obtain ⟨b0, b1⟩ := innerI_red G L st z MR.out j hj (st + L + j) (by omega)
              have EI := Lib.hid (show innerI G L st z (j + 1) = upd (upd (innerI G L st z j) (st + j) ((innerI G L st z j (st + j) + innerI G L st z j (st + L + j)) % 3329)) (st + L + j) ((z * (innerI G L st z j (st + L + j) + 3329 - innerI G L st z j (st + j))) % 3329) from rfl)
              have c0 := h0.cell (st + j) (by omega)
              have c1 := h0.cell (st + L + j) (by omega)
              have f0 := h0.free (st + j)
              have f1 := h0.free (st + L + j)
              generalize innerI G L st z j = K at *
              have c2 : ∀ x : Int, (wr.setCell ⟨w.heap.size, st + j, none⟩ (.int .u16 x)).cell? ⟨w.heap.size, st + L + j, none⟩ = some (.int .u16 (K (st + L + j))) := fun x => by
                have h := (h0.set (st + j) x).cell (st + L + j) (by omega)
                rw [upd_other _ _ _ _ (by omega)] at h
                exact h
              have f2 : ∀ x : Int, (wr.setCell ⟨w.heap.size, st + j, none⟩ (.int .u16 x)).frozen? ⟨w.heap.size, st + L + j, none⟩ = false := fun x => (h0.set (st + j) x).free (st + L + j)
              generalize hA : K (st + j) = A at *
              generalize hD : K (st + L + j) = D at *
              clear hA hD
              obtain ⟨m0, m1⟩ := mul_bd z (D + 3329 - A) 3328 6657 z0 (by omega) (by omega) (by omega)
              go_wp2_with (first | (go_at_call 40; refine (fieldAdd_any A D _ a0 a1 b0 b1).mono ?_; rintro e w1 ⟨rfl, rfl⟩) | (go_at_call 41; refine (fieldMulSub_any z D A _ z0 z1 b0 b1 a0 a1).mono ?_; rintro e w1 ⟨rfl, rfl⟩))
              go_roundw
              case rel => exact ⟨j + 1, by omega, by go_num, below_set (below_set hb _ _ (by omega) _) _ _ (by omega) _, by rw [EI.out]; exact (h0.set _ _).set _ _, (h1.other _ _ _ (by omega)).other _ _ _ (by omega)⟩
              case measure => simp [intOf]; omega
            · obtain rfl : j = L := by omega
              go_wp2_with fail
              go_roundw
              case rel => exact ⟨n + 1, by omega, by rw [EK.out]; go_num, by rw [EN.out]; go_num, hb, by rw [EM.out]; exact h0, h1⟩
              case measure => simp [intOf]; omega
        · obtain rfl : n = N := by omega
          rw [n1] at *
          go_wp2_with fail
          go_roundw
          case rel => exact ⟨i + 1, by omega, by rw [EP.out], by rw [EL.out]; go_num, hb, by rw [ES.out]; exact h0, h1⟩
          case measure => simp [intOf]; omega
    · obtain rfl : i = 7 := by omega
      have E7 := Lib.hid (show invv f = fun m => (layI f 7 m * 3303) % 3329 from rfl)
      have LR := Lib.hid (layI_red f HF.out 7 (by omega))
      generalize layI f 7 = F at *
      rw [show ((2 ^ (7 + 1) : Nat) : Int) = 256 from rfl, show ((2 ^ (7 - 7) - 1 : Nat) : Int) = 0 from rfl]
      go_wp2_with fail
      go_loopw [11, 69] (fun _ ii wr => ∃ k : Nat, k ≤ 256 ∧ ii = .int .i64 k ∧ Below w.heap.size w wr ∧ Has wr w.heap.size (arr .u16 256 (scl F k)) 40 ∧ Has wr (w.heap.size + 1) (arr .u16 256 fun _ => 0) 45) (fun _ ii _ => 256 - (intOf ii).toNat)
      case atStart => exact ⟨0, by omega, rfl, hb, by rw [show scl F 0 = F from funext fun m => by simp [scl]]; exact h0, h1⟩
      case round =>
        obtain ⟨k, hk, rfl, hb, h0, h1⟩ := hrel
        by_cases hlt : k < 256
        · obtain ⟨a0, a1⟩ := LR.out k hlt
          have c0 := h0.cell k hlt
          rw [scl_at] at c0
          have f0 := h0.free k
          obtain ⟨m0, m1⟩ := mul_bd (F k) 3303 3328 3303 a0 (by omega) (by omega) (by omega)
          go_wp2_with (go_at_call 38; refine (fieldMul_any (F k) 3303 _ a0 a1 (by omega) (by omega)).mono ?_; rintro e w1 ⟨rfl, rfl⟩)
          go_roundw
          case rel => exact ⟨k + 1, by omega, by go_num, below_set hb _ _ (by omega) _, by rw [← scl_succ]; exact h0.set _ _, h1.other _ _ _ (by omega)⟩
          case measure => simp [intOf]; omega
        · obtain rfl : k = 256 := by omega
          go_wp2_with (first | (refine ld_arr rfl 40 _ rfl w.heap.size rfl 40 .u16 256 _ _ h0.out Tryd.underlying40 size40 ?_) | (refine st_arr rfl 45 _ _ rfl (w.heap.size + 1) rfl .u16 256 _ rfl 45 .u16 _ h1.out size45 ?_))
          refine bodyPost_ret (res_arr rfl _ _ (w.heap.size + 1) 45 .u16 256 _ _ rfl (h1.row _).out Tryd.underlying45 size45) rfl ⟨?_, Below.setRow hb _ (by omega) _⟩
          rw [E7.out, arr_congr (k := .u16) (n := 256) (g := scl F 256) (g' := fun m => (F m * 3303) % 3329) (fun i hi => by simp only [scl]; rw [if_pos hi])]
end Go.Proofs.YtcglkelhklihgaaDoor
