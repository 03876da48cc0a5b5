/-
  spec.Digits: the numbers of d bits each that bytes tell. Conditions: 32 d bytes; d is 1 to 12.
-/
import Derived.Test.YtghngfeacpamhaaByt
namespace Go.Proofs.Ytghngfeacpamhaa
open Go.RowKit

theorem and1_u8 (x : Int) (h0 : 0 ≤ x) (h1 : x < 256) : bits .and .u8 x 1 = x % 2 := by
  rw [u8_and x 1 h0 h1 (by omega) (by omega), show (1 : Int).toNat = 1 from rfl, nat_mask1]; omega
theorem dig_upto (B : Nat → Int) (d k : Nat) : upd (upto (dig B d) k) k (bts B (k * d) d) = upto (dig B d) (k + 1) := upto_succ (dig B d) k
theorem upd_upd (f : Nat → Int) (i : Nat) (x y : Int) : upd (upd f i x) i y = upd f i y := by
  funext m; by_cases h : m = i
  · subst h; rw [upd_self, upd_self]
  · rw [upd_other _ _ _ _ h, upd_other _ _ _ _ h, upd_other _ _ _ _ h]
theorem upd_none (f : Nat → Int) (i : Nat) : upd f i (f i) = f := by
  funext m; by_cases h : m = i
  · subst h; rw [upd_self]
  · rw [upd_other _ _ _ _ h]
set_option maxRecDepth 100000 in
set_option maxHeartbeats 1000000 in
theorem specDigits_any (v : Value) (g : Nat → Int) (d : Nat) (w : World) (d0 : 1 ≤ d) (d1 : d ≤ 12) (hv : Bys w v (32 * d) g) (hg : ∀ i, i < 32 * d → 0 ≤ g i ∧ g i < 256) :
    Calls Try.prog 17 #[v, .int .i64 d] w fun e w' => e = .returned (.agg (arr .i64 256 (dig (strm g 8) d))) ∧ Below w.heap.size w w' := by
  have HG := Lib.hid hg; clear hg
  obtain ⟨b, off, cap, rfl, _, hc0⟩ := hv.out
  clear hv
  have HC := Lib.hid hc0; clear hc0
  have SB := Lib.hid (strm_bd g 8)
  have hN : Has ((w.alloc (.cells (arr .i64 256 fun _ => 0) 25)).alloc (.cells (arr .i64 256 fun _ => 0) 25)) (w.heap.size + 1) (arr .i64 256 fun _ => 0) 25 := by
    have := Has.new (w.alloc (.cells (arr .i64 256 fun _ => 0) 25)) (arr .i64 256 fun _ => 0) 25
    rwa [World.size_alloc] at this
  go_enter Try.func17, Try.ntmps17
  go_wp2_with (first | (refine wpList_alloc_zero rfl 25 rfl _ zero25 ?_; simp only [Act.put, List.setIfInBounds_toArray, List.set_cons_succ, List.set_cons_zero, World.size_alloc]) | (refine wpList_build_zero rfl 25 rfl _ built25 ?_; simp only [Act.put, List.setIfInBounds_toArray, List.set_cons_succ, List.set_cons_zero, World.size_alloc]) | (refine st_arr rfl 25 _ _ rfl (w.heap.size + 1) rfl .i64 256 _ rfl 25 .i64 _ hN.out size25 ?_; simp only [Act.put, List.setIfInBounds_toArray, List.set_cons_succ, List.set_cons_zero, World.size_alloc]))
  obtain ⟨W, hW, h0, h1, hw⟩ : ∃ W, W = ((w.alloc (.cells (arr .i64 256 fun _ => 0) 25)).alloc (.cells (arr .i64 256 fun _ => 0) 25)).setRow (w.heap.size + 1) (arr .i64 256 fun _ => 0) ∧ Has W w.heap.size (arr .i64 256 fun _ => 0) 25 ∧ Has W (w.heap.size + 1) (arr .i64 256 fun _ => 0) 25 ∧ Below w.heap.size w W :=
    ⟨_, rfl, (Has.alloc (Has.new _ _ _) _).row_other _ _ (by omega), hN.row _, Below.setRow (((Below.refl _ _).alloc (Nat.le_refl _) _).alloc (by simp only [World.size_alloc]; omega) _) _ (by omega) _⟩
  rw [← hW]
  clear hW hN
  go_loopw [6, 7, 8] (fun i _ _ wr => ∃ k : Nat, k ≤ 256 ∧ i = .int .i64 k ∧ Below w.heap.size w wr ∧ Has wr w.heap.size (arr .i64 256 fun _ => 0) 25 ∧ Has wr (w.heap.size + 1) (arr .i64 256 (upto (dig (strm g 8) d) k)) 25) (fun i _ _ _ => 256 - (intOf i).toNat)
  case atStart => exact ⟨0, by omega, rfl, hw, h0, by rw [upto_zero]; exact h1⟩
  case round =>
    obtain ⟨k, hk, rfl, hb, h0, h1⟩ := hrel
    by_cases hlt : k < 256
    · have hkd : k * d + d ≤ 256 * d := by rw [← Nat.succ_mul]; exact Nat.mul_le_mul_right d hlt
      have hlt' : (k : Int) < 256 := by omega
      go_wp2_with fail
      go_loopw [7, 8] (fun j _ wr => ∃ c : Nat, c ≤ d ∧ j = .int .i64 c ∧ Below w.heap.size w wr ∧ Has wr w.heap.size (arr .i64 256 fun _ => 0) 25 ∧ Has wr (w.heap.size + 1) (arr .i64 256 (upd (upto (dig (strm g 8) d) k) k (bts (strm g 8) (k * d) c))) 25) (fun j _ _ => d - (intOf j).toNat)
      case atStart => exact ⟨0, by omega, rfl, hb, h0, by rw [show bts (strm g 8) (k * d) 0 = upto (dig (strm g 8) d) k k by simp [bts, upto], upd_none]; exact h1⟩
      case round =>
        obtain ⟨c, hc, rfl, hb, h0, h1⟩ := hrel
        by_cases hcd : c < d
        · have ce : (k : Int) * (d : Int) + (c : Int) = ((k * d + c : Nat) : Int) := by rw [Int.natCast_add, Int.natCast_mul]
          have cf : (k : Int) * (d : Int) = ((k * d : Nat) : Int) := by rw [Int.natCast_mul]
          have y0 : IntKind.i64.wrap ((k : Int) * (d : Int)) = (k : Int) * (d : Int) := IntWalk.i64_in _ (by rw [cf]; omega)
          have y1 : IntKind.i64.wrap ((k : Int) * (d : Int) + (c : Int)) = (k : Int) * (d : Int) + (c : Int) := IntWalk.i64_in _ (by rw [ce]; omega)
          clear cf
          have CE := Lib.hid ce; clear ce
          go_wp2_with fail
          rw [CE.out]
          clear CE y0 y1
          have hbt := bts_bd (strm g 8) SB.out (k * d) c
          have EB := Lib.hid (show bts (strm g 8) (k * d) (c + 1) = bts (strm g 8) (k * d) c + strm g 8 (k * d + c) * 2 ^ c from rfl)
          generalize hn : k * d + c = n at *
          have hn2 : n < 3072 := by omega
          have hn3 : n / 8 < 32 * d := by omega
          have q0 : (n : Int).tdiv 8 = (n : Int) / 8 := Int.tdiv_eq_ediv_of_nonneg (by omega)
          have q1 : (n : Int).tmod 8 = (n : Int) % 8 := Int.tmod_eq_emod_of_nonneg (by omega)
          have c1 := h1.cell k hlt
          rw [upd_self] at c1
          have c2 : wr.cell? ⟨b, off + n / 8, none⟩ = some (.int .u8 (g (n / 8))) := by rw [hb.cell (p := ⟨b, off + n / 8, none⟩) (block_lt_of_cell (HC.out _ hn3))]; exact HC.out _ hn3
          have z1 := h1.free k
          obtain ⟨g0, g1⟩ := HG.out (n / 8) hn3
          have q2 : IntKind.i64.wrap ((n : Int) / 8) = (n : Int) / 8 := IntWalk.i64_in _ (by omega)
          have q3 : IntKind.i64.wrap ((n : Int) % 8) = (n : Int) % 8 := IntWalk.i64_in _ (by omega)
          have q4 : ((n : Int) / 8).toNat = n / 8 := by omega
          have q5 : ((n : Int) % 8).toNat = n % 8 := by omega
          have q6 : (0 : Int) ≤ (n : Int) / 8 := by omega
          have q7 : (n : Int) / 8 < 32 * (d : Int) := by omega
          have q8 : (0 : Int) ≤ (n : Int) % 8 := by omega
          have q9 : (n : Int) % 8 < 8 := by omega
          have SE := Lib.hid (show strm g 8 n = g (n / 8) / 2 ^ (n % 8) % 2 from rfl)
          generalize g (n / 8) = X at *
          have q10 : bits .and .u8 (X / 2 ^ (n % 8)) 1 = X / 2 ^ (n % 8) % 2 := and1_u8 _ (Int.ediv_nonneg g0 (Int.le_of_lt (two_pos _))) (by have := Int.ediv_le_self (2 ^ (n % 8)) g0; omega)
          rw [← SE.out] at q10
          have bb := SB.out n
          clear SE
          generalize strm g 8 n = bq at *
          generalize bts (strm g 8) (k * d) c = T at *
          have P8 : 0 ≤ bq * 2 ^ c ∧ bq * 2 ^ c ≤ 2048 ∧ T ≤ 2048 := by
            have hb2 : bq = 0 ∨ bq = 1 := by omega
            have hc11 : c ≤ 11 := by omega
            have h2 : (2 : Int) ^ c ≤ 2048 := by
              match c, hc11 with
              | 0, _ | 1, _ | 2, _ | 3, _ | 4, _ | 5, _ | 6, _ | 7, _ | 8, _ | 9, _ | 10, _ | 11, _ => decide
            have hp := two_pos c
            rcases hb2 with rfl | rfl <;> omega
          have r0 : IntKind.i64.wrap bq = bq := IntWalk.i64_in _ (by omega)
          have r1 : IntKind.i64.wrap (bq * 2 ^ c) = bq * 2 ^ c := IntWalk.i64_in _ (by omega)
          have r2 : IntKind.i64.wrap (T + bq * 2 ^ c) = T + bq * 2 ^ c := IntWalk.i64_in _ (by omega)
          go_still_tail 18, (by kernel_rfl)
          change wpList _ _ _ _ _ wr.drew
          have d0 := h0.drew
          have d1 := h1.drew
          have db := hb.drew
          clear h0 h1 hb c1 c2 z1
          generalize wr.drew = wd at *
          have c1 := d1.cell k hlt
          have z1 := d1.free k
          go_wp2
          go_roundw
          case rel => exact ⟨c + 1, by omega, by go_num, below_set db _ _ (by omega) _, d0.other _ _ _ (by omega), by rw [EB.out, ← upd_upd _ k T]; exact d1.set _ _⟩
          case measure => simp [intOf]; omega
        · obtain rfl : c = d := by omega
          go_wp2_with fail
          go_roundw
          case rel => exact ⟨k + 1, by omega, by go_num, hb, h0, by rw [← dig_upto]; exact h1⟩
          case measure => simp [intOf]; omega
    · obtain rfl : k = 256 := by omega
      go_wp2_with (first | (refine ld_arr rfl 25 _ rfl (w.heap.size + 1) rfl 25 .i64 256 _ _ h1.out Try.underlying25 size25 ?_; simp only [Act.put, List.setIfInBounds_toArray, List.set_cons_succ, List.set_cons_zero, World.size_alloc]) | (refine st_arr rfl 25 _ _ rfl (w.heap.size) rfl .i64 256 _ rfl 25 .i64 _ h0.out size25 ?_; simp only [Act.put, List.setIfInBounds_toArray, List.set_cons_succ, List.set_cons_zero, World.size_alloc]))
      exact bodyPost_ret (res_arr rfl _ _ (w.heap.size) 25 .i64 256 _ _ rfl (h0.row _).out Try.underlying25 size25) rfl ⟨by rw [upto_all], Below.setRow hb _ (by omega) _⟩
end Go.Proofs.Ytghngfeacpamhaa
