/-
  spec.Encode: the bytes of d bits of each number. Conditions: no number is negative; d is 1 to 12.
-/
import Derived.Test.YtghngfeacpamhaaByt
namespace Go.Proofs.Ytghngfeacpamhaa
open Go.RowKit

set_option maxRecDepth 100000 in
set_option maxHeartbeats 1000000 in
theorem specEncode_any (f : Nat → Int) (d : Nat) (w : World) (d0 : 1 ≤ d) (d1 : d ≤ 12) (hf : ∀ i, i < 256 → 0 ≤ f i ∧ f i < 65536) :
    Calls Try.prog 15 #[.agg (arr .i64 256 f), .int .i64 d] w fun e w' => ∃ v, e = .returned v ∧ Bys w' v (32 * d) (byt (strm f d)) ∧ Below w.heap.size w w' := by
  have HF := Lib.hid hf; clear hf
  obtain ⟨ti, hi0, hi1, hi2, hi3⟩ := info_parts info5
  have x0 : IntKind.i64.wrap (32 * (d : Int)) = ((32 * d : Nat) : Int) := by rw [IntWalk.i64_in _ (by omega)]; omega
  go_enter Try.func15, Try.ntmps15
  go_wp2_with (refine wpList_make_row _ rfl _ _ 29 rfl 5 ti _ Try.underlying29 hi0 hi1 hi2 rfl .i64 .i64 (32 * d) rfl rfl (by rw [hi3]; omega) (by omega) ?_; simp only [Act.put, List.setIfInBounds_toArray, List.set_cons_succ, List.set_cons_zero, World.size_alloc])
  rw [made_arr]
  obtain ⟨W, hW, h0, h1, hw, HS⟩ := pack2 w (arr .i64 256 f) (arr .u8 (32 * d) fun _ => 0) 25 5
  rw [← hW]
  clear hW HS x0
  have SB := Lib.hid (strm_bd f d)
  go_loopw [6, 7, 8] (fun i _ _ wr => ∃ k : Nat, k ≤ 256 ∧ i = .int .i64 k ∧ Below w.heap.size w wr ∧ Has wr w.heap.size (arr .i64 256 f) 25 ∧ Has wr (w.heap.size + 1) (arr .u8 (32 * d) (cut (strm f d) (k * d))) 5) (fun i _ _ _ => 256 - (intOf i).toNat)
  case atStart => exact ⟨0, by omega, rfl, hw, h0, by rw [Nat.zero_mul, cut_zero]; exact h1⟩
  case round =>
    obtain ⟨k, hk, rfl, hb, h0, h1⟩ := hrel
    by_cases hlt : k < 256
    · obtain ⟨f0, f1⟩ := HF.out k hlt
      have hkd : k * d + d ≤ 256 * d := by rw [← Nat.succ_mul]; exact Nat.mul_le_mul_right d hlt
      have hlt' : (k : Int) < 256 := by omega
      go_wp2_with fail
      go_loopw [7, 8] (fun j _ wr => ∃ c : Nat, c ≤ d ∧ j = .int .i64 c ∧ Below w.heap.size w wr ∧ Has wr w.heap.size (arr .i64 256 f) 25 ∧ Has wr (w.heap.size + 1) (arr .u8 (32 * d) (cut (strm f d) (k * d + c))) 5) (fun j _ _ => d - (intOf j).toNat)
      case atStart => exact ⟨0, by omega, rfl, hb, h0, h1⟩
      case round =>
        obtain ⟨c, hc, rfl, hb, h0, h1⟩ := hrel
        by_cases hcd : c < d
        · have SE := Lib.hid (show strm f d (k * d + c) = f k / 2 ^ c % 2 by
            unfold strm bt
            rw [Nat.mul_comm k d, Nat.mul_add_div (by omega), Nat.div_eq_of_lt hcd, Nat.mul_add_mod, Nat.mod_eq_of_lt hcd]; rfl)
          have ce : (k : Int) * (d : Int) + (c : Int) = ((k * d + c : Nat) : Int) := by rw [Int.natCast_add, Int.natCast_mul]
          have cf : (k : Int) * (d : Int) = ((k * d : Nat) : Int) := by rw [Int.natCast_mul]
          have y0 : IntKind.i64.wrap ((k : Int) * (d : Int)) = (k : Int) * (d : Int) := IntWalk.i64_in _ (by rw [cf]; omega)
          have y1 : IntKind.i64.wrap ((k : Int) * (d : Int) + (c : Int)) = (k : Int) * (d : Int) + (c : Int) := IntWalk.i64_in _ (by rw [ce]; omega)
          clear cf
          have CE := Lib.hid ce; clear ce
          go_wp2_with fail
          rw [CE.out]
          clear CE y0 y1
          generalize hn : k * d + c = n at *
          have hn2 : n < 3072 := by omega
          have hn3 : n / 8 < 32 * d := by omega
          have q0 : (n : Int).tdiv 8 = (n : Int) / 8 := Int.tdiv_eq_ediv_of_nonneg (by omega)
          have q1 : (n : Int).tmod 8 = (n : Int) % 8 := Int.tmod_eq_emod_of_nonneg (by omega)
          have c0 := h0.cell k hlt
          have c1 := h1.cell (n / 8) hn3
          have z1 := h1.free (n / 8)
          have q2 : IntKind.i64.wrap ((n : Int) / 8) = (n : Int) / 8 := IntWalk.i64_in _ (by omega)
          have q3 : IntKind.i64.wrap ((n : Int) % 8) = (n : Int) % 8 := IntWalk.i64_in _ (by omega)
          have q4 : ((n : Int) / 8).toNat = n / 8 := by omega
          have q5 : ((n : Int) % 8).toNat = n % 8 := by omega
          have q6 : (0 : Int) ≤ (n : Int) / 8 := by omega
          have q7 : (n : Int) / 8 < 32 * (d : Int) := by omega
          have q8 : (0 : Int) ≤ (n : Int) % 8 := by omega
          have q9 : (n : Int) % 8 < 8 := by omega
          have q10 : bits .and .i64 (f k / 2 ^ c) 1 = f k / 2 ^ c % 2 := and1_i64 _ (Int.ediv_nonneg f0 (Int.le_of_lt (two_pos c))) (by have := Int.ediv_le_self (2 ^ c) f0; omega)
          have bb : 0 ≤ f k / 2 ^ c % 2 ∧ f k / 2 ^ c % 2 ≤ 1 := by omega
          have ob := cut_bd (strm f d) SB.out n
          have EC := Lib.hid (cut_succ (strm f d) n)
          rw [SE.out] at EC
          clear SE
          generalize f k / 2 ^ c % 2 = b at *
          generalize hO : cut (strm f d) n (n / 8) = O at *
          have P8 : (2 : Int) ^ (n % 8) ≤ 128 ∧ O + b * 2 ^ (n % 8) < 256 := by
            have : n % 8 < 8 := by omega
            generalize n % 8 = r at *
            have hb2 : b = 0 ∨ b = 1 := by omega
            match r, this with
            | 0, _ | 1, _ | 2, _ | 3, _ | 4, _ | 5, _ | 6, _ | 7, _ => rcases hb2 with rfl | rfl <;> simp at ob ⊢ <;> omega
          have P9 : 0 ≤ b * 2 ^ (n % 8) ∧ b * 2 ^ (n % 8) < 256 := ⟨Int.mul_nonneg bb.1 (Int.le_of_lt (two_pos _)), by omega⟩
          have r0 : IntKind.u8.wrap b = b := IntWalk.u8_in _ (by omega)
          have r1 : IntKind.u8.wrap (b * 2 ^ (n % 8)) = b * 2 ^ (n % 8) := IntWalk.u8_in _ (by omega)
          have r2 := or_u8 O b (n % 8) ob.1 ob.2 bb.1 P8.2
          go_still_tail 20, (by kernel_rfl)
          change wpList _ _ _ _ _ wr.drew
          have d0 := h0.drew
          have d1 := h1.drew
          have db := hb.drew
          clear h0 h1 hb c0 c1 z1
          generalize wr.drew = wd at *
          have c1 := d1.cell (n / 8) hn3
          have z1 := d1.free (n / 8)
          go_wp2
          go_roundw
          case rel => exact ⟨c + 1, by omega, by go_num, below_set db _ _ (by omega) _, d0.other _ _ _ (by omega), by rw [← Nat.add_assoc, hn, ← EC.out]; exact d1.set _ _⟩
          case measure => simp [intOf]; omega
        · obtain rfl : c = d := by omega
          go_wp2_with fail
          go_roundw
          case rel => exact ⟨k + 1, by omega, by go_num, hb, h0, by rw [Nat.succ_mul k]; exact h1⟩
          case measure => simp [intOf]; omega
    · obtain rfl : k = 256 := by omega
      go_wp2_with fail
      go_ret
      exact ⟨_, rfl, ⟨_, _, _, rfl, Nat.le_refl _, fun i hi => by rw [Nat.zero_add, h1.cell i hi, cut_all _ _ _ (by omega)]⟩, hb⟩
end Go.Proofs.Ytghngfeacpamhaa
