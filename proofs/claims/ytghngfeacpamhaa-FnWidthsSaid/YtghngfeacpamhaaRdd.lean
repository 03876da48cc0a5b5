/-
  ringDecodeAndDecompress: the numbers of d bits each that bytes tell, decompressed. Conditions: 32 d bytes; d is 1 to 11.
-/
import Derived.Test.YtghngfeacpamhaaByt
import Derived.Test.YtghngfeacpamhaaComp
import Derived.Test.YtghngfeacpamhaaCmp
import Derived.Test.YtghngfeacpamhaaRce
import Derived.Laws.BitsLemmas
namespace Go.Proofs.Ytghngfeacpamhaa
open Go.RowKit

/-- What a round takes: the bits of the byte from r on, laid at c, cut to d bits. -/
theorem take_bits (T Y : Int) (c d : Nat) (T0 : 0 ≤ T) (T1 : T < 2 ^ c) (Y0 : 0 ≤ Y) (hc : c < d) (hd : d ≤ 11) :
    bits .and .u16 (bits .or .u16 T (IntKind.u16.wrap (Y * 2 ^ c))) (2 ^ d - 1) = T + Y % 2 ^ (d - c) * 2 ^ c ∧ 0 ≤ T + Y % 2 ^ (d - c) * 2 ^ c ∧ T + Y % 2 ^ (d - c) * 2 ^ c < 2 ^ d := by
  have e1 : (65536 : Int) = 2 ^ (16 - c) * 2 ^ c := by rw [← two_add, show 16 - c + c = 16 by omega]; rfl
  have e2 : Y * 2 ^ c % 65536 = Y % 2 ^ (16 - c) * 2 ^ c := by
    rw [e1, Int.mul_comm Y, Int.mul_comm (2 ^ (16 - c)), Int.mul_emod_mul_of_pos _ _ (two_pos c), Int.mul_comm]
  have hp := two_pos c
  have b1 := Int.emod_nonneg Y (Int.ne_of_gt (two_pos (16 - c)))
  have b2 := Int.emod_lt_of_pos Y (two_pos (16 - c))
  have b3 : T + Y % 2 ^ (16 - c) * 2 ^ c < 65536 := by
    have h := Int.mul_le_mul_of_nonneg_right (show Y % 2 ^ (16 - c) + 1 ≤ 2 ^ (16 - c) by omega) (Int.le_of_lt hp)
    rw [Int.add_mul, ← e1] at h
    omega
  have b4 : 0 ≤ Y % 2 ^ (16 - c) * 2 ^ c := Int.mul_nonneg b1 (Int.le_of_lt hp)
  rw [IntKind.wrap_u16, e2, or_u16 T _ c T0 T1 b1 b3]
  have e3 : bits .and .u16 (T + Y % 2 ^ (16 - c) * 2 ^ c) (2 ^ d - 1) = (T + Y % 2 ^ (16 - c) * 2 ^ c) % 2 ^ d := by
    have hx : 0 ≤ T + Y % 2 ^ (16 - c) * 2 ^ c := by omega
    generalize T + Y % 2 ^ (16 - c) * 2 ^ c = Z at *
    obtain ⟨z, rfl⟩ : ∃ z : Nat, (z : Int) = Z := ⟨Z.toNat, by omega⟩
    have hd2 : (2 : Nat) ^ d ≤ 2 ^ 11 := Nat.pow_le_pow_right (by omega) hd
    have hd3 : (0 : Nat) < 2 ^ d := Nat.pow_pos (by omega)
    rw [← cast_pow, show (((2 ^ d : Nat) : Int) - 1) = ((2 ^ d - 1 : Nat) : Int) by omega, u16_and_nat z _ (by omega) (by omega), Nat.and_two_pow_sub_one_eq_mod]
    rfl
  have e4 : (T + Y % 2 ^ (16 - c) * 2 ^ c) % 2 ^ d = T + Y % 2 ^ (d - c) * 2 ^ c := by
    have e5 : (2 : Int) ^ d = 2 ^ c * 2 ^ (d - c) := by rw [← two_add, show c + (d - c) = d by omega]
    have e6 : Y % 2 ^ (16 - c) % 2 ^ (d - c) = Y % 2 ^ (d - c) := Int.emod_emod_of_dvd _ (by
      rw [show 16 - c = (d - c) + (16 - d) by omega, two_add]; exact Int.dvd_mul_right _ _)
    rw [e5, ← e6]
    generalize Y % 2 ^ (16 - c) = Z at *
    have c1 := Int.emod_nonneg Z (Int.ne_of_gt (two_pos (d - c)))
    have c2 := Int.emod_lt_of_pos Z (two_pos (d - c))
    have c3 := Int.mul_le_mul_of_nonneg_left (show Z % 2 ^ (d - c) + 1 ≤ 2 ^ (d - c) by omega) (Int.le_of_lt hp)
    rw [Int.mul_add] at c3
    have c4 := Int.mul_nonneg (Int.le_of_lt hp) c1
    have e7 : T + Z * 2 ^ c = (T + Z % 2 ^ (d - c) * 2 ^ c) + 2 ^ c * 2 ^ (d - c) * (Z / 2 ^ (d - c)) := by
      have h := Int.emod_add_mul_ediv Z (2 ^ (d - c))
      have h2 : Z * 2 ^ c = (Z % 2 ^ (d - c) + 2 ^ (d - c) * (Z / 2 ^ (d - c))) * 2 ^ c := by rw [h]
      rw [h2, Int.add_mul, Int.mul_assoc (2 ^ c), Int.mul_comm (2 ^ c) (2 ^ (d - c) * _)]
      omega
    rw [e7, Int.add_mul_emod_self_left, Int.emod_eq_of_lt]
    · rw [Int.mul_comm]; omega
    · rw [Int.mul_comm (Z % _)]; omega
  rw [e3]
  refine ⟨e4, ?_, ?_⟩
  · rw [← e4]; exact Int.emod_nonneg _ (Int.ne_of_gt (two_pos d))
  · rw [← e4]; exact Int.emod_lt_of_pos _ (two_pos d)
theorem two_mono {a b : Nat} (h : a ≤ b) : (2 : Int) ^ a ≤ 2 ^ b := by
  obtain ⟨e, rfl⟩ : ∃ e, b = a + e := ⟨b - a, by omega⟩
  rw [two_add]
  have h1 := two_pos a
  have h2 := two_pos e
  have h3 := Int.mul_le_mul_of_nonneg_left (show (1 : Int) ≤ 2 ^ e by omega) (Int.le_of_lt h1)
  omega
set_option maxRecDepth 100000 in
set_option maxHeartbeats 1000000 in
theorem ringDecode_any (v : Value) (g : Nat → Int) (d : Nat) (w : World) (d0 : 1 ≤ d) (d1 : d ≤ 11) (hv : Bys w v (32 * d) g) (hg : ∀ i, i < 32 * d → 0 ≤ g i ∧ g i < 256) :
    Calls Try.prog 45 #[v, .int .u8 d] w fun e w' => e = .returned (.agg (arr .u16 256 fun i => dcmp d (dig (strm g 8) d i))) ∧ Below w.heap.size w w' := by
  have HG := Lib.hid hg; clear hg
  obtain ⟨b, off, cap, rfl, hcap, hc0⟩ := hv.out
  clear hv
  have HC := Lib.hid hc0; clear hc0
  have SB := Lib.hid (strm_bd g 8)
  have pd := pow_bd d d0 d1
  go_enter Try.func45, Try.ntmps45
  go_wp2_with (refine wpList_alloc_zero rfl 50 rfl _ zero50 ?_; simp only [Act.put, List.setIfInBounds_toArray, List.set_cons_succ, List.set_cons_zero, World.size_alloc])
  obtain ⟨W, hW, h0, h1, hw, HS⟩ := pack2 w (arr .u16 256 fun _ => 0) (arr .u16 256 fun _ => 0) 50 50
  rw [← hW]
  clear hW HS
  go_loopw [0, 6, 7, 8, 9, 10] (fun sl bi i _ _ _ wr => ∃ k : Nat, k ≤ 256 ∧ i = .int .i64 k ∧ (∃ a, sl = .slice (some a) (32 * d - (k * d) / 8) (cap - (k * d) / 8) ∧ ((k * d) / 8 < 32 * d → a = ⟨b, off + (k * d) / 8, none⟩)) ∧ bi = .int .u8 (((k * d) % 8 : Nat) : Int) ∧ Below w.heap.size w wr ∧ Has wr w.heap.size (arr .u16 256 fun _ => 0) 50 ∧ Has wr (w.heap.size + 1) (arr .u16 256 (upto (fun i => dcmp d (dig (strm g 8) d i)) k)) 50) (fun _ _ i _ _ _ _ => 256 - (intOf i).toNat)
  case atStart => exact ⟨0, by omega, rfl, ⟨_, by simp; rfl, by simp⟩, by simp, hw, h0, by rw [upto_zero]; exact h1⟩
  case round =>
    obtain ⟨k, hk, rfl, ⟨a, rfl, ha⟩, rfl, hb, h0, h1⟩ := hrel
    have HA := Lib.hid ha; clear ha
    by_cases hlt : k < 256
    · have hkd : k * d + d ≤ 256 * d := by rw [← Nat.succ_mul]; exact Nat.mul_le_mul_right d hlt
      have hlt' : (k : Int) < 256 := by omega
      go_wp2_with fail
      go_loopw [0, 6, 8, 9, 10] (fun sl bi cc ci _ wr => ∃ c : Nat, c ≤ d ∧ ci = .int .u8 c ∧ cc = .int .u16 (bts (strm g 8) (k * d) c) ∧ (∃ a, sl = .slice (some a) (32 * d - (k * d + c) / 8) (cap - (k * d + c) / 8) ∧ ((k * d + c) / 8 < 32 * d → a = ⟨b, off + (k * d + c) / 8, none⟩)) ∧ bi = .int .u8 (((k * d + c) % 8 : Nat) : Int) ∧ Below w.heap.size w wr ∧ Has wr w.heap.size (arr .u16 256 fun _ => 0) 50 ∧ Has wr (w.heap.size + 1) (arr .u16 256 (upto (fun i => dcmp d (dig (strm g 8) d i)) k)) 50) (fun _ _ _ ci _ _ => d - (intOf ci).toNat)
      case atStart => exact ⟨0, by omega, rfl, rfl, ⟨a, rfl, HA.out⟩, rfl, hb, h0, h1⟩
      case round =>
        clear HA
        obtain ⟨c, hc, rfl, rfl, ⟨a2, rfl, ha⟩, rfl, hb, h0, h1⟩ := hrel
        by_cases hcd : c < d
        · have hcd' : (c : Int) < (d : Int) := by omega
          obtain ⟨T0, T1⟩ := bts_bd (strm g 8) SB.out (k * d) c
          have AD := Lib.hid fun q => bts_add (strm g 8) (k * d) c q
          generalize hn : k * d + c = n at *
          have hr : n % 8 < 8 := by omega
          have hm : n / 8 * 8 + n % 8 = n := by omega
          have hm2 : n < 256 * d := by omega
          have hm3 : n / 8 < 32 * d := by omega
          obtain rfl := ha hm3
          clear ha
          have c1 : wr.cell? ⟨b, off + n / 8, none⟩ = some (.int .u8 (g (n / 8))) := by rw [hb.cell (p := ⟨b, off + n / 8, none⟩) (block_lt_of_cell (HC.out _ hm3))]; exact HC.out _ hm3
          obtain ⟨g0, g1⟩ := HG.out (n / 8) hm3
          have SE := Lib.hid fun q hq => bts_strm g 8 (n / 8) (n % 8) q hq
          rw [hm] at SE
          generalize n % 8 = r at *
          generalize n / 8 = m at *
          generalize g m = X at *
          obtain ⟨Y0, Y1⟩ : 0 ≤ X / 2 ^ r ∧ X / 2 ^ r < 2 ^ (8 - r) := ⟨Int.ediv_nonneg g0 (Int.le_of_lt (two_pos r)), by
            rw [Int.ediv_lt_iff_lt_mul (two_pos r), ← two_add, show 8 - r + r = 8 by omega]; exact g1⟩
          have Y2 := two_le8 (8 - r) (by omega)
          have y0 : IntKind.u8.wrap (8 - (r : Int)) = 8 - (r : Int) := IntWalk.u8_in _ (by omega)
          have y1 : IntKind.u8.wrap ((d : Int) - (c : Int)) = (d : Int) - (c : Int) := IntWalk.u8_in _ (by omega)
          obtain ⟨M, _, _⟩ := take_bits (bts (strm g 8) (k * d) c) (X / 2 ^ r) c d T0 T1 Y0 hcd d1
          have y2 : IntKind.u16.wrap (X / 2 ^ r) = X / 2 ^ r := IntWalk.u16_in _ (by omega)
          have y3 : IntKind.u16.wrap (2 ^ d) = 2 ^ d := IntWalk.u16_in _ (by omega)
          have y4 : IntKind.u16.wrap (2 ^ d - 1) = 2 ^ d - 1 := IntWalk.u16_in _ (by omega)
          generalize hT : bts (strm g 8) (k * d) c = T at *
          have l1 : 1 ≤ 32 * d - m := by omega
          have l2 : 32 * d - m ≤ cap - m := by omega
          obtain ⟨L, hL⟩ : ∃ L, L = 32 * d - m := ⟨_, rfl⟩
          obtain ⟨C, hC⟩ : ∃ C, C = cap - m := ⟨_, rfl⟩
          rw [← hL] at l1 l2
          rw [← hC] at l2
          rw [← hL, ← hC]
          have l3 : (0 : Int) < (L : Int) := by omega
          have l4 : (1 : Int) ≤ (L : Int) := by omega
          have l5 : (L : Int) ≤ (C : Int) := by omega
          have HL := Lib.hid hL; clear hL
          have HC' := Lib.hid hC; clear hC
          by_cases hq : 8 - r ≤ d - c
          · have hq1 : (8 : Int) - (r : Int) ≤ (d : Int) - (c : Int) := by omega
            have EB := Lib.hid (show bts (strm g 8) (k * d) (c + (8 - r)) = T + X / 2 ^ r % 2 ^ (d - c) * 2 ^ c by
              rw [AD.out (8 - r), SE.out (8 - r) (by omega), Int.mul_comm, Int.emod_eq_of_lt Y0 Y1, Int.emod_eq_of_lt Y0 (Int.lt_of_lt_of_le Y1 (two_mono hq))])
            have EN := Lib.hid (show (k * d + (c + (8 - r))) / 8 = m + 1 ∧ (k * d + (c + (8 - r))) % 8 = 0 by omega)
            clear AD SE
            go_wp2_with fail
            go_roundw
            case rel =>
              have hL := HL.out
              have hC := HC'.out
              refine ⟨c + (8 - r), by omega, by go_num, by rw [EB.out], ?_, by rw [EN.out.2]; rfl, hb, h0, h1⟩
              rw [EN.out.1]
              by_cases hC1 : C = 1
              · exact ⟨_, by rw [if_pos hC1, show 32 * d - (m + 1) = L - 1 by omega, show cap - (m + 1) = C - 1 by omega], fun h => by omega⟩
              · exact ⟨_, by rw [if_neg hC1, show 32 * d - (m + 1) = L - 1 by omega, show cap - (m + 1) = C - 1 by omega], fun h => by rw [Nat.add_assoc]⟩
            case measure => simp [intOf]; omega
          · have hq0 : d - c < 8 - r := by omega
            have hq1 : ¬ (8 : Int) - (r : Int) ≤ (d : Int) - (c : Int) := by omega
            have z1 : ((r : Int) + ((d : Int) - (c : Int)) == 8) = false := by simp; omega
            have z2 : IntKind.u8.wrap ((r : Int) + ((d : Int) - (c : Int))) = (r : Int) + ((d : Int) - (c : Int)) := IntWalk.u8_in _ (by omega)
            have z3 : IntKind.u8.wrap ((c : Int) + ((d : Int) - (c : Int))) = (c : Int) + ((d : Int) - (c : Int)) := IntWalk.u8_in _ (by omega)
            have EB := Lib.hid (show bts (strm g 8) (k * d) (c + (d - c)) = T + X / 2 ^ r % 2 ^ (d - c) * 2 ^ c by
              rw [AD.out (d - c), SE.out (d - c) (by omega), Int.mul_comm])
            have EN := Lib.hid (show (k * d + (c + (d - c))) / 8 = m ∧ (k * d + (c + (d - c))) % 8 = r + (d - c) by omega)
            clear AD SE
            go_wp2_with fail
            clear z1 z2 z3
            go_roundw
            case rel => exact ⟨c + (d - c), by omega, by go_num, by rw [EB.out], by rw [EN.out.1]; exact ⟨_, by rw [HL.out, HC'.out], fun _ => rfl⟩, by rw [EN.out.2]; go_num, hb, h0, h1⟩
            case measure => simp [intOf]; omega
        · obtain rfl : c = d := by omega
          obtain ⟨T0, T1⟩ := dig_bd (strm g 8) SB.out c k
          have EU := Lib.hid (upto_succ (fun i => dcmp c (dig (strm g 8) c i)) k)
          rw [show bts (strm g 8) (k * c) c = dig (strm g 8) c k from rfl]
          generalize dig (strm g 8) c k = T at *
          have HA := Lib.hid ha; clear ha
          have c1 := h1.cell k hlt
          have z1 := h1.free k
          go_wp2_with (go_at_call 60; refine (decompress_any c T _ d0 d1 T0 T1).mono ?_; rintro e w1 ⟨rfl, rfl⟩)
          go_roundw
          case rel => exact ⟨k + 1, by omega, by go_num, by rw [Nat.succ_mul k]; exact ⟨_, rfl, HA.out⟩, by rw [Nat.succ_mul k]; simp, below_set hb _ _ (by omega) _, h0.other _ _ _ (by omega), by rw [← EU.out]; exact h1.set _ _⟩
          case measure => simp [intOf]; omega
    · obtain rfl : k = 256 := by omega
      rw [show 32 * d - 256 * d / 8 = 0 by omega]
      clear HA
      go_wp2_with (first | (refine ld_arr rfl 50 _ rfl (w.heap.size + 1) rfl 50 .u16 256 _ _ h1.out Try.underlying50 size50 ?_; simp only [Act.put, List.setIfInBounds_toArray, List.set_cons_succ, List.set_cons_zero, World.size_alloc]) | (refine st_arr rfl 50 _ _ rfl (w.heap.size) rfl .u16 256 _ rfl 50 .u16 _ h0.out size50 ?_; simp only [Act.put, List.setIfInBounds_toArray, List.set_cons_succ, List.set_cons_zero, World.size_alloc]))
      exact bodyPost_ret (res_arr rfl _ _ (w.heap.size) 50 .u16 256 _ _ rfl (h0.row _).out Try.underlying50 size50) rfl ⟨by rw [upto_all], Below.setRow hb _ (by omega) _⟩
end Go.Proofs.Ytghngfeacpamhaa
