/-
  ringCompressAndEncode10: ten bits a number, compressed. Condition: numbers below 3329.
-/
import Derived.Test.YtghngfeacpamhaaSfa
import Derived.Test.YtghngfeacpamhaaComp
import Derived.Test.YtghngfeacpamhaaCmp
import Derived.Test.YtghngfeacpamhaaBack
import Derived.Test.YtghngfeacpamhaaBit2
namespace Go.Proofs.Ytghngfeacpamhaa
open Go.RowKit

theorem five_upto (h : Nat → Int) (n : Nat) : upd (upd (upd (upd (upd (upto h n) n (h n)) (n + 1) (h (n + 1))) (n + 2) (h (n + 2))) (n + 3) (h (n + 3))) (n + 4) (h (n + 4)) = upto h (n + 5) := by
  rw [upto_succ, upto_succ, upto_succ, upto_succ, upto_succ]
set_option maxRecDepth 100000 in
set_option maxHeartbeats 1000000 in
theorem ringEncode10_any (f : Nat → Int) (w : World) (hf : ∀ i, i < 256 → 0 ≤ f i ∧ f i < 3329) :
    Calls Try.prog 55 #[.slice none 0 0, .agg (arr .u16 256 f)] w fun e w' => ∃ v, e = .returned v ∧ Bys w' v 320 (byt (strm (fun i => cmpr 10 (f i)) 10)) ∧ Below w.heap.size w w' := by
  have HF := Lib.hid hf; clear hf
  go_enter Try.func55, Try.ntmps55
  go_wp2_with fail
  refine (sliceForAppend_any 320 _ (by omega) (by omega)).mono ?_
  rintro e w1 ⟨rfl, rfl⟩
  obtain ⟨W, hW, h0, h1, hw, HS⟩ := pack2 w (arr .u16 256 f) (arr .u8 320 fun _ => 0) 50 5
  simp only [World.size_alloc]
  rw [← hW]
  clear hW HS
  go_wp2_with fail
  go_loopw [5, 6, 7] (fun sl i _ wr => ∃ k : Nat, k ≤ 64 ∧ i = .int .i64 (4 * k : Nat) ∧ (k < 64 → sl = .slice (some ⟨w.heap.size + 1, 5 * k, none⟩) (320 - 5 * k) (320 - 5 * k)) ∧ Below w.heap.size w wr ∧ Has wr (w.heap.size) (arr .u16 256 f) 50 ∧ Has wr (w.heap.size + 1) (arr .u8 320 (upto (byt (strm (fun i => cmpr 10 (f i)) 10)) (5 * k))) 5) (fun _ i _ _ => 256 - (intOf i).toNat)
  case atStart => exact ⟨0, by omega, rfl, fun _ => rfl, hw, h0, by rw [Nat.mul_zero, upto_zero]; exact h1⟩
  case round =>
    obtain ⟨k, hk, rfl, ha, hb, h0, h1⟩ := hrel
    by_cases hlt : k < 64
    · obtain rfl := ha hlt
      clear ha
      obtain ⟨f0, f0'⟩ := HF.out (4 * k) (by omega)
      have c0 : wr.cell? ⟨w.heap.size, 4 * k, none⟩ = some _ := h0.cell (4 * k) (by omega)
      have b0 := cmpr_bd 10 (f (4 * k))
      rw [show (2 : Int) ^ 10 = 1024 from rfl] at b0
      have C0 := Lib.hid fun W => compress_10 (f (4 * k)) W f0 f0'
      obtain ⟨f1, f1'⟩ := HF.out (4 * k + 1) (by omega)
      have c1 : wr.cell? ⟨w.heap.size, 4 * k + 1, none⟩ = some _ := h0.cell (4 * k + 1) (by omega)
      have b1 := cmpr_bd 10 (f (4 * k + 1))
      rw [show (2 : Int) ^ 10 = 1024 from rfl] at b1
      have C1 := Lib.hid fun W => compress_10 (f (4 * k + 1)) W f1 f1'
      obtain ⟨f2, f2'⟩ := HF.out (4 * k + 2) (by omega)
      have c2 : wr.cell? ⟨w.heap.size, 4 * k + 2, none⟩ = some _ := h0.cell (4 * k + 2) (by omega)
      have b2 := cmpr_bd 10 (f (4 * k + 2))
      rw [show (2 : Int) ^ 10 = 1024 from rfl] at b2
      have C2 := Lib.hid fun W => compress_10 (f (4 * k + 2)) W f2 f2'
      obtain ⟨f3, f3'⟩ := HF.out (4 * k + 3) (by omega)
      have c3 : wr.cell? ⟨w.heap.size, 4 * k + 3, none⟩ = some _ := h0.cell (4 * k + 3) (by omega)
      have b3 := cmpr_bd 10 (f (4 * k + 3))
      rw [show (2 : Int) ^ 10 = 1024 from rfl] at b3
      have C3 := Lib.hid fun W => compress_10 (f (4 * k + 3)) W f3 f3'
      have EZ := Lib.hid (bts_four (fun i => cmpr 10 (f i)) k fun j _ => by have := cmpr_bd 10 (f (4 * k + j)); rw [show (2 : Int) ^ 10 = 1024 from rfl] at this; exact this)
      have EB0 := Lib.hid (show byt (strm (fun i => cmpr 10 (f i)) 10) (5 * k) = bts (strm (fun i => cmpr 10 (f i)) 10) (k * 40) 40 % 256 by
        have e := byt10 (fun i => cmpr 10 (f i)) k 0 (by omega)
        simp at e
        exact e)
      have EB1 := Lib.hid (show byt (strm (fun i => cmpr 10 (f i)) 10) (5 * k + 1) = bts (strm (fun i => cmpr 10 (f i)) 10) (k * 40) 40 / 256 % 256 by
        have e := byt10 (fun i => cmpr 10 (f i)) k 1 (by omega)
        simp at e
        exact e)
      have EB2 := Lib.hid (show byt (strm (fun i => cmpr 10 (f i)) 10) (5 * k + 2) = bts (strm (fun i => cmpr 10 (f i)) 10) (k * 40) 40 / 65536 % 256 by
        have e := byt10 (fun i => cmpr 10 (f i)) k 2 (by omega)
        simp at e
        exact e)
      have EB3 := Lib.hid (show byt (strm (fun i => cmpr 10 (f i)) 10) (5 * k + 3) = bts (strm (fun i => cmpr 10 (f i)) 10) (k * 40) 40 / 16777216 % 256 by
        have e := byt10 (fun i => cmpr 10 (f i)) k 3 (by omega)
        simp at e
        exact e)
      have EB4 := Lib.hid (show byt (strm (fun i => cmpr 10 (f i)) 10) (5 * k + 4) = bts (strm (fun i => cmpr 10 (f i)) 10) (k * 40) 40 / 4294967296 % 256 by
        have e := byt10 (fun i => cmpr 10 (f i)) k 4 (by omega)
        simp at e
        exact e)
      have EU := Lib.hid (five_upto (byt (strm (fun i => cmpr 10 (f i)) 10)) (5 * k))
      rw [EB0.out, EB1.out, EB2.out, EB3.out, EB4.out] at EU
      clear EB0 EB1 EB2 EB3 EB4
      rw [EZ.out] at EU
      clear EZ
      generalize cmpr 10 (f (4 * k + 3)) = A3 at *
      generalize f (4 * k + 3) = Y3 at *
      generalize cmpr 10 (f (4 * k + 2)) = A2 at *
      generalize f (4 * k + 2) = Y2 at *
      generalize cmpr 10 (f (4 * k + 1)) = A1 at *
      generalize f (4 * k + 1) = Y1 at *
      generalize cmpr 10 (f (4 * k)) = A0 at *
      generalize f (4 * k) = Y0 at *
      have y0 : IntKind.u64.wrap A0 = A0 := IntWalk.u64_in _ (by omega)
      have y1 : IntKind.u64.wrap A1 = A1 := IntWalk.u64_in _ (by omega)
      have y2 : IntKind.u64.wrap A2 = A2 := IntWalk.u64_in _ (by omega)
      have y3 : IntKind.u64.wrap A3 = A3 := IntWalk.u64_in _ (by omega)
      have v1 : IntKind.u64.wrap (A1 * 1024) = A1 * 1024 := IntWalk.u64_in _ (by omega)
      have v2 : IntKind.u64.wrap (A2 * 1048576) = A2 * 1048576 := IntWalk.u64_in _ (by omega)
      have v3 : IntKind.u64.wrap (A3 * 1073741824) = A3 * 1073741824 := IntWalk.u64_in _ (by omega)
      have o0 := or_u64 0 A0 0 (by omega) (by omega) b0.1 (by omega)
      rw [Int.pow_zero, Int.mul_one, Int.zero_add] at o0
      have o1 := or_u64 (A0) A1 10 (by omega) (by omega) b1.1 (by omega)
      rw [show (2 : Int) ^ 10 = 1024 from rfl] at o1
      have o2 := or_u64 (A0 + A1 * 1024) A2 20 (by omega) (by omega) b2.1 (by omega)
      rw [show (2 : Int) ^ 20 = 1048576 from rfl] at o2
      have o3 := or_u64 (A0 + A1 * 1024 + A2 * 1048576) A3 30 (by omega) (by omega) b3.1 (by omega)
      rw [show (2 : Int) ^ 30 = 1073741824 from rfl] at o3
      have EC := Lib.hid (show ((4 * (k + 1) : Nat) : Int) = ((4 * k : Nat) : Int) + 4 by omega)
      have E5 := Lib.hid (show 5 * (k + 1) = 5 * k + 5 by omega)
      have Z0 : 0 ≤ A0 + A1 * 1024 + A2 * 1048576 + A3 * 1073741824 ∧ A0 + A1 * 1024 + A2 * 1048576 + A3 * 1073741824 < 1099511627776 := by omega
      obtain ⟨Z, hZ⟩ : ∃ Z, Z = A0 + A1 * 1024 + A2 * 1048576 + A3 * 1073741824 := ⟨_, rfl⟩
      rw [← hZ] at o3 EU Z0
      clear hZ
      obtain ⟨Z0, Z1⟩ := Z0
      have w0 : IntKind.u8.wrap (Z) = Z % 256 := IntKind.wrap_u8' _
      have w1 : IntKind.u8.wrap (Z / 256) = Z / 256 % 256 := IntKind.wrap_u8' _
      have w2 : IntKind.u8.wrap (Z / 65536) = Z / 65536 % 256 := IntKind.wrap_u8' _
      have w3 : IntKind.u8.wrap (Z / 16777216) = Z / 16777216 % 256 := IntKind.wrap_u8' _
      have w4 : IntKind.u8.wrap (Z / 4294967296) = Z / 4294967296 % 256 := IntKind.wrap_u8' _
      obtain ⟨E0, hE0⟩ : ∃ E, E = Z % 256 := ⟨_, rfl⟩
      rw [← hE0] at w0 EU
      clear hE0
      obtain ⟨E1, hE1⟩ : ∃ E, E = Z / 256 % 256 := ⟨_, rfl⟩
      rw [← hE1] at w1 EU
      clear hE1
      obtain ⟨E2, hE2⟩ : ∃ E, E = Z / 65536 % 256 := ⟨_, rfl⟩
      rw [← hE2] at w2 EU
      clear hE2
      obtain ⟨E3, hE3⟩ : ∃ E, E = Z / 16777216 % 256 := ⟨_, rfl⟩
      rw [← hE3] at w3 EU
      clear hE3
      obtain ⟨E4, hE4⟩ : ∃ E, E = Z / 4294967296 % 256 := ⟨_, rfl⟩
      rw [← hE4] at w4 EU
      clear hE4
      obtain ⟨L, hL⟩ : ∃ L, L = 320 - 5 * k := ⟨_, rfl⟩
      rw [← hL]
      have l1 : 5 * k + L = 320 := by omega
      have l2 : 5 ≤ L := by omega
      have l3 : (0 : Int) < (L : Int) := by omega
      have l4 : (1 : Int) < (L : Int) := by omega
      have l5 : (2 : Int) < (L : Int) := by omega
      have l6 : (3 : Int) < (L : Int) := by omega
      have l7 : (4 : Int) < (L : Int) := by omega
      have l8 : (5 : Int) ≤ (L : Int) := by omega
      have HL := Lib.hid hL; clear hL
      have s0 : (wr).cell? ⟨w.heap.size + 1, 5 * k, none⟩ = some _ := (h1).cell (5 * k) (by omega)
      have z0 : (wr).frozen? ⟨w.heap.size + 1, 5 * k, none⟩ = false := (h1).free (5 * k)
      have s1 : ((wr.setCell ⟨w.heap.size + 1, 5 * k, none⟩ (.int .u8 E0))).cell? ⟨w.heap.size + 1, 5 * k + 1, none⟩ = some _ := ((h1.set (5 * k) E0)).cell (5 * k + 1) (by omega)
      have z1 : ((wr.setCell ⟨w.heap.size + 1, 5 * k, none⟩ (.int .u8 E0))).frozen? ⟨w.heap.size + 1, 5 * k + 1, none⟩ = false := ((h1.set (5 * k) E0)).free (5 * k + 1)
      have s2 : (((wr.setCell ⟨w.heap.size + 1, 5 * k, none⟩ (.int .u8 E0)).setCell ⟨w.heap.size + 1, 5 * k + 1, none⟩ (.int .u8 E1))).cell? ⟨w.heap.size + 1, 5 * k + 2, none⟩ = some _ := (((h1.set (5 * k) E0).set (5 * k + 1) E1)).cell (5 * k + 2) (by omega)
      have z2 : (((wr.setCell ⟨w.heap.size + 1, 5 * k, none⟩ (.int .u8 E0)).setCell ⟨w.heap.size + 1, 5 * k + 1, none⟩ (.int .u8 E1))).frozen? ⟨w.heap.size + 1, 5 * k + 2, none⟩ = false := (((h1.set (5 * k) E0).set (5 * k + 1) E1)).free (5 * k + 2)
      have s3 : ((((wr.setCell ⟨w.heap.size + 1, 5 * k, none⟩ (.int .u8 E0)).setCell ⟨w.heap.size + 1, 5 * k + 1, none⟩ (.int .u8 E1)).setCell ⟨w.heap.size + 1, 5 * k + 2, none⟩ (.int .u8 E2))).cell? ⟨w.heap.size + 1, 5 * k + 3, none⟩ = some _ := ((((h1.set (5 * k) E0).set (5 * k + 1) E1).set (5 * k + 2) E2)).cell (5 * k + 3) (by omega)
      have z3 : ((((wr.setCell ⟨w.heap.size + 1, 5 * k, none⟩ (.int .u8 E0)).setCell ⟨w.heap.size + 1, 5 * k + 1, none⟩ (.int .u8 E1)).setCell ⟨w.heap.size + 1, 5 * k + 2, none⟩ (.int .u8 E2))).frozen? ⟨w.heap.size + 1, 5 * k + 3, none⟩ = false := ((((h1.set (5 * k) E0).set (5 * k + 1) E1).set (5 * k + 2) E2)).free (5 * k + 3)
      have s4 : (((((wr.setCell ⟨w.heap.size + 1, 5 * k, none⟩ (.int .u8 E0)).setCell ⟨w.heap.size + 1, 5 * k + 1, none⟩ (.int .u8 E1)).setCell ⟨w.heap.size + 1, 5 * k + 2, none⟩ (.int .u8 E2)).setCell ⟨w.heap.size + 1, 5 * k + 3, none⟩ (.int .u8 E3))).cell? ⟨w.heap.size + 1, 5 * k + 4, none⟩ = some _ := (((((h1.set (5 * k) E0).set (5 * k + 1) E1).set (5 * k + 2) E2).set (5 * k + 3) E3)).cell (5 * k + 4) (by omega)
      have z4 : (((((wr.setCell ⟨w.heap.size + 1, 5 * k, none⟩ (.int .u8 E0)).setCell ⟨w.heap.size + 1, 5 * k + 1, none⟩ (.int .u8 E1)).setCell ⟨w.heap.size + 1, 5 * k + 2, none⟩ (.int .u8 E2)).setCell ⟨w.heap.size + 1, 5 * k + 3, none⟩ (.int .u8 E3))).frozen? ⟨w.heap.size + 1, 5 * k + 4, none⟩ = false := (((((h1.set (5 * k) E0).set (5 * k + 1) E1).set (5 * k + 2) E2).set (5 * k + 3) E3)).free (5 * k + 4)
      generalize hi : 4 * k = i at *
      have hi2 : i < 253 := by omega
      have HI := Lib.hid hi; clear hi
      have q0 : (i : Int) < 256 := by omega
      have p1 : ((i : Int) + 1).toNat = i + 1 := by omega
      have q1a : (0 : Int) ≤ (i : Int) + 1 := by omega
      have q1b : (i : Int) + 1 < 256 := by omega
      have p2 : ((i : Int) + 2).toNat = i + 2 := by omega
      have q2a : (0 : Int) ≤ (i : Int) + 2 := by omega
      have q2b : (i : Int) + 2 < 256 := by omega
      have p3 : ((i : Int) + 3).toNat = i + 3 := by omega
      have q3a : (0 : Int) ≤ (i : Int) + 3 := by omega
      have q3b : (i : Int) + 3 < 256 := by omega
      go_wp2_with (go_at_call 61; (first | ((with_reducible refine (C0.out _).mono ?_); rintro e w1 ⟨rfl, rfl⟩) | ((with_reducible refine (C1.out _).mono ?_); rintro e w1 ⟨rfl, rfl⟩) | ((with_reducible refine (C2.out _).mono ?_); rintro e w1 ⟨rfl, rfl⟩) | ((with_reducible refine (C3.out _).mono ?_); rintro e w1 ⟨rfl, rfl⟩)))
      go_roundw
      case rel => exact ⟨k + 1, by omega, by rw [EC.out], fun hk => by rw [if_neg (by omega), E5.out, show L - 5 = 320 - (5 * k + 5) by omega], below_set (below_set (below_set (below_set (below_set hb _ _ (by omega) _) _ _ (by omega) _) _ _ (by omega) _) _ _ (by omega) _) _ _ (by omega) _, ((((h0.other _ _ _ (by omega)).other _ _ _ (by omega)).other _ _ _ (by omega)).other _ _ _ (by omega)).other _ _ _ (by omega), by rw [E5.out, ← EU.out]; exact ((((h1.set _ _).set _ _).set _ _).set _ _).set _ _⟩
      case measure => simp [intOf]; omega
    · obtain rfl : k = 64 := by omega
      rw [show 4 * 64 = 256 from rfl] at *
      rw [show ((256 : Nat) : Int) = 256 from rfl] at *
      go_wp2_with fail
      go_ret
      exact ⟨_, rfl, ⟨_, _, _, rfl, Nat.le_refl _, fun i hi => by rw [Nat.zero_add]; have := h1.cell i hi; rwa [show upto (byt (strm (fun i => cmpr 10 (f i)) 10)) (5 * 64) i = byt (strm (fun i => cmpr 10 (f i)) 10) i by simp [upto]; omega] at this⟩, hb⟩
end Go.Proofs.Ytghngfeacpamhaa
