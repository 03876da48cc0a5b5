/-
  ringDecodeAndDecompress10: the numbers of ten bits of 320 bytes, decompressed. No further condition.
-/
import Derived.Test.YtghngfeacpamhaaBit2
import Derived.Test.YtghngfeacpamhaaDig
import Derived.Test.YtghngfeacpamhaaComp
import Derived.Test.YtghngfeacpamhaaCmp
import Derived.Laws.BitsLemmas
namespace Go.Proofs.Ytghngfeacpamhaa
open Go.RowKit

theorem and10_u64 (Y : Int) (h0 : 0 ≤ Y) (h1 : Y < 1099511627776) : bits .and .u64 Y 1023 = Y % 1024 :=
  bits_mask .u64 63 (by decide) (fun n h h' => IntWalk.u64_in n ⟨h, by omega⟩) 10 (by decide) Y h0 (by omega)
theorem four_upto (h : Nat → Int) (n : Nat) : upd (upd (upd (upd (upto h n) n (h n)) (n + 1) (h (n + 1))) (n + 2) (h (n + 2))) (n + 3) (h (n + 3)) = upto h (n + 4) := by
  rw [upto_succ, upto_succ, upto_succ, upto_succ]
set_option maxRecDepth 100000 in
set_option maxHeartbeats 1000000 in
theorem ringDecode10_any (g : Nat → Int) (b : Nat) (t : TypeId) (w : World) (h : Has w b (arr .u8 320 g) t) (hg : ∀ i, i < 320 → 0 ≤ g i ∧ g i < 256) :
    Calls Try.prog 50 #[.pointer (some ⟨b, 0, none⟩)] w fun e w' => e = .returned (.agg (arr .u16 256 (fun i => dcmp 10 (dig (strm g 8) 10 i)))) ∧ Below w.heap.size w w' := by
  have HG := Lib.hid hg; clear hg
  have hbt := h.lt
  go_enter Try.func50, Try.ntmps50
  go_wp2_with (refine wpList_alloc_zero rfl 50 rfl _ zero50 ?_; simp only [Act.put, List.setIfInBounds_toArray, List.set_cons_succ, List.set_cons_zero, World.size_alloc])
  obtain ⟨W, hW, h0, h1, hw, HS⟩ := pack2 w (arr .u16 256 fun _ => 0) (arr .u16 256 fun _ => 0) 50 50
  rw [← hW]
  clear hW HS
  go_loopw [3, 5, 6] (fun sl i _ wr => ∃ k : Nat, k ≤ 64 ∧ i = .int .i64 (4 * k : Nat) ∧ (∃ a, sl = .slice (some a) (320 - 5 * k) (320 - 5 * k) ∧ (k < 64 → a = ⟨b, 5 * k, none⟩)) ∧ Below w.heap.size w wr ∧ Has wr w.heap.size (arr .u16 256 fun _ => 0) 50 ∧ Has wr (w.heap.size + 1) (arr .u16 256 (upto (fun i => dcmp 10 (dig (strm g 8) 10 i)) (4 * k))) 50) (fun _ i _ _ => 256 - (intOf i).toNat)
  case atStart => exact ⟨0, by omega, rfl, ⟨_, rfl, fun _ => rfl⟩, hw, h0, by rw [Nat.mul_zero, upto_zero]; exact h1⟩
  case round =>
    obtain ⟨k, hk, rfl, ⟨a, rfl, ha⟩, hb, h0, h1⟩ := hrel
    by_cases hlt : k < 64
    · obtain rfl := ha hlt
      clear ha
      have hh := h.below hb hbt
      have c0 : wr.cell? ⟨b, 5 * k, none⟩ = some _ := hh.cell (5 * k) (by omega)
      obtain ⟨x0, x0'⟩ := HG.out (5 * k) (by omega)
      have c1 : wr.cell? ⟨b, 5 * k + 1, none⟩ = some _ := hh.cell (5 * k + 1) (by omega)
      obtain ⟨x1, x1'⟩ := HG.out (5 * k + 1) (by omega)
      have c2 : wr.cell? ⟨b, 5 * k + 2, none⟩ = some _ := hh.cell (5 * k + 2) (by omega)
      obtain ⟨x2, x2'⟩ := HG.out (5 * k + 2) (by omega)
      have c3 : wr.cell? ⟨b, 5 * k + 3, none⟩ = some _ := hh.cell (5 * k + 3) (by omega)
      obtain ⟨x3, x3'⟩ := HG.out (5 * k + 3) (by omega)
      have c4 : wr.cell? ⟨b, 5 * k + 4, none⟩ = some _ := hh.cell (5 * k + 4) (by omega)
      obtain ⟨x4, x4'⟩ := HG.out (5 * k + 4) (by omega)
      clear hh
      have EZ := Lib.hid (bts_five g k fun j hj => HG.out (5 * k + j) (by omega))
      have ED0 := Lib.hid (show dcmp 10 (dig (strm g 8) 10 (4 * k)) = dcmp 10 (bts (strm g 8) (k * 40) 40 % 1024) by
        have e := dig10 g k 0 (by omega)
        simp at e
        rw [e])
      have ED1 := Lib.hid (show dcmp 10 (dig (strm g 8) 10 (4 * k + 1)) = dcmp 10 (bts (strm g 8) (k * 40) 40 / 1024 % 1024) by
        have e := dig10 g k 1 (by omega)
        simp at e
        rw [e])
      have ED2 := Lib.hid (show dcmp 10 (dig (strm g 8) 10 (4 * k + 2)) = dcmp 10 (bts (strm g 8) (k * 40) 40 / 1048576 % 1024) by
        have e := dig10 g k 2 (by omega)
        simp at e
        rw [e])
      have ED3 := Lib.hid (show dcmp 10 (dig (strm g 8) 10 (4 * k + 3)) = dcmp 10 (bts (strm g 8) (k * 40) 40 / 1073741824 % 1024) by
        have e := dig10 g k 3 (by omega)
        simp at e
        rw [e])
      have EU := Lib.hid (four_upto (fun i => dcmp 10 (dig (strm g 8) 10 i)) (4 * k))
      generalize g (5 * k + 4) = X4 at *
      generalize g (5 * k + 3) = X3 at *
      generalize g (5 * k + 2) = X2 at *
      generalize g (5 * k + 1) = X1 at *
      generalize g (5 * k) = X0 at *
      have o1 := or_u64 X0 X1 8 x0 (by omega) x1 (by omega)
      have o2 := or_u64 (X0 + X1 * 256) X2 16 (by omega) (by omega) x2 (by omega)
      have o3 := or_u64 (X0 + X1 * 256 + X2 * 65536) X3 24 (by omega) (by omega) x3 (by omega)
      have o4 := or_u64 (X0 + X1 * 256 + X2 * 65536 + X3 * 16777216) X4 32 (by omega) (by omega) x4 (by omega)
      rw [show (2 : Int) ^ 8 = 256 from rfl] at o1
      rw [show (2 : Int) ^ 16 = 65536 from rfl] at o2
      rw [show (2 : Int) ^ 24 = 16777216 from rfl] at o3
      rw [show (2 : Int) ^ 32 = 4294967296 from rfl] at o4
      have y0 : IntKind.u64.wrap X0 = X0 := IntWalk.u64_in _ (by omega)
      have y1 : IntKind.u64.wrap X1 = X1 := IntWalk.u64_in _ (by omega)
      have y2 : IntKind.u64.wrap X2 = X2 := IntWalk.u64_in _ (by omega)
      have y3 : IntKind.u64.wrap X3 = X3 := IntWalk.u64_in _ (by omega)
      have y4 : IntKind.u64.wrap X4 = X4 := IntWalk.u64_in _ (by omega)
      have v1 : IntKind.u64.wrap (X1 * 256) = X1 * 256 := IntWalk.u64_in _ (by omega)
      have v2 : IntKind.u64.wrap (X2 * 65536) = X2 * 65536 := IntWalk.u64_in _ (by omega)
      have v3 : IntKind.u64.wrap (X3 * 16777216) = X3 * 16777216 := IntWalk.u64_in _ (by omega)
      have v4 : IntKind.u64.wrap (X4 * 4294967296) = X4 * 4294967296 := IntWalk.u64_in _ (by omega)
      obtain ⟨L, hL⟩ : ∃ L, L = 320 - 5 * k := ⟨_, rfl⟩
      have l1 : 5 * k + L = 320 := by omega
      have l2 : 5 ≤ L := by omega
      have l3 : (0 : Int) < (L : Int) := by omega
      have l4 : (1 : Int) < (L : Int) := by omega
      have l5 : (2 : Int) < (L : Int) := by omega
      have l6 : (3 : Int) < (L : Int) := by omega
      have l7 : (4 : Int) < (L : Int) := by omega
      have l8 : (5 : Int) ≤ (L : Int) := by omega
      rw [← hL]
      have HL := Lib.hid hL; clear hL
      have EC := Lib.hid (show ((4 * (k + 1) : Nat) : Int) = ((4 * k : Nat) : Int) + 4 by omega)
      generalize hi : 4 * k = i at *
      have hi2 : i < 253 := by omega
      have HI := Lib.hid hi; clear hi
      have q3 : (i : Int) < 256 := by omega
      go_wp2_with fail
      go_quiet (fail)
      have d0 := h0.drewN nq
      have d1 := h1.drewN nq
      have db : Below w.heap.size w (wr.drewN nq) := ⟨hb.os, hb.tape, hb.output, hb.size, hb.block⟩
      clear h0 h1 hb c0 c1 c2 c3 c4 o1 o2 o3 o4 y0 y1 y2 y3 y4 v1 v2 v3 v4
      generalize wr.drewN nq = wd at *
      have ez := EZ.out
      rw [← ez]
      have Z0 : 0 ≤ bts (strm g 8) (k * 40) 40 ∧ bts (strm g 8) (k * 40) 40 < 1099511627776 := by rw [ez]; omega
      clear EZ ez x0 x0' x1 x1' x2 x2' x3 x3' x4 x4'
      generalize bts (strm g 8) (k * 40) 40 = Z at *
      obtain ⟨Z0, Z1⟩ := Z0
      have m0 : bits .and .u64 (Z) 1023 = Z % 1024 := and10_u64 _ (by omega) (by omega)
      have n0 : IntKind.u16.wrap (Z % 1024) = Z % 1024 := IntWalk.u16_in _ (by omega)
      obtain ⟨D0, hD0⟩ : ∃ D, D = dcmp 10 (Z % 1024) := ⟨_, rfl⟩
      have C0 := Lib.hid fun W => decompress_10 (Z % 1024) W (by omega) (by omega)
      rw [← hD0] at C0 ED0
      clear hD0
      have m1 : bits .and .u64 (Z / 1024) 1023 = Z / 1024 % 1024 := and10_u64 _ (by omega) (by omega)
      have n1 : IntKind.u16.wrap (Z / 1024 % 1024) = Z / 1024 % 1024 := IntWalk.u16_in _ (by omega)
      have p1 : ((i : Int) + 1).toNat = i + 1 := by omega
      have q1a : (0 : Int) ≤ (i : Int) + 1 := by omega
      have q1b : (i : Int) + 1 < 256 := by omega
      obtain ⟨D1, hD1⟩ : ∃ D, D = dcmp 10 (Z / 1024 % 1024) := ⟨_, rfl⟩
      have C1 := Lib.hid fun W => decompress_10 (Z / 1024 % 1024) W (by omega) (by omega)
      rw [← hD1] at C1 ED1
      clear hD1
      have m2 : bits .and .u64 (Z / 1048576) 1023 = Z / 1048576 % 1024 := and10_u64 _ (by omega) (by omega)
      have n2 : IntKind.u16.wrap (Z / 1048576 % 1024) = Z / 1048576 % 1024 := IntWalk.u16_in _ (by omega)
      have p2 : ((i : Int) + 2).toNat = i + 2 := by omega
      have q2a : (0 : Int) ≤ (i : Int) + 2 := by omega
      have q2b : (i : Int) + 2 < 256 := by omega
      obtain ⟨D2, hD2⟩ : ∃ D, D = dcmp 10 (Z / 1048576 % 1024) := ⟨_, rfl⟩
      have C2 := Lib.hid fun W => decompress_10 (Z / 1048576 % 1024) W (by omega) (by omega)
      rw [← hD2] at C2 ED2
      clear hD2
      have m3 : bits .and .u64 (Z / 1073741824) 1023 = Z / 1073741824 % 1024 := and10_u64 _ (by omega) (by omega)
      have n3 : IntKind.u16.wrap (Z / 1073741824 % 1024) = Z / 1073741824 % 1024 := IntWalk.u16_in _ (by omega)
      have p3 : ((i : Int) + 3).toNat = i + 3 := by omega
      have q3a : (0 : Int) ≤ (i : Int) + 3 := by omega
      have q3b : (i : Int) + 3 < 256 := by omega
      obtain ⟨D3, hD3⟩ : ∃ D, D = dcmp 10 (Z / 1073741824 % 1024) := ⟨_, rfl⟩
      have C3 := Lib.hid fun W => decompress_10 (Z / 1073741824 % 1024) W (by omega) (by omega)
      rw [← hD3] at C3 ED3
      clear hD3
      have s0 : (wd).cell? ⟨w.heap.size + 1, i, none⟩ = some _ := (d1).cell (i) (by omega)
      have z0 : (wd).frozen? ⟨w.heap.size + 1, i, none⟩ = false := (d1).free (i)
      have s1 : ((wd.setCell ⟨w.heap.size + 1, i, none⟩ (.int .u16 D0))).cell? ⟨w.heap.size + 1, i + 1, none⟩ = some _ := ((d1.set (i) D0)).cell (i + 1) (by omega)
      have z1 : ((wd.setCell ⟨w.heap.size + 1, i, none⟩ (.int .u16 D0))).frozen? ⟨w.heap.size + 1, i + 1, none⟩ = false := ((d1.set (i) D0)).free (i + 1)
      have s2 : (((wd.setCell ⟨w.heap.size + 1, i, none⟩ (.int .u16 D0)).setCell ⟨w.heap.size + 1, i + 1, none⟩ (.int .u16 D1))).cell? ⟨w.heap.size + 1, i + 2, none⟩ = some _ := (((d1.set (i) D0).set (i + 1) D1)).cell (i + 2) (by omega)
      have z2 : (((wd.setCell ⟨w.heap.size + 1, i, none⟩ (.int .u16 D0)).setCell ⟨w.heap.size + 1, i + 1, none⟩ (.int .u16 D1))).frozen? ⟨w.heap.size + 1, i + 2, none⟩ = false := (((d1.set (i) D0).set (i + 1) D1)).free (i + 2)
      have s3 : ((((wd.setCell ⟨w.heap.size + 1, i, none⟩ (.int .u16 D0)).setCell ⟨w.heap.size + 1, i + 1, none⟩ (.int .u16 D1)).setCell ⟨w.heap.size + 1, i + 2, none⟩ (.int .u16 D2))).cell? ⟨w.heap.size + 1, i + 3, none⟩ = some _ := ((((d1.set (i) D0).set (i + 1) D1).set (i + 2) D2)).cell (i + 3) (by omega)
      have z3 : ((((wd.setCell ⟨w.heap.size + 1, i, none⟩ (.int .u16 D0)).setCell ⟨w.heap.size + 1, i + 1, none⟩ (.int .u16 D1)).setCell ⟨w.heap.size + 1, i + 2, none⟩ (.int .u16 D2))).frozen? ⟨w.heap.size + 1, i + 3, none⟩ = false := ((((d1.set (i) D0).set (i + 1) D1).set (i + 2) D2)).free (i + 3)
      go_wp2_with (go_at_call 60; (first | ((with_reducible refine (C0.out _).mono ?_); rintro e w1 ⟨rfl, rfl⟩) | ((with_reducible refine (C1.out _).mono ?_); rintro e w1 ⟨rfl, rfl⟩) | ((with_reducible refine (C2.out _).mono ?_); rintro e w1 ⟨rfl, rfl⟩) | ((with_reducible refine (C3.out _).mono ?_); rintro e w1 ⟨rfl, rfl⟩)))
      go_roundw
      case rel =>
        have hL := HL.out
        refine ⟨k + 1, by omega, by rw [EC.out], ?_, below_set (below_set (below_set (below_set db _ _ (by omega) _) _ _ (by omega) _) _ _ (by omega) _) _ _ (by omega) _, (((d0.other _ _ _ (by omega)).other _ _ _ (by omega)).other _ _ _ (by omega)).other _ _ _ (by omega), ?_⟩
        · by_cases hL1 : L = 5
          · exact ⟨_, by rw [if_pos hL1, show 320 - 5 * (k + 1) = L - 5 by omega], fun h => by omega⟩
          · exact ⟨_, by rw [if_neg hL1, show 320 - 5 * (k + 1) = L - 5 by omega], fun h => by rw [show 5 * (k + 1) = 5 * k + 5 by omega]⟩
        · rw [show 4 * (k + 1) = i + 4 by have := HI.out; omega, ← EU.out, ED0.out, ED1.out, ED2.out, ED3.out]
          exact (((d1.set _ _).set _ _).set _ _).set _ _
      case measure => simp [intOf]; omega
    · obtain rfl : k = 64 := by omega
      rw [show 4 * 64 = 256 from rfl] at *
      rw [show ((256 : Nat) : Int) = 256 from rfl] at *
      go_wp2_with (first | (refine ld_arr rfl 50 _ rfl (w.heap.size + 1) rfl 50 .u16 256 _ _ h1.out Try.underlying50 size50 ?_; simp only [Act.put, List.setIfInBounds_toArray, List.set_cons_succ, List.set_cons_zero, World.size_alloc]) | (refine st_arr rfl 50 _ _ rfl (w.heap.size) rfl .u16 256 _ rfl 50 .u16 _ h0.out size50 ?_; simp only [Act.put, List.setIfInBounds_toArray, List.set_cons_succ, List.set_cons_zero, World.size_alloc]))
      exact bodyPost_ret (res_arr rfl _ _ (w.heap.size) 50 .u16 256 _ _ rfl (h0.row _).out Try.underlying50 size50) rfl ⟨by rw [upto_all], Below.setRow hb _ (by omega) _⟩
end Go.Proofs.Ytghngfeacpamhaa
