/-
  polyByteEncode: the 384 bytes of a polynomial. Condition: all numbers are below 4096.
-/
import Derived.Test.YtghngfeacpamhaaSfa
import Derived.Test.YtghngfeacpamhaaCopy
import Derived.Test.YtghngfeacpamhaaField
namespace Go.Proofs.Ytghngfeacpamhaa
open Go.RowKit

theorem byt12_0 (f : Nat → Int) (k : Nat) : byt (strm f 12) (3 * k) = f (2 * k) % 256 := by
  have h := bts_strm f 12 (2 * k) 0 8 (by omega)
  unfold byt
  rw [show 3 * k * 8 = 2 * k * 12 + 0 by omega, h]; simp
theorem byt12_1 (f : Nat → Int) (k : Nat) : byt (strm f 12) (3 * k + 1) = f (2 * k) / 256 % 16 + 16 * (f (2 * k + 1) % 16) := by
  have h1 := bts_strm f 12 (2 * k) 8 4 (by omega)
  have h2 := bts_strm f 12 (2 * k + 1) 0 4 (by omega)
  unfold byt
  rw [show (8 : Nat) = 4 + 4 from rfl, bts_add, show (3 * k + 1) * (4 + 4) = 2 * k * 12 + 8 by omega, h1, show 2 * k * 12 + 8 + 4 = (2 * k + 1) * 12 + 0 by omega, h2]; simp
theorem byt12_2 (f : Nat → Int) (k : Nat) : byt (strm f 12) (3 * k + 2) = f (2 * k + 1) / 16 % 256 := by
  have h := bts_strm f 12 (2 * k + 1) 4 8 (by omega)
  unfold byt
  rw [show (3 * k + 2) * 8 = (2 * k + 1) * 12 + 4 by omega, h]; simp
theorem three_upto (h : Nat → Int) (n : Nat) : upd (upd (upd (upto h n) n (h n)) (n + 1) (h (n + 1))) (n + 2) (h (n + 2)) = upto h (n + 3) := by
  rw [upto_succ, upto_succ, upto_succ]
set_option maxRecDepth 100000 in
set_option maxHeartbeats 1000000 in
theorem polyByteEncode_any (f : Nat → Int) (w : World) (hf : ∀ i, i < 256 → 0 ≤ f i ∧ f i < 4096) :
    Calls Try.prog 43 #[.slice none 0 0, .agg (arr .u16 256 f)] w fun e w' => ∃ v, e = .returned v ∧ Bys w' v 384 (byt (strm f 12)) ∧ Below w.heap.size w w' := by
  have HF := Lib.hid hf; clear hf
  go_enter Try.func43, Try.ntmps43
  go_wp2_with fail
  refine (sliceForAppend_any 384 _ (by omega) (by omega)).mono ?_
  rintro e w1 ⟨rfl, rfl⟩
  go_wp2_with fail
  obtain ⟨W, hW, h0, h1, hw, HS⟩ := pack2 w (arr .u16 256 f) (arr .u8 384 fun _ => 0) 50 5
  rw [← hW]
  clear hW HS
  go_loopw [6, 7, 8] (fun b i _ wr => ∃ k : Nat, k ≤ 128 ∧ i = .int .i64 (2 * k : Nat) ∧ (k < 128 → b = .slice (some ⟨w.heap.size + 1, 3 * k, none⟩) (384 - 3 * k) (384 - 3 * k)) ∧ Below w.heap.size w wr ∧ Has wr w.heap.size (arr .u16 256 f) 50 ∧ Has wr (w.heap.size + 1) (arr .u8 384 (upto (byt (strm f 12)) (3 * k))) 5) (fun _ i _ _ => 256 - (intOf i).toNat)
  case atStart => exact ⟨0, by omega, rfl, fun _ => rfl, hw, h0, by rw [Nat.mul_zero, upto_zero]; exact h1⟩
  case round =>
    obtain ⟨k, hk, rfl, hB, hb, h0, h1⟩ := hrel
    by_cases hlt : k < 128
    · obtain rfl := hB hlt
      clear hB
      obtain ⟨f0, f1⟩ := HF.out (2 * k) (by omega)
      obtain ⟨f2, f3⟩ := HF.out (2 * k + 1) (by omega)
      have c0 := h0.cell (2 * k) (by omega)
      have c1 := h0.cell (2 * k + 1) (by omega)
      have EX := Lib.hid (show f (2 * k) + f (2 * k + 1) * 4096 < 16777216 ∧ (f (2 * k) + f (2 * k + 1) * 4096) % 256 = byt (strm f 12) (3 * k) ∧ (f (2 * k) + f (2 * k + 1) * 4096) / 256 % 256 = byt (strm f 12) (3 * k + 1) ∧ (f (2 * k) + f (2 * k + 1) * 4096) / 65536 % 256 = byt (strm f 12) (3 * k + 2) by
        rw [byt12_0, byt12_1, byt12_2]; omega)
      have EU := Lib.hid (three_upto (byt (strm f 12)) (3 * k))
      have o1 := or_u32 (f (2 * k)) (f (2 * k + 1)) 12 f0 (by omega) f2 (by omega)
      have EC := Lib.hid (show ((2 * (k + 1) : Nat) : Int) = ((2 * k : Nat) : Int) + 2 by omega)
      obtain ⟨L, hL⟩ : ∃ L, L = 384 - 3 * k := ⟨_, rfl⟩
      rw [← hL]
      have l1 : 3 * k + L = 384 := by omega
      have l2 : 3 ≤ L := by omega
      have l3 : (0 : Int) < (L : Int) := by omega
      have l4 : (1 : Int) < (L : Int) := by omega
      have l5 : (2 : Int) < (L : Int) := by omega
      have l6 : (3 : Int) ≤ (L : Int) := by omega
      clear hL
      generalize hi : 2 * k = i at *
      have hi2 : i < 255 := by omega
      generalize f i = X at *
      generalize f (i + 1) = Y at *
      have x1 : ((i : Int) + 1).toNat = i + 1 := by omega
      have q1 : (0 : Int) ≤ (i : Int) + 1 := by omega
      have q2 : (i : Int) + 1 < 256 := by omega
      have q3 : (i : Int) < 256 := by omega
      have y1 : IntKind.i64.wrap ((i : Int) + 1) = (i : Int) + 1 := IntWalk.i64_in _ (by omega)
      have y2 : IntKind.u32.wrap X = X := u32_in _ (by omega) (by omega)
      have y3 : IntKind.u32.wrap Y = Y := u32_in _ (by omega) (by omega)
      have y4 : IntKind.u32.wrap (Y * 4096) = Y * 4096 := u32_in _ (by omega) (by omega)
      rw [show (2 : Int) ^ 12 = 4096 from rfl] at o1
      go_wp2_with fail
      go_quiet (fail)
      have d0 := h0.drewN nq
      have d1 := h1.drewN nq
      have db : Below w.heap.size w (wr.drewN nq) := ⟨hb.os, hb.tape, hb.output, hb.size, hb.block⟩
      clear h0 h1 hb c0 c1 o1 y1 y2 y3 y4
      generalize wr.drewN nq = wd at *
      have Z0 : 0 ≤ X + Y * 4096 := by omega
      generalize X + Y * 4096 = Z at *
      obtain ⟨e0, e1, e2, e3⟩ := EX.out
      clear EX
      have g1 : wd.cell? ⟨w.heap.size + 1, 3 * k, none⟩ = some _ := d1.cell (3 * k) (by omega)
      have z1 := d1.free (3 * k)
      have g2 : ∀ a, (wd.setCell ⟨w.heap.size + 1, 3 * k, none⟩ (.int .u8 a)).cell? ⟨w.heap.size + 1, 3 * k + 1, none⟩ = some _ := fun a => (d1.set (3 * k) a).cell (3 * k + 1) (by omega)
      have z2 : ∀ a, (wd.setCell ⟨w.heap.size + 1, 3 * k, none⟩ (.int .u8 a)).frozen? ⟨w.heap.size + 1, 3 * k + 1, none⟩ = false := fun a => (d1.set (3 * k) a).free (3 * k + 1)
      have g3 : ∀ a b, ((wd.setCell ⟨w.heap.size + 1, 3 * k, none⟩ (.int .u8 a)).setCell ⟨w.heap.size + 1, 3 * k + 1, none⟩ (.int .u8 b)).cell? ⟨w.heap.size + 1, 3 * k + 2, none⟩ = some _ := fun a b => ((d1.set (3 * k) a).set (3 * k + 1) b).cell (3 * k + 2) (by omega)
      have z3 : ∀ a b, ((wd.setCell ⟨w.heap.size + 1, 3 * k, none⟩ (.int .u8 a)).setCell ⟨w.heap.size + 1, 3 * k + 1, none⟩ (.int .u8 b)).frozen? ⟨w.heap.size + 1, 3 * k + 2, none⟩ = false := fun a b => ((d1.set (3 * k) a).set (3 * k + 1) b).free (3 * k + 2)
      have w0 : IntKind.u8.wrap Z = byt (strm f 12) (3 * k) := by rw [IntKind.wrap_u8']; exact e1
      have w1 : IntKind.u8.wrap (Z / 256) = byt (strm f 12) (3 * k + 1) := by rw [IntKind.wrap_u8']; exact e2
      have w2 : IntKind.u8.wrap (Z / 65536) = byt (strm f 12) (3 * k + 2) := by rw [IntKind.wrap_u8']; exact e3
      go_wp2
      go_roundw
      case rel => exact ⟨k + 1, by omega, by rw [EC.out], fun hk => by rw [if_neg (by omega), show 3 * (k + 1) = 3 * k + 3 by omega, show L - 3 = 384 - (3 * k + 3) by omega], below_set (below_set (below_set db _ _ (by omega) _) _ _ (by omega) _) _ _ (by omega) _, ((d0.other _ _ _ (by omega)).other _ _ _ (by omega)).other _ _ _ (by omega), by rw [show 3 * (k + 1) = 3 * k + 3 by omega, ← EU.out]; exact ((d1.set _ _).set _ _).set _ _⟩
      case measure => simp [intOf]; omega
    · obtain rfl : k = 128 := by omega
      rw [show 2 * 128 = 256 from rfl, show ((256 : Nat) : Int) = 256 from rfl] at *
      go_wp2_with fail
      go_ret
      exact ⟨_, rfl, ⟨_, _, _, rfl, Nat.le_refl _, fun i hi => by rw [Nat.zero_add]; have := h1.cell i hi; rwa [show upto (byt (strm f 12)) (3 * 128) i = byt (strm f 12) i by simp [upto]; omega] at this⟩, hb⟩
set_option maxRecDepth 100000 in
set_option maxHeartbeats 1000000 in
theorem zzByteEncode_any (f : Nat → Int) (w : World) (hf : ∀ i, i < 256 → 0 ≤ f i ∧ f i < 4096) :
    Calls Try.prog 27 #[.slice none 0 0, .agg (arr .u16 256 f)] w fun e w' => ∃ v, e = .returned v ∧ Bys w' v 384 (byt (strm f 12)) ∧ Below w.heap.size w w' := by
  have HC := Lib.hid fun W => polyByteEncode_any f W hf
  clear hf
  go_enter Try.func27, Try.ntmps27
  go_wp2_with (refine ld_arr rfl 50 _ rfl (w.heap.size) rfl 50 .u16 256 f _ (Has.new _ _ _).out Try.underlying50 size50 ?_; simp only [Act.put, List.setIfInBounds_toArray, List.set_cons_succ, List.set_cons_zero, World.size_alloc])
  obtain ⟨W, hW, h0, hw, HS⟩ := pack1 w (arr .u16 256 f) 50
  rw [← hW]
  clear hW
  refine (HC.out _).mono ?_
  rintro e w1 ⟨v, rfl, hv, hb⟩
  have db := hw.trans (hb.mono (by omega))
  clear hb hw HS h0 HC
  go_wp2_with fail
  go_ret
  exact ⟨_, rfl, hv, db⟩
set_option maxRecDepth 100000 in
set_option maxHeartbeats 1000000 in
theorem implByteEncode_any (f : Nat → Int) (w : World) (hf : ∀ i, i < 256 → 0 ≤ f i ∧ f i < 4096) :
    Calls Try.prog 14 #[.agg (arr .u16 256 f)] w fun e w' => ∃ v, e = .returned v ∧ Bys w' v 384 (byt (strm f 12)) ∧ Below w.heap.size w w' := by
  have HC := Lib.hid fun W => zzByteEncode_any f W hf
  clear hf
  go_enter Try.func14, Try.ntmps14
  go_wp2_with (refine ld_arr rfl 23 _ rfl (w.heap.size) rfl 23 .u16 256 f _ (Has.new _ _ _).out Try.underlying23 size23 ?_; simp only [Act.put, List.setIfInBounds_toArray, List.set_cons_succ, List.set_cons_zero, World.size_alloc])
  obtain ⟨W, hW, h0, hw, HS⟩ := pack1 w (arr .u16 256 f) 23
  rw [← hW]
  clear hW
  refine (ring_any f _).mono ?_
  rintro e w1 ⟨rfl, hb⟩
  have db := hw.trans (hb.mono (by omega))
  have ds := hb.size
  clear hb hw h0
  go_wp2_with fail
  refine (HC.out _).mono ?_
  rintro e w2 ⟨v, rfl, hv, hb⟩
  have eb := db.trans (hb.mono (by omega))
  clear hb db HS HC
  go_wp2_with fail
  go_ret
  exact ⟨_, rfl, hv, eb⟩
end Go.Proofs.Ytghngfeacpamhaa
