/-
  ringCompressAndEncode4: four bits a number, compressed. Condition: numbers below 3329.
-/
import Derived.Test.YtghngfeacpamhaaSfa
import Derived.Test.YtghngfeacpamhaaComp
import Derived.Test.YtghngfeacpamhaaCmp
import Derived.Test.YtghngfeacpamhaaBack
import Derived.Test.YtghngfeacpamhaaBit2
namespace Go.Proofs.Ytghngfeacpamhaa
open Go.RowKit

set_option maxRecDepth 100000 in
set_option maxHeartbeats 1000000 in
theorem ringEncode4_any (f : Nat → Int) (w : World) (hf : ∀ i, i < 256 → 0 ≤ f i ∧ f i < 3329) :
    Calls Try.prog 53 #[.slice none 0 0, .agg (arr .u16 256 f)] w fun e w' => ∃ v, e = .returned v ∧ Bys w' v 128 (byt (strm (fun i => cmpr 4 (f i)) 4)) ∧ Below w.heap.size w w' := by
  have HF := Lib.hid hf; clear hf
  go_enter Try.func53, Try.ntmps53
  go_wp2_with fail
  refine (sliceForAppend_any 128 _ (by omega) (by omega)).mono ?_
  rintro e w1 ⟨rfl, rfl⟩
  obtain ⟨W, hW, h0, h1, hw, HS⟩ := pack2 w (arr .u16 256 f) (arr .u8 128 fun _ => 0) 50 5
  simp only [World.size_alloc]
  rw [← hW]
  clear hW HS
  go_wp2_with fail
  go_loopw [6] (fun i wr => ∃ k : Nat, k ≤ 128 ∧ i = .int .i64 (2 * k : Nat) ∧ Below w.heap.size w wr ∧ Has wr (w.heap.size) (arr .u16 256 f) 50 ∧ Has wr (w.heap.size + 1) (arr .u8 128 (upto (byt (strm (fun i => cmpr 4 (f i)) 4)) k)) 5) (fun i _ => 256 - (intOf i).toNat)
  case atStart => exact ⟨0, by omega, rfl, hw, h0, by rw [upto_zero]; exact h1⟩
  case round =>
    obtain ⟨k, hk, rfl, hb, h0, h1⟩ := hrel
    by_cases hlt : k < 128
    · obtain ⟨f0, f1⟩ := HF.out (2 * k) (by omega)
      obtain ⟨f2, f3⟩ := HF.out (2 * k + 1) (by omega)
      have c0 : wr.cell? ⟨w.heap.size, 2 * k, none⟩ = some _ := h0.cell (2 * k) (by omega)
      have c1 : wr.cell? ⟨w.heap.size, 2 * k + 1, none⟩ = some _ := h0.cell (2 * k + 1) (by omega)
      have C0 := Lib.hid fun W => compress_4 (f (2 * k)) W f0 f1
      have C1 := Lib.hid fun W => compress_4 (f (2 * k + 1)) W f2 f3
      have b0 := cmpr_bd 4 (f (2 * k))
      have b1 := cmpr_bd 4 (f (2 * k + 1))
      rw [show (2 : Int) ^ 4 = 16 from rfl] at b0 b1
      have EB := Lib.hid (byt4 (fun i => cmpr 4 (f i)) k b0 b1)
      have EU := Lib.hid (upto_succ (byt (strm (fun i => cmpr 4 (f i)) 4)) k)
      rw [EB.out] at EU
      clear EB
      have EC := Lib.hid (show ((2 * (k + 1) : Nat) : Int) = ((2 * k : Nat) : Int) + 2 by omega)
      have q1 : ((2 * k : Nat) : Int).tdiv 2 = (k : Int) := by rw [Int.tdiv_eq_ediv_of_nonneg (by omega)]; omega
      generalize cmpr 4 (f (2 * k)) = A0 at *
      generalize cmpr 4 (f (2 * k + 1)) = A1 at *
      generalize f (2 * k) = Y0 at *
      generalize f (2 * k + 1) = Y1 at *
      generalize hi : 2 * k = i at *
      have q2 : IntKind.i64.wrap (k : Int) = (k : Int) := IntWalk.i64_in _ (by omega)
      have q3 : (i : Int) < 256 := by omega
      have q4 : (k : Int) < 128 := by omega
      have x3 : ((i : Int) + 1).toNat = i + 1 := by omega
      have q5 : (0 : Int) ≤ (i : Int) + 1 := by omega
      have q6 : (i : Int) + 1 < 256 := by omega
      have q7 : IntKind.i64.wrap ((i : Int) + 1) = (i : Int) + 1 := IntWalk.i64_in _ (by omega)
      have r0 : IntKind.u16.wrap (A1 * 16) = A1 * 16 := IntWalk.u16_in _ (by omega)
      have r1 := or_u16 A0 A1 4 b0.1 (by omega) b1.1 (by omega)
      rw [show (2 : Int) ^ 4 = 16 from rfl] at r1
      have r2 : IntKind.u8.wrap (A0 + A1 * 16) = A0 + A1 * 16 := IntWalk.u8_in _ (by omega)
      have HI := Lib.hid hi; clear hi
      have z1 := h1.free k
      have g1 : wr.cell? ⟨w.heap.size + 1, k, none⟩ = some _ := h1.cell k hlt
      go_wp2_with fail
      refine wp_region_still_tail 16 (by kernel_rfl) (by kernel_rfl) ?_
      simp only [List.take_succ_cons, List.take_zero, List.drop_succ_cons, List.drop_zero]
      repeat still_step
      still_call (still_flip (C0.out _))
      repeat still_step
      still_call (still_flip (C1.out _))
      repeat still_step
      refine wpStill_nil ?_
      change wpList _ _ _ _ _ wr.drew
      have d0 := h0.drew
      have d1 := h1.drew
      have db := hb.drew
      clear h0 h1 hb c0 c1 z1 g1
      generalize wr.drew = wd at *
      have c1 := d1.cell k hlt
      have z1 := d1.free k
      go_wp2
      go_roundw
      case rel => exact ⟨k + 1, by omega, by rw [EC.out], below_set db _ _ (by omega) _, d0.other _ _ _ (by omega), by rw [← EU.out]; exact d1.set _ _⟩
      case measure => simp [intOf]; omega
    · obtain rfl : k = 128 := by omega
      rw [show 2 * 128 = 256 from rfl] at *
      rw [show ((256 : Nat) : Int) = 256 from rfl] at *
      go_wp2_with fail
      go_ret
      exact ⟨_, rfl, ⟨_, _, _, rfl, Nat.le_refl _, fun i hi => by rw [Nat.zero_add]; have := h1.cell i hi; rwa [show upto (byt (strm (fun i => cmpr 4 (f i)) 4)) 128 i = byt (strm (fun i => cmpr 4 (f i)) 4) i by simp [upto]; omega] at this⟩, hb⟩
end Go.Proofs.Ytghngfeacpamhaa
