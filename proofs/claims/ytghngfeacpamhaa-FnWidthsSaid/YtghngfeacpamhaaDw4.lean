/-
  ringDecodeAndDecompress4: the halves of 128 bytes, decompressed. No further condition.
-/
import Derived.Test.YtghngfeacpamhaaDig
import Derived.Test.YtghngfeacpamhaaComp
import Derived.Test.YtghngfeacpamhaaCmp
import Derived.Laws.BitsLemmas
namespace Go.Proofs.Ytghngfeacpamhaa
open Go.RowKit

theorem dig4_0 (g : Nat → Int) (k : Nat) : dig (strm g 8) 4 (2 * k) = g k % 16 := by
  have h := bts_strm g 8 k 0 4 (by omega)
  unfold dig
  rw [show 2 * k * 4 = k * 8 + 0 by omega, h]; simp
theorem dig4_1 (g : Nat → Int) (k : Nat) (h0 : 0 ≤ g k ∧ g k < 256) : dig (strm g 8) 4 (2 * k + 1) = g k / 16 := by
  have h := bts_strm g 8 k 4 4 (by omega)
  unfold dig
  rw [show (2 * k + 1) * 4 = k * 8 + 4 by omega, h]; simp; omega
set_option maxRecDepth 100000 in
set_option maxHeartbeats 1000000 in
theorem ringDecode4_any (g : Nat → Int) (b : Nat) (t : TypeId) (w : World) (h : Has w b (arr .u8 128 g) t) (hg : ∀ i, i < 128 → 0 ≤ g i ∧ g i < 256) :
    Calls Try.prog 48 #[.pointer (some ⟨b, 0, none⟩)] w fun e w' => e = .returned (.agg (arr .u16 256 (fun i => dcmp 4 (dig (strm g 8) 4 i)))) ∧ Below w.heap.size w w' := by
  have HG := Lib.hid hg; clear hg
  have hbt := h.lt
  go_enter Try.func48, Try.ntmps48
  go_wp2_with (refine wpList_alloc_zero rfl 50 rfl _ zero50 ?_; simp only [Act.put, List.setIfInBounds_toArray, List.set_cons_succ, List.set_cons_zero, World.size_alloc])
  obtain ⟨W, hW, h0, h1, hw, HS⟩ := pack2 w (arr .u16 256 fun _ => 0) (arr .u16 256 fun _ => 0) 50 50
  rw [← hW]
  clear hW HS
  go_loopw [4] (fun i wr => ∃ k : Nat, k ≤ 128 ∧ i = .int .i64 (2 * k : Nat) ∧ Below w.heap.size w wr ∧ Has wr w.heap.size (arr .u16 256 fun _ => 0) 50 ∧ Has wr (w.heap.size + 1) (arr .u16 256 (upto (fun i => dcmp 4 (dig (strm g 8) 4 i)) (2 * k))) 50) (fun i _ => 256 - (intOf i).toNat)
  case atStart => exact ⟨0, by omega, rfl, hw, h0, by rw [Nat.mul_zero, upto_zero]; exact h1⟩
  case round =>
    obtain ⟨k, hk, rfl, hb, h0, h1⟩ := hrel
    by_cases hlt : k < 128
    · have c0 := (h.below hb hbt).cell k hlt
      obtain ⟨g0, g1⟩ := HG.out k hlt
      have EU := Lib.hid (show upd (upd (upto (fun i => dcmp 4 (dig (strm g 8) 4 i)) (2 * k)) (2 * k) (dcmp 4 (g k % 16))) (2 * k + 1) (dcmp 4 (g k / 16)) = upto (fun i => dcmp 4 (dig (strm g 8) 4 i)) (2 * (k + 1)) by
        rw [show 2 * (k + 1) = 2 * k + 1 + 1 by omega, ← upto_succ, ← upto_succ, dig4_0, dig4_1 g k ⟨g0, g1⟩])
      have EC := Lib.hid (show ((2 * (k + 1) : Nat) : Int) = ((2 * k : Nat) : Int) + 2 by omega)
      have s1 : wr.cell? ⟨w.heap.size + 1, 2 * k, none⟩ = some _ := h1.cell (2 * k) (by omega)
      have z1 := h1.free (2 * k)
      have s2 : (wr.setCell ⟨w.heap.size + 1, 2 * k, none⟩ (.int .u16 (dcmp 4 (g k % 16)))).cell? ⟨w.heap.size + 1, 2 * k + 1, none⟩ = some _ := (h1.set (2 * k) _).cell (2 * k + 1) (by omega)
      have z2 : (wr.setCell ⟨w.heap.size + 1, 2 * k, none⟩ (.int .u16 (dcmp 4 (g k % 16)))).frozen? ⟨w.heap.size + 1, 2 * k + 1, none⟩ = false := (h1.set (2 * k) _).free (2 * k + 1)
      have c0' := ((h.below hb hbt).other (w.heap.size + 1) (2 * k) (.int .u16 (dcmp 4 (g k % 16))) (by omega)).cell k hlt
      generalize hX : g k = X at *
      have q1 : ((2 * k : Nat) : Int).tdiv 2 = (k : Int) := by rw [Int.tdiv_eq_ediv_of_nonneg (by omega)]; omega
      generalize hi : 2 * k = i at *
      have q2 : IntKind.i64.wrap (k : Int) = (k : Int) := IntWalk.i64_in _ (by omega)
      have q3 : (i : Int) < 256 := by omega
      have q4 : (k : Int) < 128 := by omega
      have x3 : ((i : Int) + 1).toNat = i + 1 := by omega
      have q5 : (0 : Int) ≤ (i : Int) + 1 := by omega
      have q6 : (i : Int) + 1 < 256 := by omega
      have m0 : bits .and .u8 X 15 = X % 16 := u8_and15 X g0 g1
      have m1 : IntKind.u16.wrap (X % 16) = X % 16 := IntWalk.u16_in _ (by omega)
      have m2 : IntKind.u16.wrap (X / 16) = X / 16 := IntWalk.u16_in _ (by omega)
      have HI := Lib.hid hi; clear hi
      have HX := Lib.hid hX; clear hX
      go_wp2_with (go_at_call 60; refine (decompress_4 _ _ ?_ ?_).mono ?_; omega; omega; rintro e w1 ⟨rfl, rfl⟩)
      go_roundw
      case rel => exact ⟨k + 1, by omega, by rw [EC.out], below_set (below_set hb _ _ (by omega) _) _ _ (by omega) _, (h0.other _ _ _ (by omega)).other _ _ _ (by omega), by rw [← EU.out]; exact (h1.set _ _).set _ _⟩
      case measure => simp [intOf]; omega
    · obtain rfl : k = 128 := by omega
      rw [show 2 * 128 = 256 from rfl] at *
      rw [show ((256 : Nat) : Int) = 256 from rfl] at *
      go_wp2_with (first | (refine ld_arr rfl 50 _ rfl (w.heap.size + 1) rfl 50 .u16 256 _ _ h1.out Try.underlying50 size50 ?_; simp only [Act.put, List.setIfInBounds_toArray, List.set_cons_succ, List.set_cons_zero, World.size_alloc]) | (refine st_arr rfl 50 _ _ rfl (w.heap.size) rfl .u16 256 _ rfl 50 .u16 _ h0.out size50 ?_; simp only [Act.put, List.setIfInBounds_toArray, List.set_cons_succ, List.set_cons_zero, World.size_alloc]))
      exact bodyPost_ret (res_arr rfl _ _ (w.heap.size) 50 .u16 256 _ _ rfl (h0.row _).out Try.underlying50 size50) rfl ⟨by rw [upto_all], Below.setRow hb _ (by omega) _⟩
end Go.Proofs.Ytghngfeacpamhaa
