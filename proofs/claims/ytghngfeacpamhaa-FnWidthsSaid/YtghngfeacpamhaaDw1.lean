/-
  ringDecodeAndDecompress1: the bits of 32 bytes, decompressed. No further condition.
-/
import Derived.Test.YtghngfeacpamhaaDig
import Derived.Test.YtghngfeacpamhaaComp
import Derived.Test.YtghngfeacpamhaaCmp
namespace Go.Proofs.Ytghngfeacpamhaa
open Go.RowKit

theorem dcmp1 (b : Int) (h : 0 ≤ b ∧ b ≤ 1) : dcmp 1 b = b * 1665 := by
  have : b = 0 ∨ b = 1 := by omega
  rcases this with rfl | rfl <;> decide
set_option maxRecDepth 100000 in
set_option maxHeartbeats 1000000 in
theorem ringDecode1_any (g : Nat → Int) (b : Nat) (t : TypeId) (w : World) (h : Has w b (arr .u8 32 g) t) (hg : ∀ i, i < 32 → 0 ≤ g i ∧ g i < 256) :
    Calls Try.prog 47 #[.pointer (some ⟨b, 0, none⟩)] w fun e w' => e = .returned (.agg (arr .u16 256 (fun i => dcmp 1 (dig (strm g 8) 1 i)))) ∧ Below w.heap.size w w' := by
  have HG := Lib.hid hg; clear hg
  have SB := Lib.hid (strm_bd g 8)
  have hbt := h.lt
  go_enter Try.func47, Try.ntmps47
  go_wp2_with (refine wpList_alloc_zero rfl 50 rfl _ zero50 ?_; simp only [Act.put, List.setIfInBounds_toArray, List.set_cons_succ, List.set_cons_zero, World.size_alloc])
  obtain ⟨W, hW, h0, h1, hw, HS⟩ := pack2 w (arr .u16 256 fun _ => 0) (arr .u16 256 fun _ => 0) 50 50
  rw [← hW]
  clear hW HS
  go_loopw [4, 5, 6] (fun _ _ i wr => ∃ k : Nat, k ≤ 256 ∧ i = .int .i64 k ∧ Below w.heap.size w wr ∧ Has wr w.heap.size (arr .u16 256 fun _ => 0) 50 ∧ Has wr (w.heap.size + 1) (arr .u16 256 (upto (fun i => dcmp 1 (dig (strm g 8) 1 i)) k)) 50) (fun _ _ i _ => 256 - (intOf i).toNat)
  case atStart => exact ⟨0, by omega, rfl, hw, h0, by rw [upto_zero]; exact h1⟩
  case round =>
    obtain ⟨k, hk, rfl, hb, h0, h1⟩ := hrel
    by_cases hlt : k < 256
    · have hlt' : (k : Int) < 256 := by omega
      have hn3 : k / 8 < 32 := by omega
      have c0 := (h.below hb hbt).cell (k / 8) hn3
      have c1 := h1.cell k hlt
      have z1 := h1.free k
      obtain ⟨g0, g1⟩ := HG.out (k / 8) hn3
      have bb := SB.out k
      have EU := Lib.hid (show upd (upto (fun i => dcmp 1 (dig (strm g 8) 1 i)) k) k (strm g 8 k * 1665) = upto (fun i => dcmp 1 (dig (strm g 8) 1 i)) (k + 1) by
        rw [← dcmp1 _ bb, ← upto_succ]
        congr 1
        simp [dig, bts])
      have q0 : (k : Int).tdiv 8 = (k : Int) / 8 := Int.tdiv_eq_ediv_of_nonneg (by omega)
      have q1 : (k : Int).tmod 8 = (k : Int) % 8 := Int.tmod_eq_emod_of_nonneg (by omega)
      have q2 : IntKind.i64.wrap ((k : Int) / 8) = (k : Int) / 8 := IntWalk.i64_in _ (by omega)
      have q3 : IntKind.i64.wrap ((k : Int) % 8) = (k : Int) % 8 := IntWalk.i64_in _ (by omega)
      have q4 : ((k : Int) / 8).toNat = k / 8 := by omega
      have q5 : ((k : Int) % 8).toNat = k % 8 := by omega
      have q6 : (0 : Int) ≤ (k : Int) / 8 := by omega
      have q7 : (k : Int) / 8 < 32 := by omega
      have q8 : (0 : Int) ≤ (k : Int) % 8 := by omega
      have q9 : (k : Int) % 8 < 8 := by omega
      have SE := Lib.hid (show strm g 8 k = g (k / 8) / 2 ^ (k % 8) % 2 from rfl)
      generalize g (k / 8) = X at *
      have q10 : bits .and .u8 (X / 2 ^ (k % 8)) 1 = X / 2 ^ (k % 8) % 2 := and1_u8 _ (Int.ediv_nonneg g0 (Int.le_of_lt (two_pos _))) (by have := Int.ediv_le_self (2 ^ (k % 8)) g0; omega)
      rw [← SE.out] at q10
      clear SE
      generalize strm g 8 k = bq at *
      have r0 : IntKind.u16.wrap bq = bq := IntWalk.u16_in _ (by omega)
      have r1 : IntKind.u16.wrap (bq * 1665) = bq * 1665 := IntWalk.u16_in _ (by omega)
      go_wp2
      go_roundw
      case rel => exact ⟨k + 1, by omega, by go_num, below_set hb _ _ (by omega) _, h0.other _ _ _ (by omega), by rw [← EU.out]; exact h1.set _ _⟩
      case measure => simp [intOf]; omega
    · obtain rfl : k = 256 := by omega
      go_wp2_with (first | (refine ld_arr rfl 50 _ rfl (w.heap.size + 1) rfl 50 .u16 256 _ _ h1.out Try.underlying50 size50 ?_; simp only [Act.put, List.setIfInBounds_toArray, List.set_cons_succ, List.set_cons_zero, World.size_alloc]) | (refine st_arr rfl 50 _ _ rfl (w.heap.size) rfl .u16 256 _ rfl 50 .u16 _ h0.out size50 ?_; simp only [Act.put, List.setIfInBounds_toArray, List.set_cons_succ, List.set_cons_zero, World.size_alloc]))
      exact bodyPost_ret (res_arr rfl _ _ (w.heap.size) 50 .u16 256 _ _ rfl (h0.row _).out Try.underlying50 size50) rfl ⟨by rw [upto_all], Below.setRow hb _ (by omega) _⟩
end Go.Proofs.Ytghngfeacpamhaa
