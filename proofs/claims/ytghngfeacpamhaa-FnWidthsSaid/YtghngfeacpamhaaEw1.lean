/-
  ringCompressAndEncode1: one bit a number, compressed. Condition: numbers below 3329.
-/
import Derived.Test.YtghngfeacpamhaaSfa
import Derived.Test.YtghngfeacpamhaaComp
import Derived.Test.YtghngfeacpamhaaCmp
import Derived.Test.YtghngfeacpamhaaBack
import Derived.Laws.Tables
namespace Go.Proofs.Ytghngfeacpamhaa
open Go.RowKit

theorem zero_arr (n : Nat) : Builtin.zeroCells #[.int .u8 0] n = arr .u8 n fun _ => 0 := by
  apply Array.ext
  · simp [Builtin.zeroCells, arr_size]
  · intro i h1 h2
    rw [arr_size] at h2
    have h := arr_get .u8 n (fun _ => 0) i h2
    rw [Array.getElem?_eq_getElem (by rw [arr_size]; exact h2)] at h
    rw [Option.some.inj h]
    simp [Builtin.zeroCells, Nat.mod_one]
theorem run_clear (w : World) (b n : Nat) (f : Nat → Int) (t ty : TypeId) (hn : 0 < n) (hg : w.heap[b]? = some (.cells (arr .u8 n f) t (0, 0))) :
    (Builtin.clear_ #[29] ty #[.slice (some ⟨b, 0, none⟩) n n]).run Try.prog w = .ok (.tuple #[]) (w.setRow b (arr .u8 n fun _ => 0)) := by
  obtain ⟨m, rfl⟩ : ∃ m, n = m + 1 := ⟨n - 1, by omega⟩
  have hz : (zeroValue 5).run Try.prog w = .ok (.int .u8 0) w := by kernel_rfl
  have hs := run_storeCells_from (P := Try.prog) b t (arr .u8 (m + 1) fun _ => 0).toList 0 (arr .u8 (m + 1) f) w hg (by simp [arr_size]) (fun v hv => (Array.all_eq_true_iff_forall_mem.1 (arr_one .u8 (m + 1) fun _ => 0)) v (by simpa using hv))
  simp only [List.take_zero, List.nil_append, Array.toArray_toList] at hs
  simp [Builtin.clear_, Sem.run_bind, run_underlying Try.underlying29, hz, Value.cells, zero_arr, hs]
set_option maxRecDepth 100000 in
set_option maxHeartbeats 1000000 in
theorem ringEncode1_any (f : Nat → Int) (w : World) (hf : ∀ i, i < 256 → 0 ≤ f i ∧ f i < 3329) :
    Calls Try.prog 52 #[.slice none 0 0, .agg (arr .u16 256 f)] w fun e w' => ∃ v, e = .returned v ∧ Bys w' v 32 (byt (strm (fun i => cmpr 1 (f i)) 1)) ∧ Below w.heap.size w w' := by
  have SB := Lib.hid (strm_bd (fun i => cmpr 1 (f i)) 1)
  have HF := Lib.hid hf; clear hf
  go_enter Try.func52, Try.ntmps52
  go_wp2_with fail
  refine (sliceForAppend_any 32 _ (by omega) (by omega)).mono ?_
  rintro e w1 ⟨rfl, rfl⟩
  obtain ⟨W, hW, h0, h1, hw, HS⟩ := pack2 w (arr .u16 256 f) (arr .u8 32 fun _ => 0) 50 5
  simp only [World.size_alloc]
  rw [← hW]
  clear hW HS
  have hcl := fun ty => run_clear W (w.heap.size + 1) 32 _ 5 ty (by omega) h1.out
  go_wp2_with fail
  obtain ⟨W2, hW2, e0, e1, eb⟩ : ∃ W2, W2 = W.setRow (w.heap.size + 1) (arr .u8 32 fun _ => 0) ∧ Has W2 (w.heap.size) (arr .u16 256 f) 50 ∧ Has W2 (w.heap.size + 1) (arr .u8 32 fun _ => 0) 5 ∧ Below w.heap.size w W2 :=
    ⟨_, rfl, h0.row_other _ _ (by omega), h1.row _, Below.setRow hw _ (by omega) _⟩
  rw [← hW2]
  clear hW2 h0 h1 hw hcl
  go_loopw [6, 13] (fun _ i wr => ∃ k : Nat, k ≤ 256 ∧ i = .int .i64 k ∧ Below w.heap.size w wr ∧ Has wr (w.heap.size) (arr .u16 256 f) 50 ∧ Has wr (w.heap.size + 1) (arr .u8 32 (cut (strm (fun i => cmpr 1 (f i)) 1) k)) 5) (fun _ i _ => 256 - (intOf i).toNat)
  case atStart => exact ⟨0, by omega, rfl, eb, e0, by rw [cut_zero]; exact e1⟩
  case round =>
    obtain ⟨k, hk, rfl, hb, h0, h1⟩ := hrel
    by_cases hlt : k < 256
    · obtain ⟨f0, f1⟩ := HF.out k hlt
      have hlt' : (k : Int) < 256 := by omega
      have hn3 : k / 8 < 32 := by omega
      have c0 := h0.cell k hlt
      have c1 := h1.cell (k / 8) hn3
      have z1 := h1.free (k / 8)
      have CC := Lib.hid fun W => compress_1 (f k) W f0 f1
      have cb : 0 ≤ cmpr 1 (f k) ∧ cmpr 1 (f k) ≤ 1 := by have := cmpr_bd 1 (f k); omega
      have SE : strm (fun i => cmpr 1 (f i)) 1 k = cmpr 1 (f k) := by
        unfold strm bt
        rw [Nat.div_one, Nat.mod_one, Int.pow_zero, Int.ediv_one]
        show cmpr 1 (f k) % 2 = cmpr 1 (f k)
        omega
      have ob := cut_bd (strm (fun i => cmpr 1 (f i)) 1) SB.out k
      have EC := Lib.hid (cut_succ (strm (fun i => cmpr 1 (f i)) 1) k)
      rw [SE] at EC
      clear SE
      generalize cmpr 1 (f k) = b at *
      generalize hO : cut (strm (fun i => cmpr 1 (f i)) 1) k (k / 8) = O at *
      have P8 : (2 : Int) ^ (k % 8) ≤ 128 ∧ O + b * 2 ^ (k % 8) < 256 := by
        have : k % 8 < 8 := by omega
        generalize k % 8 = r at *
        have hb2 : b = 0 ∨ b = 1 := by omega
        match r, this with
        | 0, _ | 1, _ | 2, _ | 3, _ | 4, _ | 5, _ | 6, _ | 7, _ => rcases hb2 with rfl | rfl <;> simp at ob ⊢ <;> omega
      have P9 : 0 ≤ b * 2 ^ (k % 8) ∧ b * 2 ^ (k % 8) < 256 := ⟨Int.mul_nonneg cb.1 (Int.le_of_lt (two_pos _)), by omega⟩
      have q0 : (k : Int).tdiv 8 = (k : Int) / 8 := Int.tdiv_eq_ediv_of_nonneg (by omega)
      have q1 : (k : Int).tmod 8 = (k : Int) % 8 := Int.tmod_eq_emod_of_nonneg (by omega)
      have q2 : IntKind.i64.wrap ((k : Int) / 8) = (k : Int) / 8 := IntWalk.i64_in _ (by omega)
      have q3 : IntKind.i64.wrap ((k : Int) % 8) = (k : Int) % 8 := IntWalk.i64_in _ (by omega)
      have q4 : ((k : Int) / 8).toNat = k / 8 := by omega
      have q5 : ((k : Int) % 8).toNat = k % 8 := by omega
      have q6 : (0 : Int) ≤ (k : Int) / 8 := by omega
      have q7 : (k : Int) / 8 < 32 := by omega
      have q8 : (0 : Int) ≤ (k : Int) % 8 := by omega
      have q9 : (k : Int) % 8 < 8 := by omega
      have r0 : IntKind.u16.wrap (b * 2 ^ (k % 8)) = b * 2 ^ (k % 8) := IntWalk.u16_in _ (by omega)
      have r1 : IntKind.u8.wrap (b * 2 ^ (k % 8)) = b * 2 ^ (k % 8) := IntWalk.u8_in _ (by omega)
      have r2 := or_u8 O b (k % 8) ob.1 ob.2 cb.1 P8.2
      go_wp2_with fail
      refine wp_region_still_tail 15 (by kernel_rfl) (by kernel_rfl) ?_
      simp only [List.take_succ_cons, List.take_zero, List.drop_succ_cons, List.drop_zero]
      repeat still_step
      still_call (still_flip (CC.out _))
      repeat still_step
      refine wpStill_nil ?_
      change wpList _ _ _ _ _ wr.drew
      have d0 := h0.drew
      have d1 := h1.drew
      have db := hb.drew
      clear h0 h1 hb c0 c1 z1
      generalize wr.drew = wd at *
      have c1 := d1.cell (k / 8) hn3
      have z1 := d1.free (k / 8)
      go_wp2
      go_roundw
      case rel => exact ⟨k + 1, by omega, by go_num, below_set db _ _ (by omega) _, d0.other _ _ _ (by omega), by rw [← EC.out]; exact d1.set _ _⟩
      case measure => simp [intOf]; omega
    · obtain rfl : k = 256 := by omega
      go_wp2_with fail
      go_ret
      exact ⟨_, rfl, ⟨_, _, _, rfl, Nat.le_refl _, fun i hi => by rw [Nat.zero_add, h1.cell i hi, cut_all _ _ _ (by omega)]⟩, hb⟩
end Go.Proofs.Ytghngfeacpamhaa
