/-
  ringCompressAndEncode: the bytes of d bits of each number, compressed. Conditions: numbers below 3329; d is 1 to 11.
-/
import Derived.Test.YtghngfeacpamhaaByt
import Derived.Test.YtghngfeacpamhaaComp
import Derived.Test.YtghngfeacpamhaaCmp
import Derived.Laws.AppendOwn
import Derived.OwnWalk
namespace Go.Proofs.Ytghngfeacpamhaa
open Go.RowKit

/-- What a round lays over the byte: q bits of the number from c on, at r. -/
theorem lay_bits (C : Int) (c d r q : Nat) (h0 : 0 ≤ C) (h1 : C < 2 ^ d) (hc : c < d) (hr : r < 8) (hq : q = 8 - r ∨ (q = d - c ∧ q ≤ 8 - r)) :
    IntKind.u8.wrap (IntKind.u8.wrap (C / 2 ^ c) * 2 ^ r) = C / 2 ^ c % 2 ^ q * 2 ^ r := by
  have hx : 0 ≤ C / 2 ^ c := Int.ediv_nonneg h0 (Int.le_of_lt (two_pos c))
  have hxl : C / 2 ^ c < 2 ^ (d - c) := by
    rw [Int.ediv_lt_iff_lt_mul (two_pos c), ← two_add, show d - c + c = d by omega]; exact h1
  generalize C / 2 ^ c = X at *
  rw [IntKind.wrap_u8', IntKind.wrap_u8', Int.mul_emod, Int.emod_emod, ← Int.mul_emod, show (256 : Int) = 2 ^ (8 - r) * 2 ^ r by rw [← two_add, show 8 - r + r = 8 by omega]; rfl, Int.mul_comm X, Int.mul_comm (2 ^ (8 - r)), Int.mul_emod_mul_of_pos, Int.mul_comm]
  · rcases hq with rfl | ⟨rfl, hle⟩
    · rfl
    · rw [Int.emod_eq_of_lt hx hxl, Int.emod_eq_of_lt hx (Int.lt_of_lt_of_le hxl (by
        obtain ⟨e, he⟩ : ∃ e, 8 - r = (d - c) + e := ⟨8 - r - (d - c), by omega⟩
        rw [he, two_add]
        have := two_pos (d - c)
        have h2 := two_pos e
        have h3 := Int.mul_le_mul_of_nonneg_left (show (1 : Int) ≤ 2 ^ e by omega) (Int.le_of_lt this)
        omega))]
  · exact two_pos r
theorem two_le8 (n : Nat) (h : n ≤ 8) : (2 : Int) ^ n ≤ 256 := by
  match n, h with
  | 0, _ | 1, _ | 2, _ | 3, _ | 4, _ | 5, _ | 6, _ | 7, _ | 8, _ => decide
theorem own_slice {w : World} {base : Nat} {e : TypeId} {size : Nat} {v : Value} {n : Nat} {xs : List Value} (h : w.ownsRow base e size v n xs) (hn : 0 < n) : ∃ g cap, v = .slice (some ⟨g, 0, none⟩) n cap ∧ n ≤ cap := by
  rcases h.2 with ⟨_, h0⟩ | ⟨g, cap, _, hv, _, _, hn, _⟩
  · omega
  · exact ⟨g, cap, hv, hn⟩
set_option maxRecDepth 100000 in
set_option maxHeartbeats 1000000 in
theorem ringEncode_any (f : Nat → Int) (d : Nat) (w : World) (d0 : 1 ≤ d) (d1 : d ≤ 11) (hf : ∀ i, i < 256 → 0 ≤ f i ∧ f i < 3329) :
    Calls Try.prog 46 #[.slice none 0 0, .agg (arr .u16 256 f), .int .u8 d] w fun e w' => ∃ v, e = .returned v ∧ Bys w' v (32 * d) (byt (strm (fun i => cmpr d (f i)) d)) ∧ Below w.heap.size w w' := by
  have HF := Lib.hid hf; clear hf
  obtain ⟨ti, hi0, hi1, hi2, hi3⟩ := info_parts info5
  have SB := Lib.hid (strm_bd (fun i => cmpr d (f i)) d)
  have pd := pow_bd d d0 d1
  go_enter Try.func46, Try.ntmps46
  go_wp2_with fail
  obtain ⟨W, hW, h0, hw, HS⟩ := pack1 w (arr .u16 256 f) 50
  rw [← hW]
  clear hW HS
  go_loopw [0, 7, 8, 9, 10, 11, 12] (fun sl b bi i _ _ _ wr => ∃ k : Nat, k ≤ 256 ∧ i = .int .i64 k ∧ b = .int .u8 (bts (strm (fun i => cmpr d (f i)) d) ((k * d) / 8 * 8) ((k * d) % 8)) ∧ bi = .int .u8 (((k * d) % 8 : Nat) : Int) ∧ Below w.heap.size w wr ∧ Has wr w.heap.size (arr .u16 256 f) 50 ∧ wr.ownsRow (w.heap.size + 1) 5 1 sl ((k * d) / 8) ((List.range ((k * d) / 8)).map fun m => .int .u8 (byt (strm (fun i => cmpr d (f i)) d) m))) (fun _ _ _ i _ _ _ _ => 256 - (intOf i).toNat)
  case atStart => exact ⟨0, by omega, rfl, by simp [bts], by simp, hw, h0, by simp, .inl ⟨rfl, by simp⟩⟩
  case round =>
    obtain ⟨k, hk, rfl, rfl, rfl, hb, h0, ho⟩ := hrel
    by_cases hlt : k < 256
    · obtain ⟨f0, f1⟩ := HF.out k hlt
      have hkd : k * d + d ≤ 256 * d := by rw [← Nat.succ_mul]; exact Nat.mul_le_mul_right d hlt
      have hlt' : (k : Int) < 256 := by omega
      have c0 := h0.cell k hlt
      go_wp2_with (go_at_call 61; refine (compress_any d (f k) _ d0 d1 f0 f1).mono ?_; rintro e w1 ⟨rfl, rfl⟩)
      obtain ⟨C0, C1⟩ : 0 ≤ cmpr d (f k) ∧ cmpr d (f k) < 2 ^ d := ⟨Int.emod_nonneg _ (by omega), Int.emod_lt_of_pos _ (by omega)⟩
      clear c0
      go_loopw [0, 7, 8, 11, 12] (fun sl b bi ci _ wr => ∃ c : Nat, c ≤ d ∧ ci = .int .u8 c ∧ b = .int .u8 (bts (strm (fun i => cmpr d (f i)) d) ((k * d + c) / 8 * 8) ((k * d + c) % 8)) ∧ bi = .int .u8 (((k * d + c) % 8 : Nat) : Int) ∧ Below w.heap.size w wr ∧ Has wr w.heap.size (arr .u16 256 f) 50 ∧ wr.ownsRow (w.heap.size + 1) 5 1 sl ((k * d + c) / 8) ((List.range ((k * d + c) / 8)).map fun m => .int .u8 (byt (strm (fun i => cmpr d (f i)) d) m))) (fun _ _ _ ci _ _ => d - (intOf ci).toNat)
      case atStart => exact ⟨0, by omega, rfl, rfl, rfl, hb, h0, ho⟩
      case round =>
        obtain ⟨c, hc, rfl, rfl, rfl, hb, h0, ho⟩ := hrel
        by_cases hcd : c < d
        · have hcd' : (c : Int) < (d : Int) := by omega
          have SE := Lib.hid fun q hq => bts_strm (fun i => cmpr d (f i)) d k c q hq
          have ob := bts_bd (strm (fun i => cmpr d (f i)) d) SB.out ((k * d + c) / 8 * 8) ((k * d + c) % 8)
          have AD := Lib.hid fun q => bts_add (strm (fun i => cmpr d (f i)) d) ((k * d + c) / 8 * 8) ((k * d + c) % 8) q
          generalize cmpr d (f k) = X at *
          generalize hn : k * d + c = n at *
          rw [show n / 8 * 8 + n % 8 = n by omega] at AD
          have hr : n % 8 < 8 := by omega
          have hm : n / 8 * 8 + n % 8 = n := by omega
          have hm2 : n < 256 * d := by omega
          generalize n % 8 = r at *
          generalize n / 8 = m at *
          generalize hO : bts (strm (fun i => cmpr d (f i)) d) (m * 8) r = O at *
          have y0 : IntKind.u8.wrap (8 - (r : Int)) = 8 - (r : Int) := IntWalk.u8_in _ (by omega)
          have y1 : IntKind.u8.wrap ((d : Int) - (c : Int)) = (d : Int) - (c : Int) := IntWalk.u8_in _ (by omega)
          by_cases hq : 8 - r ≤ d - c
          · obtain ⟨q, rfl⟩ : ∃ q, 8 - r = q := ⟨_, rfl⟩
            have hq1 : (8 : Int) - (r : Int) ≤ (d : Int) - (c : Int) := by omega
            have L := lay_bits X c d r (8 - r) C0 C1 hcd hr (.inl rfl)
            have E1 := SE.out (8 - r) (by omega)
            have E2 := AD.out (8 - r)
            have E3 := bts_bd (strm (fun i => cmpr d (f i)) d) SB.out (m * 8) (r + (8 - r))
            rw [E1] at E2
            rw [E2, show r + (8 - r) = 8 by omega] at E3
            have hY : 0 ≤ X / 2 ^ c % 2 ^ (8 - r) := Int.emod_nonneg _ (Int.ne_of_gt (two_pos _))
            generalize X / 2 ^ c % 2 ^ (8 - r) = Y at *
            have OR := or_u8 O Y r ob.1 ob.2 hY (by rw [Int.mul_comm]; omega)
            rw [IntKind.wrap_u8', IntKind.wrap_u8'] at L
            have EN := Lib.hid (show k * d + (c + (8 - r)) = (m + 1) * 8 by omega)
            have EB := Lib.hid (show byt (strm (fun i => cmpr d (f i)) d) m = O + Y * 2 ^ r by
              have e := E2
              rw [show r + (8 - r) = 8 by omega, Int.mul_comm (2 ^ r)] at e
              exact e)
            clear AD SE E1 E2 E3
            go_wp2_with (at_builtin; refine wpList_append_own _ rfl _ _ 29 rfl (w.heap.size + 1) 5 ti (.int .u8 0) 1 1 Try.underlying29 hi0 hi1 hi2 hi3 rfl (by decide) _ _ _ rfl (ho.alloc _) ⟨wr.heap.size, 0, none⟩ 1 1 [.int .u8 (O + Y * 2 ^ r)] rfl rfl ?c1 ?c2 ?c3 ?c4 ?c5 ?_)
            case c1 => exact cell_one_new _ _ _
            case c2 => intro u hu; simp at hu; subst hu; rfl
            case c3 => unfold maxLen; omega
            case c4 => omega
            case c5 => rw [World.size_alloc]; have := h0.lt; omega
            intro v' w' hown hgrow _
            have hb' : Below w.heap.size w w' := (hb.alloc (by have := h0.lt; omega) _).grown hgrow (by rw [World.size_alloc]; have := h0.lt; omega) (fun k hk => by have := (ho.lt k hk).1; omega)
            have h0' : Has w' w.heap.size (arr .u16 256 f) 50 := .mk ((hgrow.block _ (by rw [World.size_alloc]; have := h0.lt; omega) (fun e => by have := (ho.lt _ e.symm).1; omega)).trans (h0.alloc _).out)
            clear hb h0 ho hgrow L OR
            go_wp2_with fail
            go_roundw
            case rel =>
              refine ⟨c + (8 - r), by omega, ?_, ?_, ?_, hb', h0', ?_⟩
              · go_num
              · rw [EN.out]; simp [bts]
              · rw [EN.out]; simp
              · rw [EN.out, Nat.mul_div_cancel _ (by omega), List.range_succ, List.map_append, List.map_singleton, EB.out]; exact hown
            case measure => simp [intOf]; omega
          · have hq0 : d - c < 8 - r := by omega
            have hq1 : ¬ (8 : Int) - (r : Int) ≤ (d : Int) - (c : Int) := by omega
            have L := lay_bits X c d r (d - c) C0 C1 hcd hr (.inr ⟨rfl, by omega⟩)
            have E1 := SE.out (d - c) (by omega)
            have E2 := AD.out (d - c)
            have E3 := bts_bd (strm (fun i => cmpr d (f i)) d) SB.out (m * 8) (r + (d - c))
            rw [E1] at E2
            rw [E2] at E3
            have hY : 0 ≤ X / 2 ^ c % 2 ^ (d - c) := Int.emod_nonneg _ (Int.ne_of_gt (two_pos _))
            have h28 := two_le8 (r + (d - c)) (by omega)
            generalize X / 2 ^ c % 2 ^ (d - c) = Y at *
            have OR := or_u8 O Y r ob.1 ob.2 hY (by rw [Int.mul_comm]; omega)
            rw [IntKind.wrap_u8', IntKind.wrap_u8'] at L
            have EN := Lib.hid (show (k * d + (c + (d - c))) / 8 = m ∧ (k * d + (c + (d - c))) % 8 = r + (d - c) by omega)
            have EB := Lib.hid (show bts (strm (fun i => cmpr d (f i)) d) (m * 8) (r + (d - c)) = O + Y * 2 ^ r by
              rw [Int.mul_comm Y]; exact E2)
            have z1 : ((r : Int) + ((d : Int) - (c : Int)) == 8) = false := by simp; omega
            have z2 : IntKind.u8.wrap ((r : Int) + ((d : Int) - (c : Int))) = (r : Int) + ((d : Int) - (c : Int)) := IntWalk.u8_in _ (by omega)
            have z3 : IntKind.u8.wrap ((c : Int) + ((d : Int) - (c : Int))) = (c : Int) + ((d : Int) - (c : Int)) := IntWalk.u8_in _ (by omega)
            clear AD SE E1 E2 E3
            go_wp2_with fail
            clear L OR z1 z2 z3
            go_roundw
            case rel =>
              refine ⟨c + (d - c), by omega, ?_, ?_, ?_, hb, h0, ?_⟩
              · go_num
              · rw [EN.out.1, EN.out.2, EB.out]
              · rw [EN.out.2]; go_num
              · rw [EN.out.1]; exact ho
            case measure => simp [intOf]; omega
        · obtain rfl : c = d := by omega
          go_wp2_with fail
          go_roundw
          case rel => exact ⟨k + 1, by omega, by go_num, by rw [Nat.succ_mul k], by rw [Nat.succ_mul k], hb, h0, by rw [Nat.succ_mul k]; exact ho⟩
          case measure => simp [intOf]; omega
    · obtain rfl : k = 256 := by omega
      have e1 : 256 * d / 8 = 32 * d := by omega
      have e2 : 256 * d % 8 = 0 := by omega
      rw [e1] at ho
      rw [e1, e2]
      clear e1 e2
      go_wp2_with fail
      go_ret
      obtain ⟨g, cap, rfl, hcap⟩ := own_slice ho (by omega)
      exact ⟨_, rfl, ⟨_, _, _, rfl, hcap, fun i hi => by
        have := ho.cells (g := g) rfl i (.int .u8 (byt (strm (fun i => cmpr d (f i)) d) i)) (by simp [hi])
        rwa [Addr.add_lit] at this⟩, hb⟩
end Go.Proofs.Ytghngfeacpamhaa
