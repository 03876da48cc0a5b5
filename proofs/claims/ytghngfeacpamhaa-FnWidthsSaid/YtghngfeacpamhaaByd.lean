/-
  polyByteDecode: 384 bytes as a polynomial, or an error. Conditions: 384 bytes (another length: an error).
-/
import Derived.Test.YtghngfeacpamhaaOpb
import Derived.Test.YtghngfeacpamhaaAsk
import Derived.Test.YtghngfeacpamhaaField
import Derived.Laws.ResultCell
import Derived.Laws.BitsLemmas
namespace Go.Proofs.Ytghngfeacpamhaa
open Go.RowKit

theorem res_arr_tmp {P : Program} {fn : Func} {p u : Tmp} {T : TypeId} (h : fn.results = #[.cell p T, .tmp u]) (tmps : Array Value) (w : World) (b : Nat) (t : TypeId) (k : IntKind) (n : Nat) (g : Nat → Int) (e : TypeId)
    (hp : tmps.getD p undef = .pointer (some ⟨b, 0, none⟩)) (hg : w.heap[b]? = some (.cells (arr k n g) t (0, 0)))
    (hu : P.underlying T = some (.array n e)) (hi : (P.info? T).map (·.size) = some n) (v : Value) (hv : tmps.getD u undef = v) :
    (results fn tmps).run P w = .ok (.tuple #[.agg (arr k n g), v]) w := by
  rw [results_cell_tmp h, hp, hv]
  simp [asAddr, run_loadVar_row (P := P) w b t T (arr k n g) (0, 0) _ hg hu rfl (by rw [arr_size]; exact hi)]
theorem RedB.yes' {g : Nat → Int} {b : Bool} (h : RedB g b) (hb : b = true) : ∀ i, i < 256 → g i < 3329 := by
  subst hb; exact h.yes
set_option maxRecDepth 100000 in
set_option maxHeartbeats 1000000 in
theorem errNew_any (x : ByteArray) (w : World) :
    Calls Try.prog 58 #[.string x] w fun e w' => ∃ t v, e = .returned (.iface t v) ∧ Below w.heap.size w w' := by
  go_enter Try.func58, Try.ntmps58
  go_wp2
  go_ret
  exact ⟨_, _, rfl, (Below.refl _ _).alloc (Nat.le_refl _) _⟩
set_option maxRecDepth 100000 in
set_option maxHeartbeats 1000000 in
theorem fieldCheck_yes (a : Int) (w : World) (h1 : a < 3329) :
    Calls Try.prog 59 #[.int .u16 a] w fun e w' => e = .returned (.tuple #[.int .u16 a, .nilIface]) ∧ w = w' := by
  go_enter Try.func59, Try.ntmps59
  go_wp2
  go_ret2
  exact ⟨rfl, rfl⟩
set_option maxRecDepth 100000 in
set_option maxHeartbeats 1000000 in
theorem fieldCheck_no (a : Int) (w : World) (h1 : 3329 ≤ a) :
    Calls Try.prog 59 #[.int .u16 a] w fun e w' => ∃ t v, e = .returned (.tuple #[.int .u16 0, .iface t v]) ∧ Below w.heap.size w w' := by
  go_enter Try.func59, Try.ntmps59
  go_wp2
  go_ret2
  exact ⟨_, _, rfl, (Below.refl _ _).alloc (Nat.le_refl _) _⟩
theorem dig12_0 (g : Nat → Int) (k : Nat) (h : 0 ≤ g (3 * k) ∧ g (3 * k) < 256) : dig (strm g 8) 12 (2 * k) = g (3 * k) + 256 * (g (3 * k + 1) % 16) := by
  have h1 := bts_strm g 8 (3 * k) 0 8 (by omega)
  have h2 := bts_strm g 8 (3 * k + 1) 0 4 (by omega)
  unfold dig
  rw [show (12 : Nat) = 8 + 4 from rfl, bts_add, show 2 * k * (8 + 4) = 3 * k * 8 + 0 by omega, h1, show 3 * k * 8 + 0 + 8 = (3 * k + 1) * 8 + 0 by omega, h2]
  simp
  omega
theorem dig12_1 (g : Nat → Int) (k : Nat) (h : 0 ≤ g (3 * k + 1) ∧ g (3 * k + 1) < 256) (h' : 0 ≤ g (3 * k + 2) ∧ g (3 * k + 2) < 256) : dig (strm g 8) 12 (2 * k + 1) = g (3 * k + 1) / 16 + 16 * g (3 * k + 2) := by
  have h1 := bts_strm g 8 (3 * k + 1) 4 4 (by omega)
  have h2 := bts_strm g 8 (3 * k + 2) 0 8 (by omega)
  unfold dig
  rw [show (12 : Nat) = 4 + 8 from rfl, bts_add, show (2 * k + 1) * (4 + 8) = (3 * k + 1) * 8 + 4 by omega, h1, show (3 * k + 1) * 8 + 4 + 4 = (3 * k + 2) * 8 + 0 by omega, h2]
  simp
  omega
/-- What polyByteDecode tells: the polynomial, or an error. -/
def PD (bb : Bool) (F : Nat → Int) (w : World) (e : Ending) (w' : World) : Prop :=
  ∃ G ER, e = .returned (.tuple #[.agg (arr .u16 256 G), ER]) ∧ (bb = true → arr .u16 256 G = arr .u16 256 F ∧ ER = .nilIface) ∧ (bb = false → ∃ t x, ER = .iface t x) ∧ Below w.heap.size w w'
set_option maxRecDepth 100000 in
set_option maxHeartbeats 1000000 in
theorem polyDecode_short (v : Value) (g F : Nat → Int) (n : Nat) (w : World) (hv : Byo w v n g) (hn : n ≠ 384) :
    Calls Try.prog 44 #[v] w (PD false F w) := by
  obtain ⟨a, cap, rfl, hcap, hmax, _⟩ := hv.out
  clear hv
  unfold maxLen at hmax
  have hn' : ((n : Int) != 384) = true := by simp; omega
  go_enter Try.func44, Try.ntmps44
  go_wp2_with (first | (refine wpList_alloc_zero rfl 50 rfl _ zero50 ?_; simp only [Act.put, List.setIfInBounds_toArray, List.set_cons_succ, List.set_cons_zero, World.size_alloc]) | (refine wpList_build_zero rfl 50 rfl _ built50 ?_; simp only [Act.put, List.setIfInBounds_toArray, List.set_cons_succ, List.set_cons_zero, World.size_alloc]))
  obtain ⟨W, hW, h0, hw, HS⟩ := pack1 w (arr .u16 256 fun _ => 0) 50
  rw [← hW]
  clear hW
  refine (errNew_any _ _).mono ?_
  rintro e w3 ⟨te, xe, rfl, hb3⟩
  have q0 := h0.below hb3 h0.lt
  have qb := hw.trans (hb3.mono hw.size)
  clear hb3 h0 hw HS
  go_wp2_with (refine st_arr rfl 50 _ _ rfl (w.heap.size) rfl .u16 256 _ rfl 50 .u16 _ q0.out size50 ?_; simp only [Act.put, List.setIfInBounds_toArray, List.set_cons_succ, List.set_cons_zero, World.size_alloc])
  exact bodyPost_ret (res_arr_tmp rfl _ _ (w.heap.size) 50 .u16 256 _ _ rfl (q0.row _).out Try.underlying50 size50 _ rfl) rfl ⟨_, _, rfl, fun hbb => (by cases hbb), fun _ => ⟨_, _, rfl⟩, Below.setRow qb _ (by omega) _⟩
set_option maxRecDepth 100000 in
set_option maxHeartbeats 1000000 in
theorem polyDecode_any (v : Value) (g : Nat → Int) (bb : Bool) (w : World) (hv : Bys w v 384 g) (hg : ∀ i, i < 384 → 0 ≤ g i ∧ g i < 256) (hbb : RedB (dig (strm g 8) 12) bb) :
    Calls Try.prog 44 #[v] w (PD bb (dig (strm g 8) 12) w) := by
  have HG := Lib.hid hg; clear hg
  have HB := Lib.hid hbb; clear hbb
  obtain ⟨b, off, cap, rfl, hcap, hc0⟩ := hv.out
  clear hv
  have HC := Lib.hid hc0; clear hc0
  go_enter Try.func44, Try.ntmps44
  go_wp2_with (refine wpList_alloc_zero rfl 50 rfl _ zero50 ?_; simp only [Act.put, List.setIfInBounds_toArray, List.set_cons_succ, List.set_cons_zero, World.size_alloc])
  obtain ⟨W, hW, h0, h1, hw, HS⟩ := pack2 w (arr .u16 256 fun _ => 0) (arr .u16 256 fun _ => 0) 50 50
  rw [← hW]
  clear hW HS
  go_loopw [0, 5, 6, 7] (fun sl i _ _ wr => ∃ k : Nat, k ≤ 128 ∧ i = .int .i64 (2 * k : Nat) ∧ (∃ a, sl = .slice (some a) (384 - 3 * k) (cap - 3 * k) ∧ (k < 128 → a = ⟨b, off + 3 * k, none⟩)) ∧ Below w.heap.size w wr ∧ Has wr w.heap.size (arr .u16 256 fun _ => 0) 50 ∧ Has wr (w.heap.size + 1) (arr .u16 256 (upto (dig (strm g 8) 12) (2 * k))) 50 ∧ Hid (∀ j, j < 2 * k → dig (strm g 8) 12 j < 3329)) (fun _ i _ _ _ => 256 - (intOf i).toNat)
  case atStart => exact ⟨0, by omega, rfl, ⟨_, rfl, fun _ => rfl⟩, hw, h0, by rw [Nat.mul_zero, upto_zero]; exact h1, Lib.hid fun j hj => by omega⟩
  case round =>
    obtain ⟨k, hk, rfl, ⟨a, rfl, ha⟩, hb, h0, h1, HJ⟩ := hrel
    by_cases hlt : k < 128
    · obtain rfl := ha hlt
      clear ha
      have cell : ∀ j, j < 3 → wr.cell? ⟨b, off + 3 * k + j, none⟩ = some (.int .u8 (g (3 * k + j))) := fun j hj => by
        have hx : 3 * k + j < 384 := by omega
        rw [Nat.add_assoc, hb.cell (p := ⟨b, off + (3 * k + j), none⟩) (block_lt_of_cell (HC.out _ hx))]; exact HC.out _ hx
      have c0 := cell 0 (by omega)
      have c1 := cell 1 (by omega)
      have c2 := cell 2 (by omega)
      simp only [Nat.add_zero] at c0
      clear cell
      obtain ⟨x0, x0'⟩ := HG.out (3 * k) (by omega)
      obtain ⟨x1, x1'⟩ := HG.out (3 * k + 1) (by omega)
      obtain ⟨x2, x2'⟩ := HG.out (3 * k + 2) (by omega)
      have E0 := Lib.hid (dig12_0 g k ⟨x0, x0'⟩)
      have E1 := Lib.hid (dig12_1 g k ⟨x1, x1'⟩ ⟨x2, x2'⟩)
      have EU := Lib.hid (show upd (upd (upto (dig (strm g 8) 12) (2 * k)) (2 * k) (dig (strm g 8) 12 (2 * k))) (2 * k + 1) (dig (strm g 8) 12 (2 * k + 1)) = upto (dig (strm g 8) 12) (2 * (k + 1)) by rw [upto_succ, upto_succ]; rfl)
      have hk0 : 2 * k < 256 := by omega
      have hk1 : 2 * k + 1 < 256 := by omega
      have N0 := Lib.hid fun h : bb = true => HB.out.yes' h (2 * k) hk0
      have N1 := Lib.hid fun h : bb = true => HB.out.yes' h (2 * k + 1) hk1
      have HJ2 := Lib.hid fun (h0 : dig (strm g 8) 12 (2 * k) < 3329) (h1 : dig (strm g 8) 12 (2 * k + 1) < 3329) => (show ∀ j, j < 2 * (k + 1) → dig (strm g 8) 12 j < 3329 from fun j hj => by
        by_cases e1 : j = 2 * k
        · rw [e1]; exact h0
        by_cases e2 : j = 2 * k + 1
        · rw [e2]; exact h1
        exact HJ.out j (by omega))
      clear HJ
      generalize dig (strm g 8) 12 (2 * k) = F0 at *
      generalize dig (strm g 8) 12 (2 * k + 1) = F1 at *
      generalize g (3 * k) = X0 at *
      generalize g (3 * k + 1) = X1 at *
      generalize g (3 * k + 2) = X2 at *
      obtain ⟨L, hL⟩ : ∃ L, L = 384 - 3 * k := ⟨_, rfl⟩
      obtain ⟨C, hC⟩ : ∃ C, C = cap - 3 * k := ⟨_, rfl⟩
      have l1 : 3 * k + L = 384 := by omega
      have l2 : 3 ≤ L := by omega
      have l2' : L ≤ C := by omega
      have l3 : (0 : Int) < (L : Int) := by omega
      have l4 : (1 : Int) < (L : Int) := by omega
      have l5 : (2 : Int) < (L : Int) := by omega
      have l6 : (3 : Int) ≤ (L : Int) := by omega
      have l7 : (L : Int) ≤ (C : Int) := by omega
      rw [← hL, ← hC]
      have HL := Lib.hid hL; clear hL
      have HC' := Lib.hid hC; clear hC
      have EC := Lib.hid (show ((2 * (k + 1) : Nat) : Int) = ((2 * k : Nat) : Int) + 2 by omega)
      have o1 := or_u32 X0 X1 8 x0 (by omega) x1 (by omega)
      have o2 := or_u32 (X0 + X1 * 256) X2 16 (by omega) (by omega) x2 (by omega)
      rw [show (2 : Int) ^ 8 = 256 from rfl] at o1
      rw [show (2 : Int) ^ 16 = 65536 from rfl] at o2
      have y0 : IntKind.u32.wrap X0 = X0 := u32_in _ (by omega) (by omega)
      have y1 : IntKind.u32.wrap X1 = X1 := u32_in _ (by omega) (by omega)
      have y2 : IntKind.u32.wrap X2 = X2 := u32_in _ (by omega) (by omega)
      have y3 : IntKind.u32.wrap (X1 * 256) = X1 * 256 := u32_in _ (by omega) (by omega)
      have y4 : IntKind.u32.wrap (X2 * 65536) = X2 * 65536 := u32_in _ (by omega) (by omega)
      generalize hi : 2 * k = i at *
      have q3 : (i : Int) < 256 := by omega
      have x3 : ((i : Int) + 1).toNat = i + 1 := by omega
      have q1 : (0 : Int) ≤ (i : Int) + 1 := by omega
      have q2 : (i : Int) + 1 < 256 := by omega
      go_wp2_with fail
      go_quiet (fail)
      have d0 := h0.drewN nq
      have d1 := h1.drewN nq
      have db : Below w.heap.size w (wr.drewN nq) := ⟨hb.os, hb.tape, hb.output, hb.size, hb.block⟩
      clear h0 h1 hb c0 c1 c2 o1 o2 y0 y1 y2 y3 y4
      generalize wr.drewN nq = wd at *
      have Z0 : 0 ≤ X0 + X1 * 256 + X2 * 65536 ∧ X0 + X1 * 256 + X2 * 65536 < 16777216 ∧ (X0 + X1 * 256 + X2 * 65536) % 4096 = F0 ∧ (X0 + X1 * 256 + X2 * 65536) / 4096 = F1 := by
        have e0 := E0.out
        have e1 := E1.out
        omega
      clear E0 E1
      generalize X0 + X1 * 256 + X2 * 65536 = Z at *
      obtain ⟨Z0, Z1, e0, e1⟩ := Z0
      have m0 : bits .and .u32 Z 4095 = F0 := by rw [← e0]; exact bits_mask .u32 32 (by decide) (fun n h h' => u32_in n h (by omega)) 12 (by decide) Z Z0 (by omega)
      have b0 : 0 ≤ F0 ∧ F0 < 4096 := by omega
      have b1 : 0 ≤ F1 ∧ F1 < 4096 := by omega
      have y0 : IntKind.u16.wrap F0 = F0 := u16_in _ (by omega) (by omega)
      have y1 : IntKind.u16.wrap F1 = F1 := u16_in _ (by omega) (by omega)
      clear e0
      have g1 : wd.cell? ⟨w.heap.size + 1, i, none⟩ = some _ := d1.cell i (by omega)
      have z1 := d1.free i
      by_cases hF0 : F0 < 3329
      · have EI := Lib.hid hi
        clear hi
        go_wp2_with (go_at_call 59; refine (fieldCheck_yes _ _ (by omega)).mono ?_; rintro e w1 ⟨rfl, rfl⟩)
        have g2 : (wd.setCell ⟨w.heap.size + 1, i, none⟩ (.int .u16 F0)).cell? ⟨w.heap.size + 1, i + 1, none⟩ = some _ := (d1.set i F0).cell (i + 1) (by omega)
        have z2 : (wd.setCell ⟨w.heap.size + 1, i, none⟩ (.int .u16 F0)).frozen? ⟨w.heap.size + 1, i + 1, none⟩ = false := (d1.set i F0).free (i + 1)
        have f0 := d0.other (w.heap.size + 1) i (.int .u16 F0) (by omega)
        have f1 := d1.set i F0
        have fb := below_set db (w.heap.size + 1) i (by omega) (.int .u16 F0)
        clear d0 d1 db g1 z1
        generalize wd.setCell ⟨w.heap.size + 1, i, none⟩ (.int .u16 F0) = wf at *
        by_cases hF1 : F1 < 3329
        · refine (fieldCheck_yes _ _ hF1).mono ?_
          rintro e w1 ⟨rfl, rfl⟩
          go_wp2_with fail
          go_roundw
          case rel =>
            have hL := HL.out
            have hC := HC'.out
            refine ⟨k + 1, by omega, by rw [EC.out], ?_, below_set fb _ _ (by omega) _, f0.other _ _ _ (by omega), by rw [← EU.out]; exact f1.set _ _, Lib.hid (HJ2.out hF0 hF1)⟩
            by_cases hC1 : C = 3
            · exact ⟨_, by rw [if_pos hC1, show 384 - 3 * (k + 1) = L - 3 by omega, show cap - 3 * (k + 1) = C - 3 by omega], fun h => by omega⟩
            · exact ⟨_, by rw [if_neg hC1, show 384 - 3 * (k + 1) = L - 3 by omega, show cap - 3 * (k + 1) = C - 3 by omega], fun h => by rw [show off + 3 * (k + 1) = off + 3 * k + 3 by omega]⟩
          case measure => simp [intOf]; omega
        · refine (fieldCheck_no F1 _ (by omega)).mono ?_
          rintro e w1 ⟨te0, xe0, rfl, hb1⟩
          have s0 := f0.below hb1 f0.lt
          have s1 := f1.below hb1 f1.lt
          have sb := fb.trans (hb1.mono fb.size)
          have g3 : w1.cell? ⟨w.heap.size + 1, i + 1, none⟩ = some _ := s1.cell (i + 1) (by omega)
          have z3 := s1.free (i + 1)
          clear hb1 f0 f1 fb g2 z2
          go_wp2_with (refine wpList_build_zero rfl 50 rfl _ built50 ?_; simp only [Act.put, List.setIfInBounds_toArray, List.set_cons_succ, List.set_cons_zero, World.size_alloc])
          have t0 := s0.other (w.heap.size + 1) (i + 1) (.int .u16 0) (by omega)
          have tb := below_set sb (w.heap.size + 1) (i + 1) (by omega) (.int .u16 0)
          clear s0 s1 sb g3 z3
          generalize w1.setCell ⟨w.heap.size + 1, i + 1, none⟩ (.int .u16 0) = wg at *
          refine (errNew_any _ _).mono ?_
          rintro e w3 ⟨te, xe, rfl, hb3⟩
          have q0 := t0.below hb3 t0.lt
          have qb := tb.trans (hb3.mono tb.size)
          clear hb3
          go_wp2_with (refine st_arr rfl 50 _ _ rfl (w.heap.size) rfl .u16 256 _ rfl 50 .u16 _ q0.out size50 ?_; simp only [Act.put, List.setIfInBounds_toArray, List.set_cons_succ, List.set_cons_zero, World.size_alloc])
          exact bodyPost_ret (res_arr_tmp rfl _ _ (w.heap.size) 50 .u16 256 _ _ rfl (q0.row _).out Try.underlying50 size50 _ rfl) rfl ⟨_, _, rfl, fun hbb => absurd (N1.out hbb) (by omega), fun _ => ⟨_, _, rfl⟩, Below.setRow qb _ (by omega) _⟩
      · have EI := Lib.hid hi
        clear hi
        go_wp2_with fail
        refine (fieldCheck_no F0 _ (by omega)).mono ?_
        rintro e w1 ⟨te0, xe0, rfl, hb1⟩
        have s0 := d0.below hb1 d0.lt
        have s1 := d1.below hb1 d1.lt
        have sb := db.trans (hb1.mono db.size)
        have g3 : w1.cell? ⟨w.heap.size + 1, i, none⟩ = some _ := s1.cell i (by omega)
        have z3 := s1.free i
        clear hb1 d0 d1 db g1 z1
        go_wp2_with (refine wpList_build_zero rfl 50 rfl _ built50 ?_; simp only [Act.put, List.setIfInBounds_toArray, List.set_cons_succ, List.set_cons_zero, World.size_alloc])
        have t0 := s0.other (w.heap.size + 1) i (.int .u16 0) (by omega)
        have tb := below_set sb (w.heap.size + 1) i (by omega) (.int .u16 0)
        clear s0 s1 sb g3 z3
        generalize w1.setCell ⟨w.heap.size + 1, i, none⟩ (.int .u16 0) = wg at *
        refine (errNew_any _ _).mono ?_
        rintro e w3 ⟨te, xe, rfl, hb3⟩
        have q0 := t0.below hb3 t0.lt
        have qb := tb.trans (hb3.mono tb.size)
        clear hb3
        go_wp2_with (refine st_arr rfl 50 _ _ rfl (w.heap.size) rfl .u16 256 _ rfl 50 .u16 _ q0.out size50 ?_; simp only [Act.put, List.setIfInBounds_toArray, List.set_cons_succ, List.set_cons_zero, World.size_alloc])
        exact bodyPost_ret (res_arr_tmp rfl _ _ (w.heap.size) 50 .u16 256 _ _ rfl (q0.row _).out Try.underlying50 size50 _ rfl) rfl ⟨_, _, rfl, fun hbb => absurd (N0.out hbb) (by omega), fun _ => ⟨_, _, rfl⟩, Below.setRow qb _ (by omega) _⟩
    · obtain rfl : k = 128 := by omega
      rw [show 2 * 128 = 256 from rfl] at *
      rw [show ((256 : Nat) : Int) = 256 from rfl] at *
      go_wp2_with (first | (refine ld_arr rfl 50 _ rfl (w.heap.size + 1) rfl 50 .u16 256 _ _ h1.out Try.underlying50 size50 ?_; simp only [Act.put, List.setIfInBounds_toArray, List.set_cons_succ, List.set_cons_zero, World.size_alloc]) | (refine st_arr rfl 50 _ _ rfl (w.heap.size) rfl .u16 256 _ rfl 50 .u16 _ h0.out size50 ?_; simp only [Act.put, List.setIfInBounds_toArray, List.set_cons_succ, List.set_cons_zero, World.size_alloc]))
      exact bodyPost_ret (res_arr_tmp rfl _ _ (w.heap.size) 50 .u16 256 _ _ rfl (h0.row _).out Try.underlying50 size50 _ rfl) rfl ⟨_, _, rfl, fun _ => ⟨by rw [upto_all], rfl⟩, fun hbb => (by
        have hq := HB.out
        rw [hbb] at hq
        rcases hq.out with ⟨h, _⟩ | ⟨_, j, hj, hr⟩
        · cases h
        · have := HJ.out j hj; omega), Below.setRow hb _ (by omega) _⟩
end Go.Proofs.Ytghngfeacpamhaa
