/-
  EncodeWidth, DecodeWidth at the widths of ML-KEM. Conditions: numbers below 3329; 32 d bytes.
-/
import Derived.Test.YtghngfeacpamhaaWid
import Derived.Test.YtghngfeacpamhaaByd
namespace Go.Proofs.Ytghngfeacpamhaa
open Go.RowKit

theorem list_arr (n : Nat) (g : Nat → Int) : (((List.range n).map g).map (Value.int .u8)).toArray = arr .u8 n g := by
  apply Array.ext_getElem?
  intro i
  by_cases h : i < n
  · rw [arr_get _ _ _ _ h]; simp [h]
  · rw [Array.getElem?_eq_none (by simp; omega), Array.getElem?_eq_none (by rw [arr_size]; omega)]
/-- An array of bytes is loaded out of a slice. -/
theorem ld_mid {ops : Array Oper} {rest : List Oper} {o : Oper} {a : Act} {w : World} {Q : Exit → Act → World → Prop} (hgd : o.guard = none) (T : TypeId) (x : Operand) (ho : o.op = .load T x)
    (b off n : Nat) (g : Nat → Int) (hx : a.eval x = .pointer (some ⟨b, off, none⟩)) (hc : ∀ i, i < n → w.cell? ⟨b, off + i, none⟩ = some (.int .u8 (g i))) (e : TypeId)
    (hu : Try.prog.underlying T = some (.array n e)) (hi : (Try.prog.info? T).map (·.size) = some n)
    (h : wpList Try.prog ops Q rest (a.put o.dst (.agg (arr .u8 n g))) w) : wpList Try.prog ops Q (o :: rest) a w :=
  wpList_plain hgd fun K hK => by
    have hl := load_bytes w b off n g hc
    rw [list_arr] at hl
    have hagg : (isAgg T).run Try.prog w = .ok true w := by
      unfold isAgg
      rw [Sem.run_bind, run_underlying hu w]
      rfl
    cases hq : Try.prog.info? T with
    | none => simp [hq] at hi
    | some i =>
      have hs : i.size = n := by simpa [hq] using hi
      have hsz : (sizeOf T).run Try.prog w = .ok n w := by simp [sizeOf, typeInfo, hq, hs]
      have hv : (loadVar T ⟨b, off, none⟩).run Try.prog w = .ok (.agg (arr .u8 n g)) w := by
        simp [loadVar, Sem.run_bind, hagg, hsz, hl]
      unfold Oper.wp execOp
      simp only [ho, hx, Instr.loadAt, Instr.sureAddr, Sem.run_bind, Sem.run_pure, Result.andThen_ok, hv]
      exact hK _ _ h
set_option maxRecDepth 100000 in
set_option maxHeartbeats 1000000 in
theorem implEncodeWidth1_any (f : Nat → Int) (w : World) (hf : ∀ i, i < 256 → 0 ≤ f i ∧ f i < 3329) :
    Calls Try.prog 26 #[.agg (arr .u16 256 f), .int .u8 1] w fun e w' => ∃ v, e = .returned v ∧ Bys w' v (32) (byt (strm (fun i => cmpr 1 (f i)) 1)) ∧ Below w.heap.size w w' := by
  have HC := Lib.hid fun W => zzEncode1_any f W hf
  clear hf
  go_enter Try.func26, Try.ntmps26
  go_wp2_with (refine ld_arr rfl 23 _ rfl (w.heap.size) rfl 23 .u16 256 f _ (Has.new _ _ _).out Try.underlying23 size23 ?_; simp only [Act.put, List.setIfInBounds_toArray, List.set_cons_succ, List.set_cons_zero, World.size_alloc])
  obtain ⟨W, hW, h0, hw, HS⟩ := pack1 w (arr .u16 256 f) 23
  rw [← hW]
  clear hW
  refine (ring_any f _).mono ?_
  rintro e w1 ⟨rfl, hb⟩
  have db := hw.trans (hb.mono (by omega))
  have ds := hb.size
  clear hb hw h0
  go_wp2_with fail
  refine (HC.out _).mono ?_
  rintro e w2 ⟨v, rfl, hv, hb⟩
  have eb := db.trans (hb.mono (by omega))
  clear hb db HS HC
  go_wp2_with fail
  go_ret
  exact ⟨_, rfl, hv, eb⟩
theorem sizeB1 : (Try.prog.info? 61).map (·.size) = some 32 := by kernel_rfl
set_option maxRecDepth 100000 in
set_option maxHeartbeats 1000000 in
theorem implDecodeWidth1_any (v : Value) (g : Nat → Int) (w : World) (hv : Bys w v 32 g) (hg : ∀ i, i < 32 → 0 ≤ g i ∧ g i < 256) :
    Calls Try.prog 25 #[v, .int .u8 1] w fun e w' => e = .returned (.tuple #[.agg (arr .u16 256 (fun i => dcmp 1 (dig (strm g 8) 1 i))), .bool true]) ∧ Below w.heap.size w w' := by
  have HC := Lib.hid fun W => zzDecode1_any g W hg
  clear hg
  obtain ⟨b, off, cap, rfl, hcap, hc0⟩ := hv.out
  clear hv
  have HB := Lib.hid hc0; clear hc0
  have hsp : ∀ w, (Instr.arrayAt 61 (.slice (some ⟨b, off, none⟩) 32 cap)).run Try.prog w = .ok (.pointer (some ⟨b, off, none⟩)) w := fun w => by simp [Instr.arrayAt, Sem.run_bind, run_underlying Try.underlying61]
  go_enter Try.func25, Try.ntmps25
  go_wp2_with (first | (refine wpList_alloc_zero rfl 23 rfl _ zero23 ?_; simp only [Act.put, List.setIfInBounds_toArray, List.set_cons_succ, List.set_cons_zero, World.size_alloc]) | (refine ld_mid rfl 61 _ rfl b off 32 g rfl ?_ _ Try.underlying61 sizeB1 ?_; focus exact fun i hi => (by rw [((Below.refl w.heap.size w).alloc (Nat.le_refl _) _).cell (p := ⟨b, off + i, none⟩) (block_lt_of_cell (HB.out i hi))]; exact HB.out i hi)))
  obtain ⟨W, hW, h0, hw, HS⟩ := pack1 w (arr .u16 256 fun _ => 0) 23
  rw [← hW]
  clear hW
  refine (HC.out _).mono ?_
  rintro e w1 ⟨rfl, hb⟩
  have d0 := h0.below hb h0.lt
  have db := hw.trans (hb.mono hw.size)
  clear hb hw HS h0 HC HB
  go_wp2_with fail
  refine (ofRing_any _ _).mono ?_
  rintro e w2 ⟨rfl, hb⟩
  have e0 := d0.below hb d0.lt
  have eb := db.trans (hb.mono db.size)
  clear hb db d0
  go_wp2_with (refine st_arr rfl 23 _ _ rfl (w.heap.size) rfl .u16 256 _ rfl 23 .u16 _ e0.out size23 ?_; simp only [Act.put, List.setIfInBounds_toArray, List.set_cons_succ, List.set_cons_zero, World.size_alloc])
  exact bodyPost_ret (res_arr_tmp rfl _ _ (w.heap.size) 23 .u16 256 _ _ rfl (e0.row _).out Try.underlying23 size23 _ rfl) rfl ⟨rfl, Below.setRow eb _ (by omega) _⟩
set_option maxRecDepth 100000 in
set_option maxHeartbeats 1000000 in
theorem implEncodeWidth4_any (f : Nat → Int) (w : World) (hf : ∀ i, i < 256 → 0 ≤ f i ∧ f i < 3329) :
    Calls Try.prog 26 #[.agg (arr .u16 256 f), .int .u8 4] w fun e w' => ∃ v, e = .returned v ∧ Bys w' v (128) (byt (strm (fun i => cmpr 4 (f i)) 4)) ∧ Below w.heap.size w w' := by
  have HC := Lib.hid fun W => zzEncode4_any f W hf
  clear hf
  go_enter Try.func26, Try.ntmps26
  go_wp2_with (refine ld_arr rfl 23 _ rfl (w.heap.size) rfl 23 .u16 256 f _ (Has.new _ _ _).out Try.underlying23 size23 ?_; simp only [Act.put, List.setIfInBounds_toArray, List.set_cons_succ, List.set_cons_zero, World.size_alloc])
  obtain ⟨W, hW, h0, hw, HS⟩ := pack1 w (arr .u16 256 f) 23
  rw [← hW]
  clear hW
  refine (ring_any f _).mono ?_
  rintro e w1 ⟨rfl, hb⟩
  have db := hw.trans (hb.mono (by omega))
  have ds := hb.size
  clear hb hw h0
  go_wp2_with fail
  refine (HC.out _).mono ?_
  rintro e w2 ⟨v, rfl, hv, hb⟩
  have eb := db.trans (hb.mono (by omega))
  clear hb db HS HC
  go_wp2_with fail
  go_ret
  exact ⟨_, rfl, hv, eb⟩
theorem sizeB4 : (Try.prog.info? 63).map (·.size) = some 128 := by kernel_rfl
set_option maxRecDepth 100000 in
set_option maxHeartbeats 1000000 in
theorem implDecodeWidth4_any (v : Value) (g : Nat → Int) (w : World) (hv : Bys w v 128 g) (hg : ∀ i, i < 128 → 0 ≤ g i ∧ g i < 256) :
    Calls Try.prog 25 #[v, .int .u8 4] w fun e w' => e = .returned (.tuple #[.agg (arr .u16 256 (fun i => dcmp 4 (dig (strm g 8) 4 i))), .bool true]) ∧ Below w.heap.size w w' := by
  have HC := Lib.hid fun W => zzDecode4_any g W hg
  clear hg
  obtain ⟨b, off, cap, rfl, hcap, hc0⟩ := hv.out
  clear hv
  have HB := Lib.hid hc0; clear hc0
  have hsp : ∀ w, (Instr.arrayAt 63 (.slice (some ⟨b, off, none⟩) 128 cap)).run Try.prog w = .ok (.pointer (some ⟨b, off, none⟩)) w := fun w => by simp [Instr.arrayAt, Sem.run_bind, run_underlying Try.underlying63]
  go_enter Try.func25, Try.ntmps25
  go_wp2_with (first | (refine wpList_alloc_zero rfl 23 rfl _ zero23 ?_; simp only [Act.put, List.setIfInBounds_toArray, List.set_cons_succ, List.set_cons_zero, World.size_alloc]) | (refine ld_mid rfl 63 _ rfl b off 128 g rfl ?_ _ Try.underlying63 sizeB4 ?_; focus exact fun i hi => (by rw [((Below.refl w.heap.size w).alloc (Nat.le_refl _) _).cell (p := ⟨b, off + i, none⟩) (block_lt_of_cell (HB.out i hi))]; exact HB.out i hi)))
  obtain ⟨W, hW, h0, hw, HS⟩ := pack1 w (arr .u16 256 fun _ => 0) 23
  rw [← hW]
  clear hW
  refine (HC.out _).mono ?_
  rintro e w1 ⟨rfl, hb⟩
  have d0 := h0.below hb h0.lt
  have db := hw.trans (hb.mono hw.size)
  clear hb hw HS h0 HC HB
  go_wp2_with fail
  refine (ofRing_any _ _).mono ?_
  rintro e w2 ⟨rfl, hb⟩
  have e0 := d0.below hb d0.lt
  have eb := db.trans (hb.mono db.size)
  clear hb db d0
  go_wp2_with (refine st_arr rfl 23 _ _ rfl (w.heap.size) rfl .u16 256 _ rfl 23 .u16 _ e0.out size23 ?_; simp only [Act.put, List.setIfInBounds_toArray, List.set_cons_succ, List.set_cons_zero, World.size_alloc])
  exact bodyPost_ret (res_arr_tmp rfl _ _ (w.heap.size) 23 .u16 256 _ _ rfl (e0.row _).out Try.underlying23 size23 _ rfl) rfl ⟨rfl, Below.setRow eb _ (by omega) _⟩
set_option maxRecDepth 100000 in
set_option maxHeartbeats 1000000 in
theorem implEncodeWidth5_any (f : Nat → Int) (w : World) (hf : ∀ i, i < 256 → 0 ≤ f i ∧ f i < 3329) :
    Calls Try.prog 26 #[.agg (arr .u16 256 f), .int .u8 5] w fun e w' => ∃ v, e = .returned v ∧ Bys w' v (160) (byt (strm (fun i => cmpr 5 (f i)) 5)) ∧ Below w.heap.size w w' := by
  have HC := Lib.hid fun W => zzEncode5_any f W hf
  clear hf
  go_enter Try.func26, Try.ntmps26
  go_wp2_with (refine ld_arr rfl 23 _ rfl (w.heap.size) rfl 23 .u16 256 f _ (Has.new _ _ _).out Try.underlying23 size23 ?_; simp only [Act.put, List.setIfInBounds_toArray, List.set_cons_succ, List.set_cons_zero, World.size_alloc])
  obtain ⟨W, hW, h0, hw, HS⟩ := pack1 w (arr .u16 256 f) 23
  rw [← hW]
  clear hW
  refine (ring_any f _).mono ?_
  rintro e w1 ⟨rfl, hb⟩
  have db := hw.trans (hb.mono (by omega))
  have ds := hb.size
  clear hb hw h0
  go_wp2_with fail
  refine (HC.out _).mono ?_
  rintro e w2 ⟨v, rfl, hv, hb⟩
  have eb := db.trans (hb.mono (by omega))
  clear hb db HS HC
  go_wp2_with fail
  go_ret
  exact ⟨_, rfl, hv, eb⟩
theorem sizeB5 : (Try.prog.info? 65).map (·.size) = some 160 := by kernel_rfl
set_option maxRecDepth 100000 in
set_option maxHeartbeats 1000000 in
theorem implDecodeWidth5_any (v : Value) (g : Nat → Int) (w : World) (hv : Bys w v 160 g) (hg : ∀ i, i < 160 → 0 ≤ g i ∧ g i < 256) :
    Calls Try.prog 25 #[v, .int .u8 5] w fun e w' => e = .returned (.tuple #[.agg (arr .u16 256 (fun i => dcmp 5 (dig (strm g 8) 5 i))), .bool true]) ∧ Below w.heap.size w w' := by
  have HC := Lib.hid fun W => zzDecode5_any g W hg
  clear hg
  obtain ⟨b, off, cap, rfl, hcap, hc0⟩ := hv.out
  clear hv
  have HB := Lib.hid hc0; clear hc0
  have hsp : ∀ w, (Instr.arrayAt 65 (.slice (some ⟨b, off, none⟩) 160 cap)).run Try.prog w = .ok (.pointer (some ⟨b, off, none⟩)) w := fun w => by simp [Instr.arrayAt, Sem.run_bind, run_underlying Try.underlying65]
  go_enter Try.func25, Try.ntmps25
  go_wp2_with (first | (refine wpList_alloc_zero rfl 23 rfl _ zero23 ?_; simp only [Act.put, List.setIfInBounds_toArray, List.set_cons_succ, List.set_cons_zero, World.size_alloc]) | (refine ld_mid rfl 65 _ rfl b off 160 g rfl ?_ _ Try.underlying65 sizeB5 ?_; focus exact fun i hi => (by rw [((Below.refl w.heap.size w).alloc (Nat.le_refl _) _).cell (p := ⟨b, off + i, none⟩) (block_lt_of_cell (HB.out i hi))]; exact HB.out i hi)))
  obtain ⟨W, hW, h0, hw, HS⟩ := pack1 w (arr .u16 256 fun _ => 0) 23
  rw [← hW]
  clear hW
  refine (HC.out _).mono ?_
  rintro e w1 ⟨rfl, hb⟩
  have d0 := h0.below hb h0.lt
  have db := hw.trans (hb.mono hw.size)
  clear hb hw HS h0 HC HB
  go_wp2_with fail
  refine (ofRing_any _ _).mono ?_
  rintro e w2 ⟨rfl, hb⟩
  have e0 := d0.below hb d0.lt
  have eb := db.trans (hb.mono db.size)
  clear hb db d0
  go_wp2_with (refine st_arr rfl 23 _ _ rfl (w.heap.size) rfl .u16 256 _ rfl 23 .u16 _ e0.out size23 ?_; simp only [Act.put, List.setIfInBounds_toArray, List.set_cons_succ, List.set_cons_zero, World.size_alloc])
  exact bodyPost_ret (res_arr_tmp rfl _ _ (w.heap.size) 23 .u16 256 _ _ rfl (e0.row _).out Try.underlying23 size23 _ rfl) rfl ⟨rfl, Below.setRow eb _ (by omega) _⟩
set_option maxRecDepth 100000 in
set_option maxHeartbeats 1000000 in
theorem implEncodeWidth10_any (f : Nat → Int) (w : World) (hf : ∀ i, i < 256 → 0 ≤ f i ∧ f i < 3329) :
    Calls Try.prog 26 #[.agg (arr .u16 256 f), .int .u8 10] w fun e w' => ∃ v, e = .returned v ∧ Bys w' v (320) (byt (strm (fun i => cmpr 10 (f i)) 10)) ∧ Below w.heap.size w w' := by
  have HC := Lib.hid fun W => zzEncode10_any f W hf
  clear hf
  go_enter Try.func26, Try.ntmps26
  go_wp2_with (refine ld_arr rfl 23 _ rfl (w.heap.size) rfl 23 .u16 256 f _ (Has.new _ _ _).out Try.underlying23 size23 ?_; simp only [Act.put, List.setIfInBounds_toArray, List.set_cons_succ, List.set_cons_zero, World.size_alloc])
  obtain ⟨W, hW, h0, hw, HS⟩ := pack1 w (arr .u16 256 f) 23
  rw [← hW]
  clear hW
  refine (ring_any f _).mono ?_
  rintro e w1 ⟨rfl, hb⟩
  have db := hw.trans (hb.mono (by omega))
  have ds := hb.size
  clear hb hw h0
  go_wp2_with fail
  refine (HC.out _).mono ?_
  rintro e w2 ⟨v, rfl, hv, hb⟩
  have eb := db.trans (hb.mono (by omega))
  clear hb db HS HC
  go_wp2_with fail
  go_ret
  exact ⟨_, rfl, hv, eb⟩
theorem sizeB10 : (Try.prog.info? 67).map (·.size) = some 320 := by kernel_rfl
set_option maxRecDepth 100000 in
set_option maxHeartbeats 1000000 in
theorem implDecodeWidth10_any (v : Value) (g : Nat → Int) (w : World) (hv : Bys w v 320 g) (hg : ∀ i, i < 320 → 0 ≤ g i ∧ g i < 256) :
    Calls Try.prog 25 #[v, .int .u8 10] w fun e w' => e = .returned (.tuple #[.agg (arr .u16 256 (fun i => dcmp 10 (dig (strm g 8) 10 i))), .bool true]) ∧ Below w.heap.size w w' := by
  have HC := Lib.hid fun W => zzDecode10_any g W hg
  clear hg
  obtain ⟨b, off, cap, rfl, hcap, hc0⟩ := hv.out
  clear hv
  have HB := Lib.hid hc0; clear hc0
  have hsp : ∀ w, (Instr.arrayAt 67 (.slice (some ⟨b, off, none⟩) 320 cap)).run Try.prog w = .ok (.pointer (some ⟨b, off, none⟩)) w := fun w => by simp [Instr.arrayAt, Sem.run_bind, run_underlying Try.underlying67]
  go_enter Try.func25, Try.ntmps25
  go_wp2_with (first | (refine wpList_alloc_zero rfl 23 rfl _ zero23 ?_; simp only [Act.put, List.setIfInBounds_toArray, List.set_cons_succ, List.set_cons_zero, World.size_alloc]) | (refine ld_mid rfl 67 _ rfl b off 320 g rfl ?_ _ Try.underlying67 sizeB10 ?_; focus exact fun i hi => (by rw [((Below.refl w.heap.size w).alloc (Nat.le_refl _) _).cell (p := ⟨b, off + i, none⟩) (block_lt_of_cell (HB.out i hi))]; exact HB.out i hi)))
  obtain ⟨W, hW, h0, hw, HS⟩ := pack1 w (arr .u16 256 fun _ => 0) 23
  rw [← hW]
  clear hW
  refine (HC.out _).mono ?_
  rintro e w1 ⟨rfl, hb⟩
  have d0 := h0.below hb h0.lt
  have db := hw.trans (hb.mono hw.size)
  clear hb hw HS h0 HC HB
  go_wp2_with fail
  refine (ofRing_any _ _).mono ?_
  rintro e w2 ⟨rfl, hb⟩
  have e0 := d0.below hb d0.lt
  have eb := db.trans (hb.mono db.size)
  clear hb db d0
  go_wp2_with (refine st_arr rfl 23 _ _ rfl (w.heap.size) rfl .u16 256 _ rfl 23 .u16 _ e0.out size23 ?_; simp only [Act.put, List.setIfInBounds_toArray, List.set_cons_succ, List.set_cons_zero, World.size_alloc])
  exact bodyPost_ret (res_arr_tmp rfl _ _ (w.heap.size) 23 .u16 256 _ _ rfl (e0.row _).out Try.underlying23 size23 _ rfl) rfl ⟨rfl, Below.setRow eb _ (by omega) _⟩
set_option maxRecDepth 100000 in
set_option maxHeartbeats 1000000 in
theorem implEncodeWidth11_any (f : Nat → Int) (w : World) (hf : ∀ i, i < 256 → 0 ≤ f i ∧ f i < 3329) :
    Calls Try.prog 26 #[.agg (arr .u16 256 f), .int .u8 11] w fun e w' => ∃ v, e = .returned v ∧ Bys w' v (352) (byt (strm (fun i => cmpr 11 (f i)) 11)) ∧ Below w.heap.size w w' := by
  have HC := Lib.hid fun W => zzEncode11_any f W hf
  clear hf
  go_enter Try.func26, Try.ntmps26
  go_wp2_with (refine ld_arr rfl 23 _ rfl (w.heap.size) rfl 23 .u16 256 f _ (Has.new _ _ _).out Try.underlying23 size23 ?_; simp only [Act.put, List.setIfInBounds_toArray, List.set_cons_succ, List.set_cons_zero, World.size_alloc])
  obtain ⟨W, hW, h0, hw, HS⟩ := pack1 w (arr .u16 256 f) 23
  rw [← hW]
  clear hW
  refine (ring_any f _).mono ?_
  rintro e w1 ⟨rfl, hb⟩
  have db := hw.trans (hb.mono (by omega))
  have ds := hb.size
  clear hb hw h0
  go_wp2_with fail
  refine (HC.out _).mono ?_
  rintro e w2 ⟨v, rfl, hv, hb⟩
  have eb := db.trans (hb.mono (by omega))
  clear hb db HS HC
  go_wp2_with fail
  go_ret
  exact ⟨_, rfl, hv, eb⟩
theorem sizeB11 : (Try.prog.info? 69).map (·.size) = some 352 := by kernel_rfl
set_option maxRecDepth 100000 in
set_option maxHeartbeats 1000000 in
theorem implDecodeWidth11_any (v : Value) (g : Nat → Int) (w : World) (hv : Bys w v 352 g) (hg : ∀ i, i < 352 → 0 ≤ g i ∧ g i < 256) :
    Calls Try.prog 25 #[v, .int .u8 11] w fun e w' => e = .returned (.tuple #[.agg (arr .u16 256 (fun i => dcmp 11 (dig (strm g 8) 11 i))), .bool true]) ∧ Below w.heap.size w w' := by
  have HC := Lib.hid fun W => zzDecode11_any g W hg
  clear hg
  obtain ⟨b, off, cap, rfl, hcap, hc0⟩ := hv.out
  clear hv
  have HB := Lib.hid hc0; clear hc0
  have hsp : ∀ w, (Instr.arrayAt 69 (.slice (some ⟨b, off, none⟩) 352 cap)).run Try.prog w = .ok (.pointer (some ⟨b, off, none⟩)) w := fun w => by simp [Instr.arrayAt, Sem.run_bind, run_underlying Try.underlying69]
  go_enter Try.func25, Try.ntmps25
  go_wp2_with (first | (refine wpList_alloc_zero rfl 23 rfl _ zero23 ?_; simp only [Act.put, List.setIfInBounds_toArray, List.set_cons_succ, List.set_cons_zero, World.size_alloc]) | (refine ld_mid rfl 69 _ rfl b off 352 g rfl ?_ _ Try.underlying69 sizeB11 ?_; focus exact fun i hi => (by rw [((Below.refl w.heap.size w).alloc (Nat.le_refl _) _).cell (p := ⟨b, off + i, none⟩) (block_lt_of_cell (HB.out i hi))]; exact HB.out i hi)))
  obtain ⟨W, hW, h0, hw, HS⟩ := pack1 w (arr .u16 256 fun _ => 0) 23
  rw [← hW]
  clear hW
  refine (HC.out _).mono ?_
  rintro e w1 ⟨rfl, hb⟩
  have d0 := h0.below hb h0.lt
  have db := hw.trans (hb.mono hw.size)
  clear hb hw HS h0 HC HB
  go_wp2_with fail
  refine (ofRing_any _ _).mono ?_
  rintro e w2 ⟨rfl, hb⟩
  have e0 := d0.below hb d0.lt
  have eb := db.trans (hb.mono db.size)
  clear hb db d0
  go_wp2_with (refine st_arr rfl 23 _ _ rfl (w.heap.size) rfl .u16 256 _ rfl 23 .u16 _ e0.out size23 ?_; simp only [Act.put, List.setIfInBounds_toArray, List.set_cons_succ, List.set_cons_zero, World.size_alloc])
  exact bodyPost_ret (res_arr_tmp rfl _ _ (w.heap.size) 23 .u16 256 _ _ rfl (e0.row _).out Try.underlying23 size23 _ rfl) rfl ⟨rfl, Below.setRow eb _ (by omega) _⟩
theorem implEncodeWidth_any (f : Nat → Int) (K : Nat) (w : World) (hK : K = 1 ∨ K = 4 ∨ K = 5 ∨ K = 10 ∨ K = 11) (hf : ∀ i, i < 256 → 0 ≤ f i ∧ f i < 3329) :
    Calls Try.prog 26 #[.agg (arr .u16 256 f), .int .u8 K] w fun e w' => ∃ v, e = .returned v ∧ Bys w' v (32 * K) (byt (strm (fun i => cmpr K (f i)) K)) ∧ Below w.heap.size w w' := by
  rcases hK with rfl | rfl | rfl | rfl | rfl
  · exact implEncodeWidth1_any f w hf
  · exact implEncodeWidth4_any f w hf
  · exact implEncodeWidth5_any f w hf
  · exact implEncodeWidth10_any f w hf
  · exact implEncodeWidth11_any f w hf
theorem implDecodeWidth_any (v : Value) (g : Nat → Int) (K : Nat) (w : World) (hK : K = 1 ∨ K = 4 ∨ K = 5 ∨ K = 10 ∨ K = 11) (hv : Bys w v (32 * K) g) (hg : ∀ i, i < 32 * K → 0 ≤ g i ∧ g i < 256) :
    Calls Try.prog 25 #[v, .int .u8 K] w fun e w' => e = .returned (.tuple #[.agg (arr .u16 256 fun i => dcmp K (dig (strm g 8) K i)), .bool true]) ∧ Below w.heap.size w w' := by
  rcases hK with rfl | rfl | rfl | rfl | rfl
  · exact implDecodeWidth1_any v g w hv hg
  · exact implDecodeWidth4_any v g w hv hg
  · exact implDecodeWidth5_any v g w hv hg
  · exact implDecodeWidth10_any v g w hv hg
  · exact implDecodeWidth11_any v g w hv hg
end Go.Proofs.Ytghngfeacpamhaa
