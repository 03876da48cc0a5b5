/-
  ZZEncode, Encode, ZZDecode, Decode. Conditions: numbers below 3329, 32 d bytes; d is 1 to 11.
-/
import Derived.Test.YtghngfeacpamhaaRce
import Derived.Test.YtghngfeacpamhaaRdd
import Derived.Test.YtghngfeacpamhaaCopy
namespace Go.Proofs.Ytghngfeacpamhaa
open Go.RowKit

set_option maxRecDepth 100000 in
set_option maxHeartbeats 1000000 in
theorem zzEncode_any (f : Nat → Int) (d : Nat) (w : World) (d0 : 1 ≤ d) (d1 : d ≤ 11) (hf : ∀ i, i < 256 → 0 ≤ f i ∧ f i < 3329) :
    Calls Try.prog 32 #[.slice none 0 0, .agg (arr .u16 256 f), .int .u8 d] w fun e w' => ∃ v, e = .returned v ∧ Bys w' v (32 * d) (byt (strm (fun i => cmpr d (f i)) d)) ∧ Below w.heap.size w w' := by
  have HC := Lib.hid fun W => ringEncode_any f d W d0 d1 hf
  clear hf
  go_enter Try.func32, Try.ntmps32
  go_wp2_with (refine ld_arr rfl 50 _ rfl (w.heap.size) rfl 50 .u16 256 f _ (Has.new _ _ _).out Try.underlying50 size50 ?_; simp only [Act.put, List.setIfInBounds_toArray, List.set_cons_succ, List.set_cons_zero, World.size_alloc])
  obtain ⟨W, hW, h0, hw, HS⟩ := pack1 w (arr .u16 256 f) 50
  rw [← hW]
  clear hW
  refine (HC.out _).mono ?_
  rintro e w1 ⟨v, rfl, hv, hb⟩
  have db := hw.trans (hb.mono (by omega))
  clear hb hw HS h0 HC
  go_wp2_with fail
  go_ret
  exact ⟨_, rfl, hv, db⟩
set_option maxRecDepth 100000 in
set_option maxHeartbeats 1000000 in
theorem implEncode_any (f : Nat → Int) (d : Nat) (w : World) (d0 : 1 ≤ d) (d1 : d ≤ 11) (hf : ∀ i, i < 256 → 0 ≤ f i ∧ f i < 3329) :
    Calls Try.prog 21 #[.agg (arr .u16 256 f), .int .u8 d] w fun e w' => ∃ v, e = .returned v ∧ Bys w' v (32 * d) (byt (strm (fun i => cmpr d (f i)) d)) ∧ Below w.heap.size w w' := by
  have HC := Lib.hid fun W => zzEncode_any f d W d0 d1 hf
  clear hf
  go_enter Try.func21, Try.ntmps21
  go_wp2_with (refine ld_arr rfl 23 _ rfl (w.heap.size) rfl 23 .u16 256 f _ (Has.new _ _ _).out Try.underlying23 size23 ?_; simp only [Act.put, List.setIfInBounds_toArray, List.set_cons_succ, List.set_cons_zero, World.size_alloc])
  obtain ⟨W, hW, h0, hw, HS⟩ := pack1 w (arr .u16 256 f) 23
  rw [← hW]
  clear hW
  refine (ring_any f _).mono ?_
  rintro e w1 ⟨rfl, hb⟩
  have db := hw.trans (hb.mono (by omega))
  have ds := hb.size
  clear hb hw h0
  go_wp2_with fail
  refine (HC.out _).mono ?_
  rintro e w2 ⟨v, rfl, hv, hb⟩
  have eb := db.trans (hb.mono (by omega))
  clear hb db HS HC
  go_wp2_with fail
  go_ret
  exact ⟨_, rfl, hv, eb⟩
set_option maxRecDepth 100000 in
set_option maxHeartbeats 1000000 in
theorem zzDecode_any (v : Value) (g : Nat → Int) (d : Nat) (w : World) (d0 : 1 ≤ d) (d1 : d ≤ 11) (hv : Bys w v (32 * d) g) (hg : ∀ i, i < 32 * d → 0 ≤ g i ∧ g i < 256) :
    Calls Try.prog 31 #[v, .int .u8 d] w fun e w' => e = .returned (.agg (arr .u16 256 (fun i => dcmp d (dig (strm g 8) d i)))) ∧ Below w.heap.size w w' := by
  have HC := Lib.hid fun W hv => ringDecode_any v g d W d0 d1 hv hg
  clear hg
  go_enter Try.func31, Try.ntmps31
  go_wp2_with (refine wpList_alloc_zero rfl 50 rfl _ zero50 ?_; simp only [Act.put, List.setIfInBounds_toArray, List.set_cons_succ, List.set_cons_zero, World.size_alloc])
  obtain ⟨W, hW, h0, hw, HS⟩ := pack1 w (arr .u16 256 fun _ => 0) 50
  rw [← hW]
  clear hW
  refine (HC.out _ (hv.below hw)).mono ?_
  rintro e w1 ⟨rfl, hb⟩
  have d0 := h0.below hb (by omega)
  have db := hw.trans (hb.mono (by omega))
  clear hb hw HS h0 HC hv
  go_wp2_with (refine st_arr rfl 50 _ _ rfl (w.heap.size) rfl .u16 256 _ rfl 50 .u16 _ d0.out size50 ?_; simp only [Act.put, List.setIfInBounds_toArray, List.set_cons_succ, List.set_cons_zero, World.size_alloc])
  exact bodyPost_ret (res_arr rfl _ _ (w.heap.size) 50 .u16 256 _ _ rfl (d0.row _).out Try.underlying50 size50) rfl ⟨rfl, Below.setRow db _ (by omega) _⟩
set_option maxRecDepth 100000 in
set_option maxHeartbeats 1000000 in
theorem implDecode_any (v : Value) (g : Nat → Int) (d : Nat) (w : World) (d0 : 1 ≤ d) (d1 : d ≤ 11) (hv : Bys w v (32 * d) g) (hg : ∀ i, i < 32 * d → 0 ≤ g i ∧ g i < 256) :
    Calls Try.prog 19 #[v, .int .u8 d] w fun e w' => e = .returned (.agg (arr .u16 256 (fun i => dcmp d (dig (strm g 8) d i)))) ∧ Below w.heap.size w w' := by
  have HC := Lib.hid fun W hv => zzDecode_any v g d W d0 d1 hv hg
  clear hg
  go_enter Try.func19, Try.ntmps19
  go_wp2_with (refine wpList_alloc_zero rfl 23 rfl _ zero23 ?_; simp only [Act.put, List.setIfInBounds_toArray, List.set_cons_succ, List.set_cons_zero, World.size_alloc])
  obtain ⟨W, hW, h0, hw, HS⟩ := pack1 w (arr .u16 256 fun _ => 0) 23
  rw [← hW]
  clear hW
  refine (HC.out _ (hv.below hw)).mono ?_
  rintro e w1 ⟨rfl, hb⟩
  have d0 := h0.below hb (by omega)
  have db := hw.trans (hb.mono (by omega))
  have ds := Nat.le_trans HS hb.size
  clear hb hw HS h0 HC hv
  go_wp2_with fail
  refine (ofRing_any _ _).mono ?_
  rintro e w2 ⟨rfl, hb⟩
  have e0 := d0.below hb (by omega)
  have eb := db.trans (hb.mono (by omega))
  clear hb db d0 ds
  go_wp2_with (refine st_arr rfl 23 _ _ rfl (w.heap.size) rfl .u16 256 _ rfl 23 .u16 _ e0.out size23 ?_; simp only [Act.put, List.setIfInBounds_toArray, List.set_cons_succ, List.set_cons_zero, World.size_alloc])
  exact bodyPost_ret (res_arr rfl _ _ (w.heap.size) 23 .u16 256 _ _ rfl (e0.row _).out Try.underlying23 size23) rfl ⟨rfl, Below.setRow eb _ (by omega) _⟩
end Go.Proofs.Ytghngfeacpamhaa
