/-
  ringCompressAndEncode5, 11, ringDecodeAndDecompress5, 11, and ZZEncode, ZZDecode of each width. Conditions: numbers below 3329; so many bytes.
-/
import Derived.Test.YtghngfeacpamhaaRce
import Derived.Test.YtghngfeacpamhaaRdd
import Derived.Test.YtghngfeacpamhaaCopy
import Derived.Test.YtghngfeacpamhaaEw1
import Derived.Test.YtghngfeacpamhaaEw4
import Derived.Test.YtghngfeacpamhaaEw10
import Derived.Test.YtghngfeacpamhaaDw1
import Derived.Test.YtghngfeacpamhaaDw4
import Derived.Test.YtghngfeacpamhaaDw10
namespace Go.Proofs.Ytghngfeacpamhaa
open Go.RowKit

theorem ringEncodeAt5 (f : Nat → Int) (w : World) (hf : ∀ i, i < 256 → 0 ≤ f i ∧ f i < 3329) :
    Calls Try.prog 46 #[.slice none 0 0, .agg (arr .u16 256 f), .int .u8 5] w fun e w' => ∃ v, e = .returned v ∧ Bys w' v 160 (byt (strm (fun i => cmpr 5 (f i)) 5)) ∧ Below w.heap.size w w' :=
  ringEncode_any f 5 w (by omega) (by omega) hf
theorem ringDecodeAt5 (v : Value) (g : Nat → Int) (w : World) (hv : Bys w v 160 g) (hg : ∀ i, i < 160 → 0 ≤ g i ∧ g i < 256) :
    Calls Try.prog 45 #[v, .int .u8 5] w fun e w' => e = .returned (.agg (arr .u16 256 (fun i => dcmp 5 (dig (strm g 8) 5 i)))) ∧ Below w.heap.size w w' :=
  ringDecode_any v g 5 w (by omega) (by omega) hv hg
set_option maxRecDepth 100000 in
set_option maxHeartbeats 1000000 in
theorem ringEncode5_any (f : Nat → Int) (w : World) (hf : ∀ i, i < 256 → 0 ≤ f i ∧ f i < 3329) :
    Calls Try.prog 54 #[.slice none 0 0, .agg (arr .u16 256 f)] w fun e w' => ∃ v, e = .returned v ∧ Bys w' v (160) (byt (strm (fun i => cmpr 5 (f i)) 5)) ∧ Below w.heap.size w w' := by
  have HC := Lib.hid fun W => ringEncodeAt5 f W hf
  clear hf
  go_enter Try.func54, Try.ntmps54
  go_wp2_with (refine ld_arr rfl 50 _ rfl (w.heap.size) rfl 50 .u16 256 f _ (Has.new _ _ _).out Try.underlying50 size50 ?_; simp only [Act.put, List.setIfInBounds_toArray, List.set_cons_succ, List.set_cons_zero, World.size_alloc])
  obtain ⟨W, hW, h0, hw, HS⟩ := pack1 w (arr .u16 256 f) 50
  rw [← hW]
  clear hW
  refine (HC.out _).mono ?_
  rintro e w1 ⟨v, rfl, hv, hb⟩
  have db := hw.trans (hb.mono (by omega))
  clear hb hw HS h0 HC
  go_wp2_with fail
  go_ret
  exact ⟨_, rfl, hv, db⟩
set_option maxRecDepth 100000 in
set_option maxHeartbeats 1000000 in
theorem ringDecode5_any (g : Nat → Int) (b : Nat) (t : TypeId) (w : World) (h : Has w b (arr .u8 160 g) t) (hg : ∀ i, i < 160 → 0 ≤ g i ∧ g i < 256) :
    Calls Try.prog 49 #[.pointer (some ⟨b, 0, none⟩)] w fun e w' => e = .returned (.agg (arr .u16 256 (fun i => dcmp 5 (dig (strm g 8) 5 i)))) ∧ Below w.heap.size w w' := by
  have HC := Lib.hid fun W hv => ringDecodeAt5 (.slice (some ⟨b, 0, none⟩) 160 160) g W hv hg
  clear hg
  go_enter Try.func49, Try.ntmps49
  go_wp2_with (refine wpList_alloc_zero rfl 50 rfl _ zero50 ?_; simp only [Act.put, List.setIfInBounds_toArray, List.set_cons_succ, List.set_cons_zero, World.size_alloc])
  obtain ⟨W, hW, h0, hw, HS⟩ := pack1 w (arr .u16 256 fun _ => 0) 50
  rw [← hW]
  clear hW
  have hh := h.below hw h.lt
  refine (HC.out _ ⟨_, _, _, rfl, Nat.le_refl _, fun i hi => by rw [Nat.zero_add]; exact hh.cell i hi⟩).mono ?_
  rintro e w1 ⟨rfl, hb⟩
  have d0 := h0.below hb h0.lt
  have db := hw.trans (hb.mono hw.size)
  clear hb hw HS h0 HC h hh
  go_wp2_with (refine st_arr rfl 50 _ _ rfl (w.heap.size) rfl .u16 256 _ rfl 50 .u16 _ d0.out size50 ?_; simp only [Act.put, List.setIfInBounds_toArray, List.set_cons_succ, List.set_cons_zero, World.size_alloc])
  exact bodyPost_ret (res_arr rfl _ _ (w.heap.size) 50 .u16 256 _ _ rfl (d0.row _).out Try.underlying50 size50) rfl ⟨rfl, Below.setRow db _ (by omega) _⟩
theorem ringEncodeAt11 (f : Nat → Int) (w : World) (hf : ∀ i, i < 256 → 0 ≤ f i ∧ f i < 3329) :
    Calls Try.prog 46 #[.slice none 0 0, .agg (arr .u16 256 f), .int .u8 11] w fun e w' => ∃ v, e = .returned v ∧ Bys w' v 352 (byt (strm (fun i => cmpr 11 (f i)) 11)) ∧ Below w.heap.size w w' :=
  ringEncode_any f 11 w (by omega) (by omega) hf
theorem ringDecodeAt11 (v : Value) (g : Nat → Int) (w : World) (hv : Bys w v 352 g) (hg : ∀ i, i < 352 → 0 ≤ g i ∧ g i < 256) :
    Calls Try.prog 45 #[v, .int .u8 11] w fun e w' => e = .returned (.agg (arr .u16 256 (fun i => dcmp 11 (dig (strm g 8) 11 i)))) ∧ Below w.heap.size w w' :=
  ringDecode_any v g 11 w (by omega) (by omega) hv hg
set_option maxRecDepth 100000 in
set_option maxHeartbeats 1000000 in
theorem ringEncode11_any (f : Nat → Int) (w : World) (hf : ∀ i, i < 256 → 0 ≤ f i ∧ f i < 3329) :
    Calls Try.prog 56 #[.slice none 0 0, .agg (arr .u16 256 f)] w fun e w' => ∃ v, e = .returned v ∧ Bys w' v (352) (byt (strm (fun i => cmpr 11 (f i)) 11)) ∧ Below w.heap.size w w' := by
  have HC := Lib.hid fun W => ringEncodeAt11 f W hf
  clear hf
  go_enter Try.func56, Try.ntmps56
  go_wp2_with (refine ld_arr rfl 50 _ rfl (w.heap.size) rfl 50 .u16 256 f _ (Has.new _ _ _).out Try.underlying50 size50 ?_; simp only [Act.put, List.setIfInBounds_toArray, List.set_cons_succ, List.set_cons_zero, World.size_alloc])
  obtain ⟨W, hW, h0, hw, HS⟩ := pack1 w (arr .u16 256 f) 50
  rw [← hW]
  clear hW
  refine (HC.out _).mono ?_
  rintro e w1 ⟨v, rfl, hv, hb⟩
  have db := hw.trans (hb.mono (by omega))
  clear hb hw HS h0 HC
  go_wp2_with fail
  go_ret
  exact ⟨_, rfl, hv, db⟩
set_option maxRecDepth 100000 in
set_option maxHeartbeats 1000000 in
theorem ringDecode11_any (g : Nat → Int) (b : Nat) (t : TypeId) (w : World) (h : Has w b (arr .u8 352 g) t) (hg : ∀ i, i < 352 → 0 ≤ g i ∧ g i < 256) :
    Calls Try.prog 51 #[.pointer (some ⟨b, 0, none⟩)] w fun e w' => e = .returned (.agg (arr .u16 256 (fun i => dcmp 11 (dig (strm g 8) 11 i)))) ∧ Below w.heap.size w w' := by
  have HC := Lib.hid fun W hv => ringDecodeAt11 (.slice (some ⟨b, 0, none⟩) 352 352) g W hv hg
  clear hg
  go_enter Try.func51, Try.ntmps51
  go_wp2_with (refine wpList_alloc_zero rfl 50 rfl _ zero50 ?_; simp only [Act.put, List.setIfInBounds_toArray, List.set_cons_succ, List.set_cons_zero, World.size_alloc])
  obtain ⟨W, hW, h0, hw, HS⟩ := pack1 w (arr .u16 256 fun _ => 0) 50
  rw [← hW]
  clear hW
  have hh := h.below hw h.lt
  refine (HC.out _ ⟨_, _, _, rfl, Nat.le_refl _, fun i hi => by rw [Nat.zero_add]; exact hh.cell i hi⟩).mono ?_
  rintro e w1 ⟨rfl, hb⟩
  have d0 := h0.below hb h0.lt
  have db := hw.trans (hb.mono hw.size)
  clear hb hw HS h0 HC h hh
  go_wp2_with (refine st_arr rfl 50 _ _ rfl (w.heap.size) rfl .u16 256 _ rfl 50 .u16 _ d0.out size50 ?_; simp only [Act.put, List.setIfInBounds_toArray, List.set_cons_succ, List.set_cons_zero, World.size_alloc])
  exact bodyPost_ret (res_arr rfl _ _ (w.heap.size) 50 .u16 256 _ _ rfl (d0.row _).out Try.underlying50 size50) rfl ⟨rfl, Below.setRow db _ (by omega) _⟩
set_option maxRecDepth 100000 in
set_option maxHeartbeats 1000000 in
theorem zzEncode1_any (f : Nat → Int) (w : World) (hf : ∀ i, i < 256 → 0 ≤ f i ∧ f i < 3329) :
    Calls Try.prog 38 #[.slice none 0 0, .agg (arr .u16 256 f)] w fun e w' => ∃ v, e = .returned v ∧ Bys w' v (32) (byt (strm (fun i => cmpr 1 (f i)) 1)) ∧ Below w.heap.size w w' := by
  have HC := Lib.hid fun W => ringEncode1_any f W hf
  clear hf
  go_enter Try.func38, Try.ntmps38
  go_wp2_with (refine ld_arr rfl 50 _ rfl (w.heap.size) rfl 50 .u16 256 f _ (Has.new _ _ _).out Try.underlying50 size50 ?_; simp only [Act.put, List.setIfInBounds_toArray, List.set_cons_succ, List.set_cons_zero, World.size_alloc])
  obtain ⟨W, hW, h0, hw, HS⟩ := pack1 w (arr .u16 256 f) 50
  rw [← hW]
  clear hW
  refine (HC.out _).mono ?_
  rintro e w1 ⟨v, rfl, hv, hb⟩
  have db := hw.trans (hb.mono (by omega))
  clear hb hw HS h0 HC
  go_wp2_with fail
  go_ret
  exact ⟨_, rfl, hv, db⟩
set_option maxRecDepth 100000 in
set_option maxHeartbeats 1000000 in
theorem zzDecode1_any (g : Nat → Int) (w : World) (hg : ∀ i, i < 32 → 0 ≤ g i ∧ g i < 256) :
    Calls Try.prog 33 #[.agg (arr .u8 32 g)] w fun e w' => e = .returned (.agg (arr .u16 256 (fun i => dcmp 1 (dig (strm g 8) 1 i)))) ∧ Below w.heap.size w w' := by
  have HC := Lib.hid fun W (h : Has W w.heap.size (arr .u8 32 g) 61) => ringDecode1_any g w.heap.size 61 W h hg
  clear hg
  go_enter Try.func33, Try.ntmps33
  go_wp2_with (refine wpList_alloc_zero rfl 50 rfl _ zero50 ?_; simp only [Act.put, List.setIfInBounds_toArray, List.set_cons_succ, List.set_cons_zero, World.size_alloc])
  obtain ⟨W, hW, h0, h1, hw, HS⟩ := pack2 w (arr .u8 32 g) (arr .u16 256 fun _ => 0) 61 50
  rw [← hW]
  clear hW
  refine (HC.out _ h0).mono ?_
  rintro e w1 ⟨rfl, hb⟩
  have d1 := h1.below hb h1.lt
  have db := hw.trans (hb.mono hw.size)
  clear hb hw HS h0 h1 HC
  go_wp2_with (refine st_arr rfl 50 _ _ rfl (w.heap.size + 1) rfl .u16 256 _ rfl 50 .u16 _ d1.out size50 ?_; simp only [Act.put, List.setIfInBounds_toArray, List.set_cons_succ, List.set_cons_zero, World.size_alloc])
  exact bodyPost_ret (res_arr rfl _ _ (w.heap.size + 1) 50 .u16 256 _ _ rfl (d1.row _).out Try.underlying50 size50) rfl ⟨rfl, Below.setRow db _ (by omega) _⟩
set_option maxRecDepth 100000 in
set_option maxHeartbeats 1000000 in
theorem zzEncode4_any (f : Nat → Int) (w : World) (hf : ∀ i, i < 256 → 0 ≤ f i ∧ f i < 3329) :
    Calls Try.prog 39 #[.slice none 0 0, .agg (arr .u16 256 f)] w fun e w' => ∃ v, e = .returned v ∧ Bys w' v (128) (byt (strm (fun i => cmpr 4 (f i)) 4)) ∧ Below w.heap.size w w' := by
  have HC := Lib.hid fun W => ringEncode4_any f W hf
  clear hf
  go_enter Try.func39, Try.ntmps39
  go_wp2_with (refine ld_arr rfl 50 _ rfl (w.heap.size) rfl 50 .u16 256 f _ (Has.new _ _ _).out Try.underlying50 size50 ?_; simp only [Act.put, List.setIfInBounds_toArray, List.set_cons_succ, List.set_cons_zero, World.size_alloc])
  obtain ⟨W, hW, h0, hw, HS⟩ := pack1 w (arr .u16 256 f) 50
  rw [← hW]
  clear hW
  refine (HC.out _).mono ?_
  rintro e w1 ⟨v, rfl, hv, hb⟩
  have db := hw.trans (hb.mono (by omega))
  clear hb hw HS h0 HC
  go_wp2_with fail
  go_ret
  exact ⟨_, rfl, hv, db⟩
set_option maxRecDepth 100000 in
set_option maxHeartbeats 1000000 in
theorem zzDecode4_any (g : Nat → Int) (w : World) (hg : ∀ i, i < 128 → 0 ≤ g i ∧ g i < 256) :
    Calls Try.prog 34 #[.agg (arr .u8 128 g)] w fun e w' => e = .returned (.agg (arr .u16 256 (fun i => dcmp 4 (dig (strm g 8) 4 i)))) ∧ Below w.heap.size w w' := by
  have HC := Lib.hid fun W (h : Has W w.heap.size (arr .u8 128 g) 63) => ringDecode4_any g w.heap.size 63 W h hg
  clear hg
  go_enter Try.func34, Try.ntmps34
  go_wp2_with (refine wpList_alloc_zero rfl 50 rfl _ zero50 ?_; simp only [Act.put, List.setIfInBounds_toArray, List.set_cons_succ, List.set_cons_zero, World.size_alloc])
  obtain ⟨W, hW, h0, h1, hw, HS⟩ := pack2 w (arr .u8 128 g) (arr .u16 256 fun _ => 0) 63 50
  rw [← hW]
  clear hW
  refine (HC.out _ h0).mono ?_
  rintro e w1 ⟨rfl, hb⟩
  have d1 := h1.below hb h1.lt
  have db := hw.trans (hb.mono hw.size)
  clear hb hw HS h0 h1 HC
  go_wp2_with (refine st_arr rfl 50 _ _ rfl (w.heap.size + 1) rfl .u16 256 _ rfl 50 .u16 _ d1.out size50 ?_; simp only [Act.put, List.setIfInBounds_toArray, List.set_cons_succ, List.set_cons_zero, World.size_alloc])
  exact bodyPost_ret (res_arr rfl _ _ (w.heap.size + 1) 50 .u16 256 _ _ rfl (d1.row _).out Try.underlying50 size50) rfl ⟨rfl, Below.setRow db _ (by omega) _⟩
set_option maxRecDepth 100000 in
set_option maxHeartbeats 1000000 in
theorem zzEncode5_any (f : Nat → Int) (w : World) (hf : ∀ i, i < 256 → 0 ≤ f i ∧ f i < 3329) :
    Calls Try.prog 40 #[.slice none 0 0, .agg (arr .u16 256 f)] w fun e w' => ∃ v, e = .returned v ∧ Bys w' v (160) (byt (strm (fun i => cmpr 5 (f i)) 5)) ∧ Below w.heap.size w w' := by
  have HC := Lib.hid fun W => ringEncode5_any f W hf
  clear hf
  go_enter Try.func40, Try.ntmps40
  go_wp2_with (refine ld_arr rfl 50 _ rfl (w.heap.size) rfl 50 .u16 256 f _ (Has.new _ _ _).out Try.underlying50 size50 ?_; simp only [Act.put, List.setIfInBounds_toArray, List.set_cons_succ, List.set_cons_zero, World.size_alloc])
  obtain ⟨W, hW, h0, hw, HS⟩ := pack1 w (arr .u16 256 f) 50
  rw [← hW]
  clear hW
  refine (HC.out _).mono ?_
  rintro e w1 ⟨v, rfl, hv, hb⟩
  have db := hw.trans (hb.mono (by omega))
  clear hb hw HS h0 HC
  go_wp2_with fail
  go_ret
  exact ⟨_, rfl, hv, db⟩
set_option maxRecDepth 100000 in
set_option maxHeartbeats 1000000 in
theorem zzDecode5_any (g : Nat → Int) (w : World) (hg : ∀ i, i < 160 → 0 ≤ g i ∧ g i < 256) :
    Calls Try.prog 35 #[.agg (arr .u8 160 g)] w fun e w' => e = .returned (.agg (arr .u16 256 (fun i => dcmp 5 (dig (strm g 8) 5 i)))) ∧ Below w.heap.size w w' := by
  have HC := Lib.hid fun W (h : Has W w.heap.size (arr .u8 160 g) 65) => ringDecode5_any g w.heap.size 65 W h hg
  clear hg
  go_enter Try.func35, Try.ntmps35
  go_wp2_with (refine wpList_alloc_zero rfl 50 rfl _ zero50 ?_; simp only [Act.put, List.setIfInBounds_toArray, List.set_cons_succ, List.set_cons_zero, World.size_alloc])
  obtain ⟨W, hW, h0, h1, hw, HS⟩ := pack2 w (arr .u8 160 g) (arr .u16 256 fun _ => 0) 65 50
  rw [← hW]
  clear hW
  refine (HC.out _ h0).mono ?_
  rintro e w1 ⟨rfl, hb⟩
  have d1 := h1.below hb h1.lt
  have db := hw.trans (hb.mono hw.size)
  clear hb hw HS h0 h1 HC
  go_wp2_with (refine st_arr rfl 50 _ _ rfl (w.heap.size + 1) rfl .u16 256 _ rfl 50 .u16 _ d1.out size50 ?_; simp only [Act.put, List.setIfInBounds_toArray, List.set_cons_succ, List.set_cons_zero, World.size_alloc])
  exact bodyPost_ret (res_arr rfl _ _ (w.heap.size + 1) 50 .u16 256 _ _ rfl (d1.row _).out Try.underlying50 size50) rfl ⟨rfl, Below.setRow db _ (by omega) _⟩
set_option maxRecDepth 100000 in
set_option maxHeartbeats 1000000 in
theorem zzEncode10_any (f : Nat → Int) (w : World) (hf : ∀ i, i < 256 → 0 ≤ f i ∧ f i < 3329) :
    Calls Try.prog 41 #[.slice none 0 0, .agg (arr .u16 256 f)] w fun e w' => ∃ v, e = .returned v ∧ Bys w' v (320) (byt (strm (fun i => cmpr 10 (f i)) 10)) ∧ Below w.heap.size w w' := by
  have HC := Lib.hid fun W => ringEncode10_any f W hf
  clear hf
  go_enter Try.func41, Try.ntmps41
  go_wp2_with (refine ld_arr rfl 50 _ rfl (w.heap.size) rfl 50 .u16 256 f _ (Has.new _ _ _).out Try.underlying50 size50 ?_; simp only [Act.put, List.setIfInBounds_toArray, List.set_cons_succ, List.set_cons_zero, World.size_alloc])
  obtain ⟨W, hW, h0, hw, HS⟩ := pack1 w (arr .u16 256 f) 50
  rw [← hW]
  clear hW
  refine (HC.out _).mono ?_
  rintro e w1 ⟨v, rfl, hv, hb⟩
  have db := hw.trans (hb.mono (by omega))
  clear hb hw HS h0 HC
  go_wp2_with fail
  go_ret
  exact ⟨_, rfl, hv, db⟩
set_option maxRecDepth 100000 in
set_option maxHeartbeats 1000000 in
theorem zzDecode10_any (g : Nat → Int) (w : World) (hg : ∀ i, i < 320 → 0 ≤ g i ∧ g i < 256) :
    Calls Try.prog 36 #[.agg (arr .u8 320 g)] w fun e w' => e = .returned (.agg (arr .u16 256 (fun i => dcmp 10 (dig (strm g 8) 10 i)))) ∧ Below w.heap.size w w' := by
  have HC := Lib.hid fun W (h : Has W w.heap.size (arr .u8 320 g) 67) => ringDecode10_any g w.heap.size 67 W h hg
  clear hg
  go_enter Try.func36, Try.ntmps36
  go_wp2_with (refine wpList_alloc_zero rfl 50 rfl _ zero50 ?_; simp only [Act.put, List.setIfInBounds_toArray, List.set_cons_succ, List.set_cons_zero, World.size_alloc])
  obtain ⟨W, hW, h0, h1, hw, HS⟩ := pack2 w (arr .u8 320 g) (arr .u16 256 fun _ => 0) 67 50
  rw [← hW]
  clear hW
  refine (HC.out _ h0).mono ?_
  rintro e w1 ⟨rfl, hb⟩
  have d1 := h1.below hb h1.lt
  have db := hw.trans (hb.mono hw.size)
  clear hb hw HS h0 h1 HC
  go_wp2_with (refine st_arr rfl 50 _ _ rfl (w.heap.size + 1) rfl .u16 256 _ rfl 50 .u16 _ d1.out size50 ?_; simp only [Act.put, List.setIfInBounds_toArray, List.set_cons_succ, List.set_cons_zero, World.size_alloc])
  exact bodyPost_ret (res_arr rfl _ _ (w.heap.size + 1) 50 .u16 256 _ _ rfl (d1.row _).out Try.underlying50 size50) rfl ⟨rfl, Below.setRow db _ (by omega) _⟩
set_option maxRecDepth 100000 in
set_option maxHeartbeats 1000000 in
theorem zzEncode11_any (f : Nat → Int) (w : World) (hf : ∀ i, i < 256 → 0 ≤ f i ∧ f i < 3329) :
    Calls Try.prog 42 #[.slice none 0 0, .agg (arr .u16 256 f)] w fun e w' => ∃ v, e = .returned v ∧ Bys w' v (352) (byt (strm (fun i => cmpr 11 (f i)) 11)) ∧ Below w.heap.size w w' := by
  have HC := Lib.hid fun W => ringEncode11_any f W hf
  clear hf
  go_enter Try.func42, Try.ntmps42
  go_wp2_with (refine ld_arr rfl 50 _ rfl (w.heap.size) rfl 50 .u16 256 f _ (Has.new _ _ _).out Try.underlying50 size50 ?_; simp only [Act.put, List.setIfInBounds_toArray, List.set_cons_succ, List.set_cons_zero, World.size_alloc])
  obtain ⟨W, hW, h0, hw, HS⟩ := pack1 w (arr .u16 256 f) 50
  rw [← hW]
  clear hW
  refine (HC.out _).mono ?_
  rintro e w1 ⟨v, rfl, hv, hb⟩
  have db := hw.trans (hb.mono (by omega))
  clear hb hw HS h0 HC
  go_wp2_with fail
  go_ret
  exact ⟨_, rfl, hv, db⟩
set_option maxRecDepth 100000 in
set_option maxHeartbeats 1000000 in
theorem zzDecode11_any (g : Nat → Int) (w : World) (hg : ∀ i, i < 352 → 0 ≤ g i ∧ g i < 256) :
    Calls Try.prog 37 #[.agg (arr .u8 352 g)] w fun e w' => e = .returned (.agg (arr .u16 256 (fun i => dcmp 11 (dig (strm g 8) 11 i)))) ∧ Below w.heap.size w w' := by
  have HC := Lib.hid fun W (h : Has W w.heap.size (arr .u8 352 g) 69) => ringDecode11_any g w.heap.size 69 W h hg
  clear hg
  go_enter Try.func37, Try.ntmps37
  go_wp2_with (refine wpList_alloc_zero rfl 50 rfl _ zero50 ?_; simp only [Act.put, List.setIfInBounds_toArray, List.set_cons_succ, List.set_cons_zero, World.size_alloc])
  obtain ⟨W, hW, h0, h1, hw, HS⟩ := pack2 w (arr .u8 352 g) (arr .u16 256 fun _ => 0) 69 50
  rw [← hW]
  clear hW
  refine (HC.out _ h0).mono ?_
  rintro e w1 ⟨rfl, hb⟩
  have d1 := h1.below hb h1.lt
  have db := hw.trans (hb.mono hw.size)
  clear hb hw HS h0 h1 HC
  go_wp2_with (refine st_arr rfl 50 _ _ rfl (w.heap.size + 1) rfl .u16 256 _ rfl 50 .u16 _ d1.out size50 ?_; simp only [Act.put, List.setIfInBounds_toArray, List.set_cons_succ, List.set_cons_zero, World.size_alloc])
  exact bodyPost_ret (res_arr rfl _ _ (w.heap.size + 1) 50 .u16 256 _ _ rfl (d1.row _).out Try.underlying50 size50) rfl ⟨rfl, Below.setRow db _ (by omega) _⟩
end Go.Proofs.Ytghngfeacpamhaa
