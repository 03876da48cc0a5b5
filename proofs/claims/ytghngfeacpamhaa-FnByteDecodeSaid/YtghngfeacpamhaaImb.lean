/-
  ZZByteDecode, ByteDecode. Conditions: as polyByteDecode's.
-/
import Derived.Test.YtghngfeacpamhaaByd
import Derived.Test.YtghngfeacpamhaaCopy
import Derived.Test.YtghngfeacpamhaaHeld
import Derived.Test.YtghngfeacpamhaaArms
namespace Go.Proofs.Ytghngfeacpamhaa
open Go.RowKit

/-- What ByteDecode tells: the polynomial, and whether there is one. -/
def PB (bb : Bool) (F : Nat → Int) (w : World) (e : Ending) (w' : World) : Prop :=
  ∃ G, e = .returned (.tuple #[.agg (arr .u16 256 G), .bool bb]) ∧ (bb = true → arr .u16 256 G = arr .u16 256 F) ∧ Below w.heap.size w w'
set_option maxRecDepth 100000 in
set_option maxHeartbeats 1000000 in
theorem zzByteDecode_of (v : Value) (F : Nat → Int) (bb : Bool) (w : World) (H : ∀ W, Below w.heap.size w W → Calls Try.prog 44 #[v] W (PD bb F W)) :
    Calls Try.prog 29 #[v] w (PD bb F w) := by
  have HC := Lib.hid H; clear H
  go_enter Try.func29, Try.ntmps29
  go_wp2_with (refine wpList_alloc_zero rfl 50 rfl _ zero50 ?_; simp only [Act.put, List.setIfInBounds_toArray, List.set_cons_succ, List.set_cons_zero, World.size_alloc])
  obtain ⟨W, hW, h0, hw, HS⟩ := pack1 w (arr .u16 256 fun _ => 0) 50
  rw [← hW]
  clear hW
  refine (HC.out W hw).mono ?_
  rintro e w1 ⟨G, ER, rfl, hy, hn, hb⟩
  have HY := Lib.hid hy; clear hy
  have HN := Lib.hid hn; clear hn
  have d0 := h0.below hb h0.lt
  have db := hw.trans (hb.mono hw.size)
  clear hb hw HS h0 HC
  go_wp2_with (refine st_arr rfl 50 _ _ rfl (w.heap.size) rfl .u16 256 _ rfl 50 .u16 _ d0.out size50 ?_; simp only [Act.put, List.setIfInBounds_toArray, List.set_cons_succ, List.set_cons_zero, World.size_alloc])
  exact bodyPost_ret (res_arr_tmp rfl _ _ (w.heap.size) 50 .u16 256 _ _ rfl (d0.row _).out Try.underlying50 size50 ER rfl) rfl ⟨G, ER, rfl, HY.out, HN.out, Below.setRow db _ (by omega) _⟩
set_option maxRecDepth 100000 in
set_option maxHeartbeats 1000000 in
theorem implByteDecode_of (v : Value) (F : Nat → Int) (bb : Bool) (w : World) (H : ∀ W, Below w.heap.size w W → Calls Try.prog 44 #[v] W (PD bb F W)) :
    Calls Try.prog 16 #[v] w (PB bb F w) := by
  have HC := Lib.hid fun W (hW : Below w.heap.size w W) => zzByteDecode_of v F bb W fun W' h' => H W' (hW.trans (h'.mono hW.size))
  clear H
  go_enter Try.func16, Try.ntmps16
  go_wp2_with (refine wpList_alloc_zero rfl 23 rfl _ zero23 ?_; simp only [Act.put, List.setIfInBounds_toArray, List.set_cons_succ, List.set_cons_zero, World.size_alloc])
  obtain ⟨W, hW, h0, hw, HS⟩ := pack1 w (arr .u16 256 fun _ => 0) 23
  rw [← hW]
  clear hW
  refine (HC.out W hw).mono ?_
  rintro e w1 ⟨G, ER, rfl, hy, hn, hb⟩
  have HY := Lib.hid hy; clear hy
  have HN := Lib.hid hn; clear hn
  have d0 := h0.below hb h0.lt
  have db := hw.trans (hb.mono hw.size)
  have ds := Nat.le_trans HS hb.size
  clear hb hw HS h0 HC
  go_wp2_with (first | (refine wpList_alloc_zero rfl 50 rfl _ zero50 ?_; simp only [Act.put, List.setIfInBounds_toArray, List.set_cons_succ, List.set_cons_zero, World.size_alloc]) | (refine st_arr rfl 50 _ _ rfl w1.heap.size rfl .u16 256 G rfl 50 .u16 _ (Has.new _ _ _).out size50 ?_; simp only [Act.put, List.setIfInBounds_toArray, List.set_cons_succ, List.set_cons_zero, World.size_alloc]))
  obtain ⟨W4, hW2, e0, e2, eb⟩ : ∃ W2, W2 = (w1.alloc (.cells (arr .u16 256 fun _ => 0) 50)).setRow w1.heap.size (arr .u16 256 G) ∧ Has W2 (w.heap.size) (arr .u16 256 fun _ => 0) 23 ∧ Has W2 w1.heap.size (arr .u16 256 G) 50 ∧ Below w.heap.size w W2 :=
    ⟨_, rfl, (d0.alloc _).row_other _ _ (by omega), (Has.new _ _ _).row _, Below.setRow (db.alloc db.size _) _ db.size _⟩
  rw [← hW2]
  clear hW2 d0 db
  generalize w1.heap.size = bR at *
  cases bb
  · obtain ⟨te, xe, rfl⟩ := HN.out rfl
    refine wp_region_held (S := fun w' => Below w.heap.size w w' ∧ Has w' bR (arr .u16 256 G) 50) (by kernel_rfl) ?_
    have hS : (fun w' => Below w.heap.size w w' ∧ Has w' bR (arr .u16 256 G) 50) W4.drew := ⟨eb.drew, e2.drew⟩
    change wpAnyH _ _ _ _ _ 6 (Array.replicate 6 false) _ W4.drew
    have e0 := e0.drew
    generalize W4.drew = w4 at *
    refine held_ld 0 11 rfl rfl (by kernel_rfl) (by kernel_rfl) (by kernel_rfl) (fun _ _ _ _ h => h) (by kernel_rfl) 50 _ rfl bR rfl 50 .u16 256 G _ (fun w' hc => hc.2.out) Try.underlying50 size50 hS ?_
    simp only [Act.put, List.setIfInBounds_toArray, List.set_cons_succ, List.set_cons_zero]
    refine held_val 2 13 rfl rfl (by kernel_rfl) (by kernel_rfl) (by kernel_rfl) (fun _ _ _ _ h => h) (by kernel_rfl) (.iface te xe) (fun _ _ => by go_simp) hS ?_
    simp only [Act.put, List.setIfInBounds_toArray, List.set_cons_succ, List.set_cons_zero]
    refine held_val 3 14 rfl rfl (by kernel_rfl) (by kernel_rfl) (by kernel_rfl) (fun _ _ _ _ h => h) (by kernel_rfl) (.bool false) (fun _ _ => by go_simp) hS ?_
    simp only [Act.put, List.setIfInBounds_toArray, List.set_cons_succ, List.set_cons_zero]
    refine held_call 1 12 rfl rfl (by kernel_rfl) (by kernel_rfl) 30 #[.agg (arr .u16 256 G)] (fun _ => by go_simp) ((ofRing_any G _).mono ?_)
    rintro e w5 ⟨rfl, hb⟩
    have hS5 : (fun w' => Below w.heap.size w w' ∧ Has w' bR (arr .u16 256 G) 50) w5 := ⟨hS.1.trans (hb.mono hS.1.size), hS.2.below hb hS.2.lt⟩
    have f0 := e0.below hb e0.lt
    clear hS hb e0
    refine ⟨_, rfl, hS5, ?_⟩
    simp only [Act.put, List.setIfInBounds_toArray, List.set_cons_succ, List.set_cons_zero]
    refine wpAnyH_all (rs := [4]) (by kernel_rfl) (by simp) (all1 ?_)
    refine arm_store 4 rfl rfl (by kernel_rfl) 23 _ _ rfl (w.heap.size) rfl .u16 256 G rfl 23 .u16 _ f0.out size23 ?_
    have f1 := f0.row (arr .u16 256 G)
    have hS : (fun w' => Below w.heap.size w w' ∧ Has w' bR (arr .u16 256 G) 50) (w5.setRow (w.heap.size) (arr .u16 256 G)) := ⟨Below.setRow hS5.1 _ (by omega) _, hS5.2.row_other _ _ (by omega)⟩
    refine ⟨hS, ?_⟩
    refine held_val 5 3 rfl rfl (by kernel_rfl) (by kernel_rfl) (by kernel_rfl) (fun _ _ _ _ h => h) (by kernel_rfl) (.bool false) (fun _ _ => by go_simp) hS ?_
    simp only [Act.put, List.setIfInBounds_toArray, List.set_cons_succ, List.set_cons_zero]
    refine wpAnyH_done (by kernel_rfl) ?_ _
    have db := hS.1
    clear hS hS5 f0
    go_wp2_with fail
    exact bodyPost_ret (res_arr_tmp rfl _ _ (w.heap.size) 23 .u16 256 _ _ rfl f1.out Try.underlying23 size23 _ rfl) rfl ⟨_, rfl, fun h => (by cases h), db⟩
  · obtain ⟨eG, rfl⟩ := HY.out rfl
    have EG := Lib.hid eG; clear eG
    refine wp_region_held (S := fun w' => Below w.heap.size w w' ∧ Has w' bR (arr .u16 256 G) 50) (by kernel_rfl) ?_
    have hS : (fun w' => Below w.heap.size w w' ∧ Has w' bR (arr .u16 256 G) 50) W4.drew := ⟨eb.drew, e2.drew⟩
    change wpAnyH _ _ _ _ _ 6 (Array.replicate 6 false) _ W4.drew
    have e0 := e0.drew
    generalize W4.drew = w4 at *
    refine held_ld 0 11 rfl rfl (by kernel_rfl) (by kernel_rfl) (by kernel_rfl) (fun _ _ _ _ h => h) (by kernel_rfl) 50 _ rfl bR rfl 50 .u16 256 G _ (fun w' hc => hc.2.out) Try.underlying50 size50 hS ?_
    simp only [Act.put, List.setIfInBounds_toArray, List.set_cons_succ, List.set_cons_zero]
    refine held_val 2 13 rfl rfl (by kernel_rfl) (by kernel_rfl) (by kernel_rfl) (fun _ _ _ _ h => h) (by kernel_rfl) (.nilIface) (fun _ _ => by go_simp) hS ?_
    simp only [Act.put, List.setIfInBounds_toArray, List.set_cons_succ, List.set_cons_zero]
    refine held_val 3 14 rfl rfl (by kernel_rfl) (by kernel_rfl) (by kernel_rfl) (fun _ _ _ _ h => h) (by kernel_rfl) (.bool true) (fun _ _ => by go_simp) hS ?_
    simp only [Act.put, List.setIfInBounds_toArray, List.set_cons_succ, List.set_cons_zero]
    refine held_call 1 12 rfl rfl (by kernel_rfl) (by kernel_rfl) 30 #[.agg (arr .u16 256 G)] (fun _ => by go_simp) ((ofRing_any G _).mono ?_)
    rintro e w5 ⟨rfl, hb⟩
    have hS5 : (fun w' => Below w.heap.size w w' ∧ Has w' bR (arr .u16 256 G) 50) w5 := ⟨hS.1.trans (hb.mono hS.1.size), hS.2.below hb hS.2.lt⟩
    have f0 := e0.below hb e0.lt
    clear hS hb e0
    refine ⟨_, rfl, hS5, ?_⟩
    simp only [Act.put, List.setIfInBounds_toArray, List.set_cons_succ, List.set_cons_zero]
    refine wpAnyH_all (rs := [4]) (by kernel_rfl) (by simp) (all1 ?_)
    refine arm_store 4 rfl rfl (by kernel_rfl) 23 _ _ rfl (w.heap.size) rfl .u16 256 G rfl 23 .u16 _ f0.out size23 ?_
    have f1 := f0.row (arr .u16 256 G)
    have hS : (fun w' => Below w.heap.size w w' ∧ Has w' bR (arr .u16 256 G) 50) (w5.setRow (w.heap.size) (arr .u16 256 G)) := ⟨Below.setRow hS5.1 _ (by omega) _, hS5.2.row_other _ _ (by omega)⟩
    refine ⟨hS, ?_⟩
    refine held_val 5 3 rfl rfl (by kernel_rfl) (by kernel_rfl) (by kernel_rfl) (fun _ _ _ _ h => h) (by kernel_rfl) (.bool true) (fun _ _ => by go_simp) hS ?_
    simp only [Act.put, List.setIfInBounds_toArray, List.set_cons_succ, List.set_cons_zero]
    refine wpAnyH_done (by kernel_rfl) ?_ _
    have db := hS.1
    clear hS hS5 f0
    go_wp2_with fail
    exact bodyPost_ret (res_arr_tmp rfl _ _ (w.heap.size) 23 .u16 256 _ _ rfl f1.out Try.underlying23 size23 _ rfl) rfl ⟨_, rfl, fun _ => EG.out, db⟩
end Go.Proofs.Ytghngfeacpamhaa
