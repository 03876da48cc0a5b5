/-
  NTTMul is the product of two transforms whose numbers are below 3329 (the law 'FnNTTMul' returns true for every input); no further condition than the card's.
-/
import Derived.Test.YtcglkelhklihgaaDoorCards
import Derived.Test.YtcglkelhklihgaaDoorTie
import Derived.Test.YtcglkelhklihgaaDoorTabs
import Derived.Test.YtcglkelhklihgaaDoorAsk
import Derived.Test.YtcglkelhklihgaaDoorImt
import Derived.Test.YtcglkelhklihgaaDoorMul
import Derived.Test.YtcglkelhklihgaaDoorOpen
import Derived.Lib.Hide
import Derived.WalkKit
import Derived.ProofKit
import Derived.OpenShut
import Derived.Deep.DeepHandedRow
import Derived.ChangeVars
import Derived.OpenVars
namespace Go.Proofs.YtcglkelhklihgaaDoor.fnNTTMul
open Go.ChangeShapes Go.WideShapes Go.ChangeAt Go.RowKit


theorem own : ownKnob Tryd.prog.godebug = none := by kernel_rfl
theorem laidOut : laidOutB Tryd.prog = true := by kernel_rfl
set_option maxRecDepth 100000 in
set_option maxHeartbeats 1000000 in
theorem walk (f g : Nat → Int) (w : World) (hf : ∀ i, i < 256 → 0 ≤ f i ∧ f i ≤ 65535) (hg : ∀ i, i < 256 → 0 ≤ g i ∧ g i ≤ 65535) (hz : Tab w 0 gam) :
    Calls Tryd.prog 3 #[.agg (arr .u16 256 f), .agg (arr .u16 256 g)] w fun e w' => e = .returned (.bool true) ∧ Below w.heap.size w w' := by
  have hz1 := hz.lt
  obtain ⟨b1, hb1⟩ := redB_any f
  obtain ⟨b2, hb2⟩ := redB_any g
  have P1 := Lib.hid fun W => poly_any f b1 W hf hb1
  have P2 := Lib.hid fun W => poly_any g b2 W hg hb2
  have HF := Lib.hid hf; clear hf
  have HG := Lib.hid hg; clear hg
  go_enter Tryd.func3, Tryd.ntmps3
  go_wp2_with (refine ld_arr rfl 23 _ rfl (w.heap.size) rfl 23 .u16 256 f _ (Has.alloc (Has.new _ _ _) _).out Tryd.underlying23 size23 ?_; simp only [Act.put, List.setIfInBounds_toArray, List.set_cons_succ, List.set_cons_zero, World.size_alloc])
  obtain ⟨W, hW, h0, h1, hw, HS⟩ := pack2 w (arr .u16 256 f) (arr .u16 256 g) 23 23
  rw [← hW]
  clear hW
  refine (P1.out _).mono ?_
  rintro e w1 ⟨rfl, hb⟩
  have d0 := h0.below hb (by omega)
  have d1 := h1.below hb (by omega)
  have db := hw.trans (hb.mono (by omega))
  have hs1 := hb.size
  have hs2 : w.heap.size + 1 + 1 ≤ w1.heap.size := by omega
  clear hb hw HS h0 h1 hs1
  go_wp2_with (first | (refine wpList_alloc_zero rfl 25 rfl _ zero25 ?_; simp only [Act.put, List.setIfInBounds_toArray, List.set_cons_succ, List.set_cons_zero, World.size_alloc]) | (refine st_arr rfl 25 _ _ rfl w1.heap.size rfl .i64 256 f rfl 25 .i64 _ (Has.new _ _ _).out size25 ?_; simp only [Act.put, List.setIfInBounds_toArray, List.set_cons_succ, List.set_cons_zero, World.size_alloc]) | (refine ld_arr rfl 23 _ rfl (w.heap.size + 1) rfl 23 .u16 256 g _ ((d1.alloc _).row_other _ _ (by omega)).out Tryd.underlying23 size23 ?_; simp only [Act.put, List.setIfInBounds_toArray, List.set_cons_succ, List.set_cons_zero, World.size_alloc]))
  obtain ⟨W2, hW2, e0, e1, e2, eb, es⟩ : ∃ W2, W2 = (w1.alloc (.cells (arr .i64 256 fun _ => 0) 25)).setRow w1.heap.size (arr .i64 256 f) ∧ Has W2 (w.heap.size) (arr .u16 256 f) 23 ∧ Has W2 (w.heap.size + 1) (arr .u16 256 g) 23 ∧ Has W2 w1.heap.size (arr .i64 256 f) 25 ∧ Below w.heap.size w W2 ∧ w1.heap.size + 1 ≤ W2.heap.size :=
    ⟨_, rfl, (d0.alloc _).row_other _ _ (by omega), (d1.alloc _).row_other _ _ (by omega), (Has.new _ _ _).row _, Below.setRow (db.alloc (by omega) _) _ (by omega) _, by rw [setRow_size, World.size_alloc]; omega⟩
  rw [← hW2]
  clear hW2 d0 d1 db
  generalize w1.heap.size = bA at *
  refine (P2.out _).mono ?_
  rintro e w3 ⟨rfl, hb⟩
  have d0 := e0.below hb (by omega)
  have d1 := e1.below hb (by omega)
  have d2 := e2.below hb (by omega)
  have db := eb.trans (hb.mono (by omega))
  have hs1 := hb.size
  have hs3 : bA + 1 ≤ w3.heap.size := by omega
  clear hb e0 e1 e2 eb es hs1
  go_wp2_with (first | (refine wpList_alloc_zero rfl 25 rfl _ zero25 ?_; simp only [Act.put, List.setIfInBounds_toArray, List.set_cons_succ, List.set_cons_zero, World.size_alloc]) | (refine st_arr rfl 25 _ _ rfl w3.heap.size rfl .i64 256 g rfl 25 .i64 _ (Has.new _ _ _).out size25 ?_; simp only [Act.put, List.setIfInBounds_toArray, List.set_cons_succ, List.set_cons_zero, World.size_alloc]))
  obtain ⟨W4, hW4, e0, e1, e2, e3, eb, es⟩ : ∃ W4, W4 = (w3.alloc (.cells (arr .i64 256 fun _ => 0) 25)).setRow w3.heap.size (arr .i64 256 g) ∧ Has W4 (w.heap.size) (arr .u16 256 f) 23 ∧ Has W4 (w.heap.size + 1) (arr .u16 256 g) 23 ∧ Has W4 bA (arr .i64 256 f) 25 ∧ Has W4 w3.heap.size (arr .i64 256 g) 25 ∧ Below w.heap.size w W4 ∧ w3.heap.size + 1 ≤ W4.heap.size :=
    ⟨_, rfl, (d0.alloc _).row_other _ _ (by omega), (d1.alloc _).row_other _ _ (by omega), (d2.alloc _).row_other _ _ (by omega), (Has.new _ _ _).row _, Below.setRow (db.alloc (by omega) _) _ (by omega) _, by rw [setRow_size, World.size_alloc]; omega⟩
  rw [← hW4]
  clear hW4 d0 d1 d2 db
  generalize w3.heap.size = bB at *
  cases b1
  · clear P1 P2 hb1 hb2 HF HG e0 e1 e2 e3
    go_quiet (fail)
    go_wp2
    go_ret
    exact ⟨rfl, eb.os, eb.tape, eb.output, eb.size, eb.block⟩
  cases b2
  · clear P1 P2 hb1 hb2 HF HG e0 e1 e2 e3
    go_quiet (fail)
    go_wp2
    go_ret
    exact ⟨rfl, eb.os, eb.tape, eb.output, eb.size, eb.block⟩
  have hf' : ∀ i, i < 256 → 0 ≤ f i ∧ f i < 3329 := fun i hi => ⟨(HF.out i hi).1, hb1.yes i hi⟩
  have hg' : ∀ i, i < 256 → 0 ≤ g i ∧ g i < 3329 := fun i hi => ⟨(HG.out i hi).1, hb2.yes i hi⟩
  have hz4 := hz.below eb hz1
  have C1 := Lib.hid fun (W : World) (z : Tab W 0 gam) => implNTTMul_any f g W hf' hg' z
  have C2 := Lib.hid fun W => specTimes_any f g W hf' hg'
  have C3 := Lib.hid fun W => is_yes (fun i => mulv f g i) (fun i => mulv f g i) W (fun i hi => by have := mulv_red f g i; omega) (fun _ _ => rfl)
  clear P1 P2 hb1 hb2 HF HG hf' hg'
  refine wp_region_quiet (C := fun w' => Below (bB + 1) W4 w') (by kernel_rfl) (by kernel_rfl) (Below.refl _ _).drew ?_
  refine quiet_val rfl (.bool true) (fun _ => rfl) ?_
  simp only [Act.put, List.setIfInBounds_toArray, List.set_cons_succ, List.set_cons_zero]
  refine quiet_val rfl (.bool false) (fun _ => rfl) ?_
  simp only [Act.put, List.setIfInBounds_toArray, List.set_cons_succ, List.set_cons_zero]
  refine quiet_val rfl (.bool false) (fun _ => rfl) ?_
  simp only [Act.put, List.setIfInBounds_toArray, List.set_cons_succ, List.set_cons_zero]
  refine quiet_val rfl (.bool true) (fun _ => rfl) ?_
  simp only [Act.put, List.setIfInBounds_toArray, List.set_cons_succ, List.set_cons_zero]
  refine quiet_val rfl (.bool false) (fun _ => rfl) ?_
  simp only [Act.put, List.setIfInBounds_toArray, List.set_cons_succ, List.set_cons_zero]
  refine quiet_val rfl (.bool false) (fun _ => rfl) ?_
  simp only [Act.put, List.setIfInBounds_toArray, List.set_cons_succ, List.set_cons_zero]
  refine quiet_val rfl (.bool false) (fun _ => rfl) ?_
  simp only [Act.put, List.setIfInBounds_toArray, List.set_cons_succ, List.set_cons_zero]
  refine quiet_ld rfl 23 _ rfl (w.heap.size) rfl 23 .u16 256 _ _ (fun w' hc => (e0.below hc (by omega)).out) Tryd.underlying23 size23 ?_
  simp only [Act.put, List.setIfInBounds_toArray, List.set_cons_succ, List.set_cons_zero]
  refine quiet_ld rfl 23 _ rfl (w.heap.size + 1) rfl 23 .u16 256 _ _ (fun w' hc => (e1.below hc (by omega)).out) Tryd.underlying23 size23 ?_
  simp only [Act.put, List.setIfInBounds_toArray, List.set_cons_succ, List.set_cons_zero]
  refine quiet_call rfl 11 #[.agg (arr .u16 256 f), .agg (arr .u16 256 g)] _ (fun _ => by go_simp) (fun w' hc => quiet_of_any (C1.out w' (hz4.below hc (by omega))) hc es) ?_
  simp only [Act.put, List.setIfInBounds_toArray, List.set_cons_succ, List.set_cons_zero]
  refine quiet_ld rfl 25 _ rfl bA rfl 25 .i64 256 _ _ (fun w' hc => (e2.below hc (by omega)).out) Tryd.underlying25 size25 ?_
  simp only [Act.put, List.setIfInBounds_toArray, List.set_cons_succ, List.set_cons_zero]
  refine quiet_ld rfl 25 _ rfl bB rfl 25 .i64 256 _ _ (fun w' hc => (e3.below hc (by omega)).out) Tryd.underlying25 size25 ?_
  simp only [Act.put, List.setIfInBounds_toArray, List.set_cons_succ, List.set_cons_zero]
  refine quiet_call rfl 12 #[.agg (arr .i64 256 f), .agg (arr .i64 256 g)] _ (fun _ => by go_simp) (fun w' hc => quiet_of_any (C2.out w') hc es) ?_
  simp only [Act.put, List.setIfInBounds_toArray, List.set_cons_succ, List.set_cons_zero]
  refine quiet_call rfl 10 #[.agg (arr .u16 256 fun i => mulv f g i), .agg (arr .i64 256 fun i => mulv f g i)] _ (fun _ => by go_simp) (fun w' hc => quiet_of_any (C3.out w') hc es) ?_
  simp only [Act.put, List.setIfInBounds_toArray, List.set_cons_succ, List.set_cons_zero]
  refine quiet_val rfl (.bool true) (fun _ => rfl) ?_
  simp only [Act.put, List.setIfInBounds_toArray, List.set_cons_succ, List.set_cons_zero]
  refine quiet_val rfl (.bool true) (fun _ => rfl) ?_
  simp only [Act.put, List.setIfInBounds_toArray, List.set_cons_succ, List.set_cons_zero]
  refine wpQuiet_nil ?_
  intro w5 hc
  have db := eb.trans (hc.mono (by omega))
  clear hc C1 C2 C3
  go_wp2
  go_ret
  exact ⟨rfl, db⟩

theorem contract (H : Type) (enc : TypeId × Value → H) (W : World) (base : Nat) (args : Array Value) (ds gs : List (DataW H)) (before : List MemPlace)
    (hval0 : ∀ (j : Nat) t v, Tryd.f3.params[j]? = some t → args[j]? = some v → Value.okWide Tryd.prog W .any base t v)
    (hW : DataW.Whole enc Tryd.prog Tryd.f3.params.toList Rows.fnNTTMulSpec.vars false W args.toList ds gs before) (hL : laidMetH Tryd.prog Rows.fnNTTMulRow.laid W) :
    Calls Tryd.prog 3 args W fun e W' => ∃ v, e = .returned v ∧ Rows.fnNTTMulSpec.post enc Tryd.prog Tryd.f3 false true false false W args v W' := by
  have hval : ∀ (j : Nat) t v, Tryd.f3.params[j]? = some t → args[j]? = some v → Value.okWide Tryd.prog W .any base t v := hval0
  have hW' := hW
  obtain ⟨p, q, hA0, hV, rfl, hfz, hnd⟩ := hW
  have hA : DataW.TrodAll enc Tryd.prog W 0 (fun _ => true) true Tryd.f3.params.toList args.toList ds p := hA0
  rw [Tryd.params3] at hA hval
  obtain ⟨v0, vs0, d0, ds0, p0, q0, hargs, rfl, rfl, h0, r0⟩ := trodAll_cons hA
  obtain ⟨v1, vs1, d1, ds1, p1, q1, rfl, rfl, rfl, h1, r1⟩ := trodAll_cons r0
  obtain ⟨rfl, rfl, rfl⟩ := trodAll_nil r1
  obtain rfl : args = #[v0, v1] := by cases args; simp_all
  have hV2 := hV
  obtain ⟨_, _, _, _, e1, _, rfl, _, _, _, _, _⟩ := trodVars_one hV
  have k0 := h0
  have lt0 : ∀ x ∈ p0, x.block < W.heap.size := by obtain ⟨m, hm⟩ := k0; exact DataW.trod_lt m _ _ _ hm
  obtain ⟨g0, rfl, w0⟩ := open_arr Tryd.underlying23 Tryd.underlying22 (by kernel_rfl) (by kernel_rfl) (hval 0 23 v0 rfl rfl) h0
  have k1 := h1
  have lt1 : ∀ x ∈ p1, x.block < W.heap.size := by obtain ⟨m, hm⟩ := k1; exact DataW.trod_lt m _ _ _ hm
  obtain ⟨g1, rfl, w1⟩ := open_arr Tryd.underlying23 Tryd.underlying22 (by kernel_rfl) (by kernel_rfl) (hval 1 23 v1 rfl rfl) h1
  clear hA0 hval0
  refine (walk g0 g1 W (fun i hi => bounds_u16 (w0 i hi)) (fun i hi => bounds_u16 (w1 i hi)) (tab_gam (by kernel_rfl) hL)).mono fun e W' ⟨he, bel⟩ => ?_
  subst he
  exact ⟨_, rfl, _, _, _, [], _, _, hW', trodAll_mk1 (shut_bool Tryd.underlying4 _), (trodAll_cons_mk (Below.trod laidOut (by kernel_rfl) (of_decide_eq_true (by kernel_rfl)) k0 bel lt0) (trodAll_cons_mk (Below.trod laidOut (by kernel_rfl) (of_decide_eq_true (by kernel_rfl)) k1 bel lt1) trodAll_mk0)), Below.trodVars laidOut bel (by kernel_rfl) hV2, bel.frame _, fun h => by cases h⟩

/-- A world for the witness: the settled one, the tables holding what their initialisers lay. -/
noncomputable def laidWorld (os : Os) : World :=
  { World.holding Tryd.prog os ⟨#[], #[], []⟩ with heap := ((World.holding Tryd.prog os ⟨#[], #[], []⟩).heap.modify 0 fun | .cells _ t frozen => .cells ((List.range 128).map fun i => .int .u16 (gam i)).toArray t frozen | o => o) }
theorem laid_met (os : Os) : laidMet Tryd.prog Rows.fnNTTMulRow.laid ((laidWorld os).forCall (fun _ _ => 0) ⟨#[], #[.agg (Array.replicate 256 (.int .u16 0)), .agg (Array.replicate 256 (.int .u16 0))], []⟩).memory :=
  laidMet_of_run' 8 (by kernel_rfl) (by kernel_rfl)
theorem reads (os : Os) {H : Type} (enc : TypeId × Value → H) : ∃ places, DataW.whole enc Tryd.prog ((laidWorld os).forCall (fun _ _ => 0) ⟨#[], #[.agg (Array.replicate 256 (.int .u16 0)), .agg (Array.replicate 256 (.int .u16 0))], []⟩).memory Tryd.f3.params.toList Rows.fnNTTMulSpec.vars false #[Value.agg (Array.replicate 256 (.int .u16 0)), .agg (Array.replicate 256 (.int .u16 0))].toList 8 = some ([.agg (List.replicate 256 (.lit (.int .u16 0))), .agg (List.replicate 256 (.lit (.int .u16 0)))], [Lib.tabData .u16 ((List.range 128).map gam)], places) :=
  ⟨MemPlace.row ⟨0, 0, none⟩ 128, by kernel_rfl⟩

set_option maxRecDepth 100000 in
theorem lifted (os : Os) (started : os.Started) (H : Type) (enc : TypeId × Value → H) (F : Stop.Interp) :
    ReturnsInHanded {} Tryd.checked os 3 .any ((OpenSpec.ofChange Rows.fnNTTMulSpec).preRow enc Tryd.prog Tryd.f3 Rows.fnNTTMulRow.domain false Rows.fnNTTMulRow.laid) (((OpenSpec.ofChange Rows.fnNTTMulSpec).at F).post enc Tryd.prog Tryd.f3 false true false false) := by
  obtain ⟨places, hx⟩ := reads os enc
  refine returnsInHanded_of_row (C := Tryd.checked) (s := OpenSpec.ofChange Rows.fnNTTMulSpec) own started (by kernel_rfl) Tryd.func3
    (witness_row_at (enc := enc) (C := Tryd.checked) false (laidWorld os) #[.agg (Array.replicate 256 (.int .u16 0)), .agg (Array.replicate 256 (.int .u16 0))] rfl (by kernel_rfl) (by kernel_rfl) (by kernel_rfl)
      (OpenSpec.preRow_of_cond 8 hx (by kernel_rfl) (fun k hk => by cases hk) (by kernel_rfl) (laid_met os))) ?_
  intro W base args ds gs before hval hW _ _ _ hL _ _
  exact contract H enc W base args ds gs before hval hW hL

theorem said : Rows.FnNTTMulSaid :=
  OpenClaim.holds_of_cond 3 Tryd.f3 rfl rfl rfl rfl rfl rfl rfl ⟨rfl, rfl, rfl, rfl, rfl⟩ rfl rfl rfl rfl rfl (by kernel_rfl) Tryd.func3 (by kernel_rfl)
    (of_decide_eq_true (by kernel_rfl)) (by unfold Func.isWrapper; first | (rw [if_pos (by decide +kernel)]; kernel_rfl) | (rw [if_neg (by decide +kernel)]; exact ⟨rfl, rfl⟩))
    (fun os started H enc _ F => by rw [OpenClaim.pre_eq_preRow]; exact lifted os started H enc F)

theorem plain (f : FuncId) (fn : Func) (hf : Tryd.pinned.checked.prog.funcNamed "loop.example/pub-g03234/laws.FnNTTMul" = some f) (hfn : Tryd.pinned.checked.prog.funcs[f]? = some fn) :
    false = Tryd.pinned.checked.prog.looks [] ∧ ∀ (j : Nat) t, fn.params[j]? = some t → Tryd.pinned.checked.prog.wantsStandIn t = false := by
  obtain rfl : f = 3 := Option.some.inj ((show Tryd.prog.funcNamed "loop.example/pub-g03234/laws.FnNTTMul" = some 3 by kernel_rfl).symm.trans hf) |>.symm
  obtain rfl : fn = Tryd.f3 := (Option.some.inj (Tryd.func3.symm.trans hfn)).symm
  refine ⟨by kernel_rfl, fun j t ht => ?_⟩
  rw [Tryd.params3] at ht
  obtain rfl : t = 23 := by simpa using Array.mem_of_getElem? ht
  exact (show Tryd.prog.wantsStandIn 23 = false by kernel_rfl)

/-- THE STATEMENT. -/
theorem proved : Rows.FnNTTMulCardSaid :=
  Claim7.holds_tied_plain_at .later [] _ _ _ _ said (fun _ h => by cases h) (by kernel_rfl) (fun _ h => by cases h) fnNTTMul_row_tie rfl ⟨rfl, rfl⟩ (by kernel_rfl) rfl plain (by kernel_rfl)
#print axioms proved
end Go.Proofs.YtcglkelhklihgaaDoor.fnNTTMul
