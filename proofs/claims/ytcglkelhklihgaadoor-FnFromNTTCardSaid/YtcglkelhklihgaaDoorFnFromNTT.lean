/-
  FromNTT gives the polynomial of residues below 3329 (the law 'FnFromNTT' returns true for every input); no further condition than the card's.
-/
import Derived.Test.YtcglkelhklihgaaDoorCards
import Derived.Test.YtcglkelhklihgaaDoorTie
import Derived.Test.YtcglkelhklihgaaDoorTabs
import Derived.Test.YtcglkelhklihgaaDoorAsk
import Derived.Test.YtcglkelhklihgaaDoorImt
import Derived.Test.YtcglkelhklihgaaDoorBwd
import Derived.Test.YtcglkelhklihgaaDoorOpen
import Derived.Lib.Hide
import Derived.WalkKit
import Derived.ProofKit
import Derived.OpenShut
import Derived.Deep.DeepHandedRow
import Derived.ChangeVars
import Derived.OpenVars
namespace Go.Proofs.YtcglkelhklihgaaDoor.fnFromNTT
open Go.ChangeShapes Go.WideShapes Go.ChangeAt Go.RowKit


theorem own : ownKnob Tryd.prog.godebug = none := by kernel_rfl
theorem laidOut : laidOutB Tryd.prog = true := by kernel_rfl
set_option maxRecDepth 100000 in
set_option maxHeartbeats 1000000 in
theorem walk (f : Nat → Int) (w : World) (hf : ∀ i, i < 256 → 0 ≤ f i ∧ f i ≤ 65535) (hz : Tab w 1 zet) :
    Calls Tryd.prog 5 #[.agg (arr .u16 256 f)] w fun e w' => e = .returned (.bool true) ∧ Below w.heap.size w w' := by
  have hz1 := hz.lt
  obtain ⟨b1, hb1⟩ := redB_any f
  have P1 := Lib.hid fun W => poly_any f b1 W hf hb1
  have HF := Lib.hid hf; clear hf
  go_enter Tryd.func5, Tryd.ntmps5
  go_wp2_with (refine ld_arr rfl 23 _ rfl (w.heap.size) rfl 23 .u16 256 f _ (Has.new _ _ _).out Tryd.underlying23 size23 ?_; simp only [Act.put, List.setIfInBounds_toArray, List.set_cons_succ, List.set_cons_zero, World.size_alloc])
  obtain ⟨W, hW, h0, hw, HS⟩ := pack1 w (arr .u16 256 f) 23
  rw [← hW]
  clear hW
  refine (P1.out _).mono ?_
  rintro e w1 ⟨rfl, hb⟩
  have d0 := h0.below hb (by omega)
  have db := hw.trans (hb.mono (by omega))
  have hs1 := hb.size
  have hs2 : w.heap.size + 1 ≤ w1.heap.size := by omega
  clear hb hw HS h0 hs1
  go_wp2_with (first | (refine wpList_alloc_zero rfl 25 rfl _ zero25 ?_; simp only [Act.put, List.setIfInBounds_toArray, List.set_cons_succ, List.set_cons_zero, World.size_alloc]) | (refine st_arr rfl 25 _ _ rfl w1.heap.size rfl .i64 256 f rfl 25 .i64 _ (Has.new _ _ _).out size25 ?_; simp only [Act.put, List.setIfInBounds_toArray, List.set_cons_succ, List.set_cons_zero, World.size_alloc]))
  obtain ⟨W4, hW2, e0, e2, eb, es⟩ : ∃ W2, W2 = (w1.alloc (.cells (arr .i64 256 fun _ => 0) 25)).setRow w1.heap.size (arr .i64 256 f) ∧ Has W2 (w.heap.size) (arr .u16 256 f) 23 ∧ Has W2 w1.heap.size (arr .i64 256 f) 25 ∧ Below w.heap.size w W2 ∧ w1.heap.size + 1 ≤ W2.heap.size :=
    ⟨_, rfl, (d0.alloc _).row_other _ _ (by omega), (Has.new _ _ _).row _, Below.setRow (db.alloc (by omega) _) _ (by omega) _, by rw [setRow_size, World.size_alloc]; omega⟩
  rw [← hW2]
  clear hW2 d0 db
  generalize w1.heap.size = bA at *
  cases b1
  · clear P1 hb1 HF e0 e2
    go_quiet (fail)
    go_wp2
    go_ret
    exact ⟨rfl, eb.os, eb.tape, eb.output, eb.size, eb.block⟩
  have hf' : ∀ i, i < 256 → 0 ≤ f i ∧ f i < 3329 := fun i hi => ⟨(HF.out i hi).1, hb1.yes i hi⟩
  have hz4 := hz.below eb hz1
  have C1 := Lib.hid fun (W : World) (z : Tab W 1 zet) => implFromNTT_any f W hf' z
  have C2 := Lib.hid fun W => specBackward_any f W hf'
  have C3 := Lib.hid fun W => is_yes (invv f) (bwdv f) W (fun i hi => by have := invv_red f i; omega) (bwdv_inv f)
  clear P1 hb1 HF hf'
  refine wp_region_quiet (C := fun w' => Below (bA + 1) W4 w') (by kernel_rfl) (by kernel_rfl) (Below.refl _ _).drew ?_
  refine quiet_val rfl (.bool true) (fun _ => rfl) ?_
  simp only [Act.put, List.setIfInBounds_toArray, List.set_cons_succ, List.set_cons_zero]
  refine quiet_val rfl (.bool false) (fun _ => rfl) ?_
  simp only [Act.put, List.setIfInBounds_toArray, List.set_cons_succ, List.set_cons_zero]
  refine quiet_val rfl (.bool false) (fun _ => rfl) ?_
  simp only [Act.put, List.setIfInBounds_toArray, List.set_cons_succ, List.set_cons_zero]
  refine quiet_ld rfl 23 _ rfl (w.heap.size) rfl 23 .u16 256 _ _ (fun w' hc => (e0.below hc (by omega)).out) Tryd.underlying23 size23 ?_
  simp only [Act.put, List.setIfInBounds_toArray, List.set_cons_succ, List.set_cons_zero]
  refine quiet_call rfl 15 #[.agg (arr .u16 256 f)] _ (fun _ => by go_simp) (fun w' hc => quiet_of_any (C1.out w' (hz4.below hc (by omega))) hc es) ?_
  simp only [Act.put, List.setIfInBounds_toArray, List.set_cons_succ, List.set_cons_zero]
  refine quiet_ld rfl 25 _ rfl bA rfl 25 .i64 256 _ _ (fun w' hc => (e2.below hc (by omega)).out) Tryd.underlying25 size25 ?_
  simp only [Act.put, List.setIfInBounds_toArray, List.set_cons_succ, List.set_cons_zero]
  refine quiet_call rfl 16 #[.agg (arr .i64 256 f)] _ (fun _ => by go_simp) (fun w' hc => quiet_of_any (C2.out w') hc es) ?_
  simp only [Act.put, List.setIfInBounds_toArray, List.set_cons_succ, List.set_cons_zero]
  refine quiet_call rfl 10 #[.agg (arr .u16 256 (invv f)), .agg (arr .i64 256 (bwdv f))] _ (fun _ => by go_simp) (fun w' hc => quiet_of_any (C3.out w') hc es) ?_
  simp only [Act.put, List.setIfInBounds_toArray, List.set_cons_succ, List.set_cons_zero]
  refine quiet_val rfl (.bool true) (fun _ => rfl) ?_
  simp only [Act.put, List.setIfInBounds_toArray, List.set_cons_succ, List.set_cons_zero]
  refine quiet_val rfl (.bool true) (fun _ => rfl) ?_
  simp only [Act.put, List.setIfInBounds_toArray, List.set_cons_succ, List.set_cons_zero]
  refine wpQuiet_nil ?_
  intro w5 hc
  have db := eb.trans (hc.mono (by omega))
  clear hc C1 C2 C3
  go_wp2
  go_ret
  exact ⟨rfl, db⟩

theorem contract (H : Type) (enc : TypeId × Value → H) (W : World) (base : Nat) (args : Array Value) (ds gs : List (DataW H)) (before : List MemPlace)
    (hval0 : ∀ (j : Nat) t v, Tryd.f5.params[j]? = some t → args[j]? = some v → Value.okWide Tryd.prog W .any base t v)
    (hW : DataW.Whole enc Tryd.prog Tryd.f5.params.toList Rows.fnFromNTTSpec.vars false W args.toList ds gs before) (hL : laidMetH Tryd.prog Rows.fnFromNTTRow.laid W) :
    Calls Tryd.prog 5 args W fun e W' => ∃ v, e = .returned v ∧ Rows.fnFromNTTSpec.post enc Tryd.prog Tryd.f5 false true false false W args v W' := by
  have hval : ∀ (j : Nat) t v, Tryd.f5.params[j]? = some t → args[j]? = some v → Value.okWide Tryd.prog W .any base t v := hval0
  have hW' := hW
  obtain ⟨p, q, hA0, hV, rfl, hfz, hnd⟩ := hW
  have hA : DataW.TrodAll enc Tryd.prog W 0 (fun _ => true) true Tryd.f5.params.toList args.toList ds p := hA0
  rw [Tryd.params5] at hA hval
  obtain ⟨v0, vs0, d0, ds0, p0, q0, hargs, rfl, rfl, h0, r0⟩ := trodAll_cons hA
  obtain ⟨rfl, rfl, rfl⟩ := trodAll_nil r0
  obtain rfl : args = #[v0] := by cases args; simp_all
  have hV2 := hV
  obtain ⟨_, _, _, _, e1, _, rfl, _, _, _, _, _⟩ := trodVars_one hV
  have k0 := h0
  have lt0 : ∀ x ∈ p0, x.block < W.heap.size := by obtain ⟨m, hm⟩ := k0; exact DataW.trod_lt m _ _ _ hm
  obtain ⟨g0, rfl, w0⟩ := open_arr Tryd.underlying23 Tryd.underlying22 (by kernel_rfl) (by kernel_rfl) (hval 0 23 v0 rfl rfl) h0
  clear hA0 hval0
  refine (walk g0 W (fun i hi => bounds_u16 (w0 i hi)) (tab_zet (by kernel_rfl) hL)).mono fun e W' ⟨he, bel⟩ => ?_
  subst he
  exact ⟨_, rfl, _, _, _, [], _, _, hW', trodAll_mk1 (shut_bool Tryd.underlying4 _), (trodAll_cons_mk (Below.trod laidOut (by kernel_rfl) (of_decide_eq_true (by kernel_rfl)) k0 bel lt0) trodAll_mk0), Below.trodVars laidOut bel (by kernel_rfl) hV2, bel.frame _, fun h => by cases h⟩

/-- A world for the witness: the settled one, the tables holding what their initialisers lay. -/
noncomputable def laidWorld (os : Os) : World :=
  { World.holding Tryd.prog os ⟨#[], #[], []⟩ with heap := ((World.holding Tryd.prog os ⟨#[], #[], []⟩).heap.modify 1 fun | .cells _ t frozen => .cells ((List.range 128).map fun i => .int .u16 (zet i)).toArray t frozen | o => o) }
theorem laid_met (os : Os) : laidMet Tryd.prog Rows.fnFromNTTRow.laid ((laidWorld os).forCall (fun _ _ => 0) ⟨#[], #[.agg (Array.replicate 256 (.int .u16 0))], []⟩).memory :=
  laidMet_of_run' 8 (by kernel_rfl) (by kernel_rfl)
theorem reads (os : Os) {H : Type} (enc : TypeId × Value → H) : ∃ places, DataW.whole enc Tryd.prog ((laidWorld os).forCall (fun _ _ => 0) ⟨#[], #[.agg (Array.replicate 256 (.int .u16 0))], []⟩).memory Tryd.f5.params.toList Rows.fnFromNTTSpec.vars false #[Value.agg (Array.replicate 256 (.int .u16 0))].toList 8 = some ([.agg (List.replicate 256 (.lit (.int .u16 0)))], [Lib.tabData .u16 ((List.range 128).map zet)], places) :=
  ⟨MemPlace.row ⟨1, 0, none⟩ 128, by kernel_rfl⟩

set_option maxRecDepth 100000 in
theorem lifted (os : Os) (started : os.Started) (H : Type) (enc : TypeId × Value → H) (F : Stop.Interp) :
    ReturnsInHanded {} Tryd.checked os 5 .any ((OpenSpec.ofChange Rows.fnFromNTTSpec).preRow enc Tryd.prog Tryd.f5 Rows.fnFromNTTRow.domain false Rows.fnFromNTTRow.laid) (((OpenSpec.ofChange Rows.fnFromNTTSpec).at F).post enc Tryd.prog Tryd.f5 false true false false) := by
  obtain ⟨places, hx⟩ := reads os enc
  refine returnsInHanded_of_row (C := Tryd.checked) (s := OpenSpec.ofChange Rows.fnFromNTTSpec) own started (by kernel_rfl) Tryd.func5
    (witness_row_at (enc := enc) (C := Tryd.checked) false (laidWorld os) #[.agg (Array.replicate 256 (.int .u16 0))] rfl (by kernel_rfl) (by kernel_rfl) (by kernel_rfl)
      (OpenSpec.preRow_of_cond 8 hx (by kernel_rfl) (fun k hk => by cases hk) (by kernel_rfl) (laid_met os))) ?_
  intro W base args ds gs before hval hW _ _ _ hL _ _
  exact contract H enc W base args ds gs before hval hW hL

theorem said : Rows.FnFromNTTSaid :=
  OpenClaim.holds_of_cond 5 Tryd.f5 rfl rfl rfl rfl rfl rfl rfl ⟨rfl, rfl, rfl, rfl, rfl⟩ rfl rfl rfl rfl rfl (by kernel_rfl) Tryd.func5 (by kernel_rfl)
    (of_decide_eq_true (by kernel_rfl)) (by unfold Func.isWrapper; first | (rw [if_pos (by decide +kernel)]; kernel_rfl) | (rw [if_neg (by decide +kernel)]; exact ⟨rfl, rfl⟩))
    (fun os started H enc _ F => by rw [OpenClaim.pre_eq_preRow]; exact lifted os started H enc F)

theorem plain (f : FuncId) (fn : Func) (hf : Tryd.pinned.checked.prog.funcNamed "loop.example/pub-g03234/laws.FnFromNTT" = some f) (hfn : Tryd.pinned.checked.prog.funcs[f]? = some fn) :
    false = Tryd.pinned.checked.prog.looks [] ∧ ∀ (j : Nat) t, fn.params[j]? = some t → Tryd.pinned.checked.prog.wantsStandIn t = false := by
  obtain rfl : f = 5 := Option.some.inj ((show Tryd.prog.funcNamed "loop.example/pub-g03234/laws.FnFromNTT" = some 5 by kernel_rfl).symm.trans hf) |>.symm
  obtain rfl : fn = Tryd.f5 := (Option.some.inj (Tryd.func5.symm.trans hfn)).symm
  refine ⟨by kernel_rfl, fun j t ht => ?_⟩
  rw [Tryd.params5] at ht
  obtain rfl : t = 23 := by simpa using Array.mem_of_getElem? ht
  exact (show Tryd.prog.wantsStandIn 23 = false by kernel_rfl)

/-- THE STATEMENT. -/
theorem proved : Rows.FnFromNTTCardSaid :=
  Claim7.holds_tied_plain_at .later [] _ _ _ _ said (fun _ h => by cases h) (by kernel_rfl) (fun _ h => by cases h) fnFromNTT_row_tie rfl ⟨rfl, rfl⟩ (by kernel_rfl) rfl plain (by kernel_rfl)
#print axioms proved
end Go.Proofs.YtcglkelhklihgaaDoor.fnFromNTT
