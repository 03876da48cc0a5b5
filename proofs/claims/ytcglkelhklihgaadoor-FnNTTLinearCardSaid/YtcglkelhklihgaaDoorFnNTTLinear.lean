/-
  ToNTT of a sum is the sum of the transforms, and ToNTT of 1 is known, for numbers below 3329 (the law 'FnNTTLinear' returns true for every input); no further condition than the card's.
-/
import Derived.Test.YtcglkelhklihgaaDoorCards
import Derived.Test.YtcglkelhklihgaaDoorTie
import Derived.Test.YtcglkelhklihgaaDoorTabs
import Derived.Test.YtcglkelhklihgaaDoorAsk
import Derived.Test.YtcglkelhklihgaaDoorImt
import Derived.Test.YtcglkelhklihgaaDoorEq
import Derived.Test.YtcglkelhklihgaaDoorOpen
import Derived.Lib.Hide
import Derived.WalkKit
import Derived.ProofKit
import Derived.OpenShut
import Derived.Deep.DeepHandedRow
import Derived.ChangeVars
import Derived.OpenVars
namespace Go.Proofs.YtcglkelhklihgaaDoor.fnNTTLinear
open Go.ChangeShapes Go.WideShapes Go.ChangeAt Go.RowKit


theorem own : ownKnob Tryd.prog.godebug = none := by kernel_rfl
theorem laidOut : laidOutB Tryd.prog = true := by kernel_rfl
theorem red_any (g : Nat → Int) (bb : Bool) (b : Nat) (t : TypeId) (w : World) (h : Has w b (arr .u16 256 g) t) (hb : RedB g bb) :
    Calls Tryd.prog 17 #[.slice (some ⟨b, 0, none⟩) 256 256] w fun e w' => e = .returned (.bool bb) ∧ w = w' := by
  have hc : ∀ i, i < 256 → w.cell? ⟨b, 0 + i, none⟩ = some (.int .u16 (g i)) := fun i hi => by rw [Nat.zero_add]; exact h.cell i hi
  rcases hb.out with ⟨rfl, hr⟩ | ⟨rfl, j, hj, hr⟩
  · exact reduced_yes g b 0 256 256 w (by omega) hc hr
  · exact reduced_no g b 0 256 256 w (by omega) hc j hj hr
theorem quiet_in {P : Program} {ops : Array Oper} {rest : List Oper} {o : Oper} {a : Act} {C : World → Prop} {Q : Act → Prop} (hw : Region.wanted o (yielded ops a.tmps) = true) (v : Value) (hr : ∀ w, C w → (execOp a.eval o).run P w = .ok (.value v) w)
    (h : wpQuiet P ops C Q rest (a.put o.dst v)) : wpQuiet P ops C Q (o :: rest) a := by
  unfold wpQuiet
  rw [if_pos hw]
  refine ⟨_, fun w hc => ?_, h⟩
  unfold Oper.quietAt
  rw [hr w hc]
  exact ⟨rfl, rfl⟩
/-- The polynomial 1. -/
def one : Nat → Int := fun i => if i = 0 then 1 else 0
theorem one_red : ∀ i, i < 256 → 0 ≤ one i ∧ one i < 3329 := fun i _ => by unfold one; split <;> omega
theorem one_sum (x : Int) (e : Nat) : ∀ n, (sm (n + 1) fun t => one (2 * t + e) * x ^ t) = one e
  | 0 => by simp [sm]
  | n + 1 => by
    show (sm (n + 1) fun t => one (2 * t + e) * x ^ t) + one (2 * (n + 1) + e) * x ^ (n + 1) = one e
    rw [one_sum x e n, show one (2 * (n + 1) + e) = 0 from if_neg (by omega)]; simp
theorem one_ntt (b e : Nat) (hb : b < 128) (he : e < 2) : nttv one (2 * b + e) = one e := by
  have h := nttv_sum one b e hb he
  rw [one_sum] at h
  have hr := nttv_red one one_red (2 * b + e) (by omega)
  have h1 := one_red e (by omega)
  unfold Eqm at h
  omega
theorem wpList_build1 {P : Program} {ops : Array Oper} {rest : List Oper} {o : Oper} {a : Act} {w : World} {Q : Exit → Act → World → Prop} (hgd : o.guard = none) (T : TypeId) (y : Operand) (ho : o.op = .build T #[(0, y)]) (v : Value) (hy : a.eval y = v)
    (Z : Array Value) (hz : P.built T [(0, v)] = some Z) (h : wpList P ops Q rest (a.put o.dst (.agg Z)) w) : wpList P ops Q (o :: rest) a w :=
  wpList_build hgd T #[(0, y)] ho (by simp [hy, hz]) (by simpa [hy, hz] using h)
theorem built_one : Tryd.prog.built 23 [(0, .int .u16 1)] = some (arr .u16 256 one) := by kernel_rfl
set_option maxRecDepth 100000 in
set_option maxHeartbeats 1000000 in
theorem walk (f g : Nat → Int) (w : World) (hf : ∀ i, i < 256 → 0 ≤ f i ∧ f i ≤ 65535) (hg : ∀ i, i < 256 → 0 ≤ g i ∧ g i ≤ 65535) (hz : Tab w 1 zet) :
    Calls Tryd.prog 6 #[.agg (arr .u16 256 f), .agg (arr .u16 256 g)] w fun e w' => e = .returned (.bool true) ∧ Below w.heap.size w w' := by
  have hz1 := hz.lt
  obtain ⟨b1, hb1⟩ := redB_any f
  obtain ⟨b2, hb2⟩ := redB_any g
  have HF := Lib.hid hf; clear hf
  have HG := Lib.hid hg; clear hg
  go_enter Tryd.func6, Tryd.ntmps6
  go_wp2_with fail
  obtain ⟨W, hW, h0, h1, hw, HS⟩ := pack2 w (arr .u16 256 f) (arr .u16 256 g) 23 23
  rw [← hW]
  clear hW
  refine (red_any f b1 _ 23 _ h0 hb1).mono ?_
  rintro e w1 ⟨rfl, rfl⟩
  cases b1
  · go_wp2
    go_ret
    exact ⟨rfl, hw⟩
  go_wp2_with fail
  refine (red_any g b2 _ 23 _ h1 hb2).mono ?_
  rintro e w1 ⟨rfl, rfl⟩
  cases b2
  · go_wp2
    go_ret
    exact ⟨rfl, hw⟩
  go_wp2_with (refine wpList_build1 rfl 23 _ rfl (.int .u16 1) rfl _ built_one ?_; simp only [Act.put, List.setIfInBounds_toArray, List.set_cons_succ, List.set_cons_zero, World.size_alloc])
  refine (implToNTT_any one _ one_red (hz.below hw hz1)).mono ?_
  rintro e w1 ⟨rfl, hb⟩
  have d0 := h0.below hb (by omega)
  have d1 := h1.below hb (by omega)
  have db := hw.trans (hb.mono (by omega))
  have hs2 : w.heap.size + 1 + 1 ≤ w1.heap.size := Nat.le_trans HS hb.size
  clear hb hw HS h0 h1
  go_wp2_with (first | (refine wpList_alloc_zero rfl 23 rfl _ zero23 ?_; simp only [Act.put, List.setIfInBounds_toArray, List.set_cons_succ, List.set_cons_zero, World.size_alloc]) | (refine st_arr rfl 23 _ _ rfl w1.heap.size rfl .u16 256 _ rfl 23 .u16 _ (Has.new _ _ _).out size23 ?_; simp only [Act.put, List.setIfInBounds_toArray, List.set_cons_succ, List.set_cons_zero, World.size_alloc]))
  obtain ⟨W4, hW2, e0, e1, e2, eb, es⟩ : ∃ W2, W2 = (w1.alloc (.cells (arr .u16 256 fun _ => 0) 23)).setRow w1.heap.size (arr .u16 256 (nttv one)) ∧ Has W2 (w.heap.size) (arr .u16 256 f) 23 ∧ Has W2 (w.heap.size + 1) (arr .u16 256 g) 23 ∧ Has W2 w1.heap.size (arr .u16 256 (nttv one)) 23 ∧ Below w.heap.size w W2 ∧ w1.heap.size + 1 ≤ W2.heap.size :=
    ⟨_, rfl, (d0.alloc _).row_other _ _ (by omega), (d1.alloc _).row_other _ _ (by omega), (Has.new _ _ _).row _, Below.setRow (db.alloc (by omega) _) _ (by omega) _, by rw [setRow_size, World.size_alloc]; omega⟩
  rw [← hW2]
  clear hW2 d0 d1 db
  generalize w1.heap.size = bA at *
  have hf' : ∀ i, i < 256 → 0 ≤ f i ∧ f i < 3329 := fun i hi => ⟨(HF.out i hi).1, hb1.yes i hi⟩
  have hg' : ∀ i, i < 256 → 0 ≤ g i ∧ g i < 3329 := fun i hi => ⟨(HG.out i hi).1, hb2.yes i hi⟩
  have hz4 := hz.below eb hz1
  have C0 := Lib.hid fun W => implRingAdd_any f g W hf' hg'
  have C1 := Lib.hid fun (W : World) (z : Tab W 1 zet) => implToNTT_any (fun i => (f i + g i) % 3329) W (fun i hi => by omega) z
  have C2 := Lib.hid fun (W : World) (z : Tab W 1 zet) => implToNTT_any f W hf' z
  have C3 := Lib.hid fun (W : World) (z : Tab W 1 zet) => implToNTT_any g W hg' z
  have C4 := Lib.hid fun W => by
    have h := implNTTAdd_any (nttv f) (nttv g) W (nttv_red f hf') (nttv_red g hg')
    rw [← arr_congr (k := .u16) (n := 256) (ntt_add f g hf' hg')] at h
    exact h
  have o0 : nttv one 0 = 1 := one_ntt 0 0 (by omega) (by omega)
  have o1 : nttv one 1 = 0 := one_ntt 0 1 (by omega) (by omega)
  have o2 : nttv one 254 = 1 := one_ntt 127 0 (by omega) (by omega)
  clear hb1 hb2 HF HG hf' hg' hz
  have hszE : ∀ w, (sizeOf 22).run Tryd.prog w = .ok 1 w := fun w => by kernel_rfl
  refine wp_region_quiet (C := fun w' => Below (bA + 1) W4 w') (by kernel_rfl) (by kernel_rfl) (Below.refl _ _).drew ?_
  refine quiet_val (by kernel_rfl) (.pointer (some ⟨bA, 0, none⟩)) (fun _ => by kernel_rfl) ?_
  simp only [Act.put, List.setIfInBounds_toArray, List.set_cons_succ, List.set_cons_zero]
  refine quiet_in (by kernel_rfl) (.int .u16 1) (fun w' hc => by have c := (e2.below hc (by omega)).cell 0 (by omega); rw [o0] at c; go_simp) ?_
  simp only [Act.put, List.setIfInBounds_toArray, List.set_cons_succ, List.set_cons_zero]
  refine quiet_val (by kernel_rfl) (.bool true) (fun _ => by kernel_rfl) ?_
  simp only [Act.put, List.setIfInBounds_toArray, List.set_cons_succ, List.set_cons_zero]
  refine quiet_val (by kernel_rfl) (.bool true) (fun _ => by kernel_rfl) ?_
  simp only [Act.put, List.setIfInBounds_toArray, List.set_cons_succ, List.set_cons_zero]
  refine quiet_val (by kernel_rfl) (.pointer (some ⟨bA, 1, none⟩)) (fun _ => by kernel_rfl) ?_
  simp only [Act.put, List.setIfInBounds_toArray, List.set_cons_succ, List.set_cons_zero]
  refine quiet_in (by kernel_rfl) (.int .u16 0) (fun w' hc => by have c := (e2.below hc (by omega)).cell 1 (by omega); rw [o1] at c; go_simp) ?_
  simp only [Act.put, List.setIfInBounds_toArray, List.set_cons_succ, List.set_cons_zero]
  refine quiet_val (by kernel_rfl) (.bool true) (fun _ => by kernel_rfl) ?_
  simp only [Act.put, List.setIfInBounds_toArray, List.set_cons_succ, List.set_cons_zero]
  refine quiet_val (by kernel_rfl) (.bool true) (fun _ => by kernel_rfl) ?_
  simp only [Act.put, List.setIfInBounds_toArray, List.set_cons_succ, List.set_cons_zero]
  refine quiet_val (by kernel_rfl) (.bool true) (fun _ => by kernel_rfl) ?_
  simp only [Act.put, List.setIfInBounds_toArray, List.set_cons_succ, List.set_cons_zero]
  refine quiet_val (by kernel_rfl) (.pointer (some ⟨bA, 254, none⟩)) (fun _ => by kernel_rfl) ?_
  simp only [Act.put, List.setIfInBounds_toArray, List.set_cons_succ, List.set_cons_zero]
  refine quiet_in (by kernel_rfl) (.int .u16 1) (fun w' hc => by have c := (e2.below hc (by omega)).cell 254 (by omega); rw [o2] at c; go_simp) ?_
  simp only [Act.put, List.setIfInBounds_toArray, List.set_cons_succ, List.set_cons_zero]
  refine quiet_val (by kernel_rfl) (.bool true) (fun _ => by kernel_rfl) ?_
  simp only [Act.put, List.setIfInBounds_toArray, List.set_cons_succ, List.set_cons_zero]
  refine quiet_val (by kernel_rfl) (.bool true) (fun _ => by kernel_rfl) ?_
  simp only [Act.put, List.setIfInBounds_toArray, List.set_cons_succ, List.set_cons_zero]
  refine quiet_val (by kernel_rfl) (.bool true) (fun _ => by kernel_rfl) ?_
  simp only [Act.put, List.setIfInBounds_toArray, List.set_cons_succ, List.set_cons_zero]
  refine quiet_ld (by kernel_rfl) 23 _ rfl (w.heap.size) rfl 23 .u16 256 f _ (fun w' hc => (e0.below hc (by omega)).out) Tryd.underlying23 size23 ?_
  simp only [Act.put, List.setIfInBounds_toArray, List.set_cons_succ, List.set_cons_zero]
  refine quiet_ld (by kernel_rfl) 23 _ rfl (w.heap.size + 1) rfl 23 .u16 256 g _ (fun w' hc => (e1.below hc (by omega)).out) Tryd.underlying23 size23 ?_
  simp only [Act.put, List.setIfInBounds_toArray, List.set_cons_succ, List.set_cons_zero]
  refine quiet_call (by kernel_rfl) 18 #[.agg (arr .u16 256 f), .agg (arr .u16 256 g)] _ (fun _ => by go_simp) (fun w' hc => quiet_of_any (C0.out w') hc es) ?_
  simp only [Act.put, List.setIfInBounds_toArray, List.set_cons_succ, List.set_cons_zero]
  refine quiet_call (by kernel_rfl) 13 #[.agg (arr .u16 256 fun i => (f i + g i) % 3329)] _ (fun _ => by go_simp) (fun w' hc => quiet_of_any (C1.out w' (hz4.below hc (by omega))) hc es) ?_
  simp only [Act.put, List.setIfInBounds_toArray, List.set_cons_succ, List.set_cons_zero]
  refine quiet_ld (by kernel_rfl) 23 _ rfl (w.heap.size) rfl 23 .u16 256 f _ (fun w' hc => (e0.below hc (by omega)).out) Tryd.underlying23 size23 ?_
  simp only [Act.put, List.setIfInBounds_toArray, List.set_cons_succ, List.set_cons_zero]
  refine quiet_call (by kernel_rfl) 13 #[.agg (arr .u16 256 f)] _ (fun _ => by go_simp) (fun w' hc => quiet_of_any (C2.out w' (hz4.below hc (by omega))) hc es) ?_
  simp only [Act.put, List.setIfInBounds_toArray, List.set_cons_succ, List.set_cons_zero]
  refine quiet_ld (by kernel_rfl) 23 _ rfl (w.heap.size + 1) rfl 23 .u16 256 g _ (fun w' hc => (e1.below hc (by omega)).out) Tryd.underlying23 size23 ?_
  simp only [Act.put, List.setIfInBounds_toArray, List.set_cons_succ, List.set_cons_zero]
  refine quiet_call (by kernel_rfl) 13 #[.agg (arr .u16 256 g)] _ (fun _ => by go_simp) (fun w' hc => quiet_of_any (C3.out w' (hz4.below hc (by omega))) hc es) ?_
  simp only [Act.put, List.setIfInBounds_toArray, List.set_cons_succ, List.set_cons_zero]
  refine quiet_call (by kernel_rfl) 19 #[.agg (arr .u16 256 (nttv f)), .agg (arr .u16 256 (nttv g))] _ (fun _ => by go_simp) (fun w' hc => quiet_of_any (C4.out w') hc es) ?_
  simp only [Act.put, List.setIfInBounds_toArray, List.set_cons_succ, List.set_cons_zero]
  refine quiet_val (by kernel_rfl) (.bool true) (run_eq_op 23 22 23 _ _ rfl 256 _ rfl rfl Tryd.underlying23 Tryd.underlying22 hszE (by kernel_rfl)) ?_
  simp only [Act.put, List.setIfInBounds_toArray, List.set_cons_succ, List.set_cons_zero]
  refine quiet_val (by kernel_rfl) (.bool true) (fun _ => by kernel_rfl) ?_
  simp only [Act.put, List.setIfInBounds_toArray, List.set_cons_succ, List.set_cons_zero]
  refine quiet_val (by kernel_rfl) (.bool true) (fun _ => by kernel_rfl) ?_
  simp only [Act.put, List.setIfInBounds_toArray, List.set_cons_succ, List.set_cons_zero]
  refine wpQuiet_nil ?_
  intro w5 hc
  have db := eb.trans (hc.mono (by omega))
  clear hc C0 C1 C2 C3 C4
  go_wp2
  go_ret
  exact ⟨rfl, db⟩

theorem contract (H : Type) (enc : TypeId × Value → H) (W : World) (base : Nat) (args : Array Value) (ds gs : List (DataW H)) (before : List MemPlace)
    (hval0 : ∀ (j : Nat) t v, Tryd.f6.params[j]? = some t → args[j]? = some v → Value.okWide Tryd.prog W .any base t v)
    (hW : DataW.Whole enc Tryd.prog Tryd.f6.params.toList Rows.fnNTTLinearSpec.vars false W args.toList ds gs before) (hL : laidMetH Tryd.prog Rows.fnNTTLinearRow.laid W) :
    Calls Tryd.prog 6 args W fun e W' => ∃ v, e = .returned v ∧ Rows.fnNTTLinearSpec.post enc Tryd.prog Tryd.f6 false true false false W args v W' := by
  have hval : ∀ (j : Nat) t v, Tryd.f6.params[j]? = some t → args[j]? = some v → Value.okWide Tryd.prog W .any base t v := hval0
  have hW' := hW
  obtain ⟨p, q, hA0, hV, rfl, hfz, hnd⟩ := hW
  have hA : DataW.TrodAll enc Tryd.prog W 0 (fun _ => true) true Tryd.f6.params.toList args.toList ds p := hA0
  rw [Tryd.params6] at hA hval
  obtain ⟨v0, vs0, d0, ds0, p0, q0, hargs, rfl, rfl, h0, r0⟩ := trodAll_cons hA
  obtain ⟨v1, vs1, d1, ds1, p1, q1, rfl, rfl, rfl, h1, r1⟩ := trodAll_cons r0
  obtain ⟨rfl, rfl, rfl⟩ := trodAll_nil r1
  obtain rfl : args = #[v0, v1] := by cases args; simp_all
  have hV2 := hV
  obtain ⟨_, _, _, _, e1, _, rfl, _, _, _, _, _⟩ := trodVars_one hV
  have k0 := h0
  have lt0 : ∀ x ∈ p0, x.block < W.heap.size := by obtain ⟨m, hm⟩ := k0; exact DataW.trod_lt m _ _ _ hm
  obtain ⟨g0, rfl, w0⟩ := open_arr Tryd.underlying23 Tryd.underlying22 (by kernel_rfl) (by kernel_rfl) (hval 0 23 v0 rfl rfl) h0
  have k1 := h1
  have lt1 : ∀ x ∈ p1, x.block < W.heap.size := by obtain ⟨m, hm⟩ := k1; exact DataW.trod_lt m _ _ _ hm
  obtain ⟨g1, rfl, w1⟩ := open_arr Tryd.underlying23 Tryd.underlying22 (by kernel_rfl) (by kernel_rfl) (hval 1 23 v1 rfl rfl) h1
  clear hA0 hval0
  refine (walk g0 g1 W (fun i hi => bounds_u16 (w0 i hi)) (fun i hi => bounds_u16 (w1 i hi)) (tab_zet (by kernel_rfl) hL)).mono fun e W' ⟨he, bel⟩ => ?_
  subst he
  exact ⟨_, rfl, _, _, _, [], _, _, hW', trodAll_mk1 (shut_bool Tryd.underlying4 _), (trodAll_cons_mk (Below.trod laidOut (by kernel_rfl) (of_decide_eq_true (by kernel_rfl)) k0 bel lt0) (trodAll_cons_mk (Below.trod laidOut (by kernel_rfl) (of_decide_eq_true (by kernel_rfl)) k1 bel lt1) trodAll_mk0)), Below.trodVars laidOut bel (by kernel_rfl) hV2, bel.frame _, fun h => by cases h⟩

/-- A world for the witness: the settled one, the tables holding what their initialisers lay. -/
noncomputable def laidWorld (os : Os) : World :=
  { World.holding Tryd.prog os ⟨#[], #[], []⟩ with heap := ((World.holding Tryd.prog os ⟨#[], #[], []⟩).heap.modify 1 fun | .cells _ t frozen => .cells ((List.range 128).map fun i => .int .u16 (zet i)).toArray t frozen | o => o) }
theorem laid_met (os : Os) : laidMet Tryd.prog Rows.fnNTTLinearRow.laid ((laidWorld os).forCall (fun _ _ => 0) ⟨#[], #[.agg (Array.replicate 256 (.int .u16 0)), .agg (Array.replicate 256 (.int .u16 0))], []⟩).memory :=
  laidMet_of_run' 8 (by kernel_rfl) (by kernel_rfl)
theorem reads (os : Os) {H : Type} (enc : TypeId × Value → H) : ∃ places, DataW.whole enc Tryd.prog ((laidWorld os).forCall (fun _ _ => 0) ⟨#[], #[.agg (Array.replicate 256 (.int .u16 0)), .agg (Array.replicate 256 (.int .u16 0))], []⟩).memory Tryd.f6.params.toList Rows.fnNTTLinearSpec.vars false #[Value.agg (Array.replicate 256 (.int .u16 0)), .agg (Array.replicate 256 (.int .u16 0))].toList 8 = some ([.agg (List.replicate 256 (.lit (.int .u16 0))), .agg (List.replicate 256 (.lit (.int .u16 0)))], [Lib.tabData .u16 ((List.range 128).map zet)], places) :=
  ⟨MemPlace.row ⟨1, 0, none⟩ 128, by kernel_rfl⟩

set_option maxRecDepth 100000 in
theorem lifted (os : Os) (started : os.Started) (H : Type) (enc : TypeId × Value → H) (F : Stop.Interp) :
    ReturnsInHanded {} Tryd.checked os 6 .any ((OpenSpec.ofChange Rows.fnNTTLinearSpec).preRow enc Tryd.prog Tryd.f6 Rows.fnNTTLinearRow.domain false Rows.fnNTTLinearRow.laid) (((OpenSpec.ofChange Rows.fnNTTLinearSpec).at F).post enc Tryd.prog Tryd.f6 false true false false) := by
  obtain ⟨places, hx⟩ := reads os enc
  refine returnsInHanded_of_row (C := Tryd.checked) (s := OpenSpec.ofChange Rows.fnNTTLinearSpec) own started (by kernel_rfl) Tryd.func6
    (witness_row_at (enc := enc) (C := Tryd.checked) false (laidWorld os) #[.agg (Array.replicate 256 (.int .u16 0)), .agg (Array.replicate 256 (.int .u16 0))] rfl (by kernel_rfl) (by kernel_rfl) (by kernel_rfl)
      (OpenSpec.preRow_of_cond 8 hx (by kernel_rfl) (fun k hk => by cases hk) (by kernel_rfl) (laid_met os))) ?_
  intro W base args ds gs before hval hW _ _ _ hL _ _
  exact contract H enc W base args ds gs before hval hW hL

theorem said : Rows.FnNTTLinearSaid :=
  OpenClaim.holds_of_cond 6 Tryd.f6 rfl rfl rfl rfl rfl rfl rfl ⟨rfl, rfl, rfl, rfl, rfl⟩ rfl rfl rfl rfl rfl (by kernel_rfl) Tryd.func6 (by kernel_rfl)
    (of_decide_eq_true (by kernel_rfl)) (by unfold Func.isWrapper; first | (rw [if_pos (by decide +kernel)]; kernel_rfl) | (rw [if_neg (by decide +kernel)]; exact ⟨rfl, rfl⟩))
    (fun os started H enc _ F => by rw [OpenClaim.pre_eq_preRow]; exact lifted os started H enc F)

theorem plain (f : FuncId) (fn : Func) (hf : Tryd.pinned.checked.prog.funcNamed "loop.example/pub-g03234/laws.FnNTTLinear" = some f) (hfn : Tryd.pinned.checked.prog.funcs[f]? = some fn) :
    false = Tryd.pinned.checked.prog.looks [] ∧ ∀ (j : Nat) t, fn.params[j]? = some t → Tryd.pinned.checked.prog.wantsStandIn t = false := by
  obtain rfl : f = 6 := Option.some.inj ((show Tryd.prog.funcNamed "loop.example/pub-g03234/laws.FnNTTLinear" = some 6 by kernel_rfl).symm.trans hf) |>.symm
  obtain rfl : fn = Tryd.f6 := (Option.some.inj (Tryd.func6.symm.trans hfn)).symm
  refine ⟨by kernel_rfl, fun j t ht => ?_⟩
  rw [Tryd.params6] at ht
  obtain rfl : t = 23 := by simpa using Array.mem_of_getElem? ht
  exact (show Tryd.prog.wantsStandIn 23 = false by kernel_rfl)

/-- THE STATEMENT. -/
theorem proved : Rows.FnNTTLinearCardSaid :=
  Claim7.holds_tied_plain_at .later [] _ _ _ _ said (fun _ h => by cases h) (by kernel_rfl) (fun _ h => by cases h) fnNTTLinear_row_tie rfl ⟨rfl, rfl⟩ (by kernel_rfl) rfl plain (by kernel_rfl)
#print axioms proved
end Go.Proofs.YtcglkelhklihgaaDoor.fnNTTLinear
