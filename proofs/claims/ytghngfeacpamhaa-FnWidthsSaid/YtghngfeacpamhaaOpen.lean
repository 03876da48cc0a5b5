/-
  An argument that is an array of integers, opened: its value is the array's cells, each number fits its kind. No condition.
-/
import Derived.Test.YtghngfeacpamhaaArr
import Derived.ProofKit
import Derived.OpenShut
import Derived.ChangeOld
import Derived.Below
namespace Go.Proofs.Ytghngfeacpamhaa
open Go.ChangeShapes Go.WideShapes Go.ChangeAt Go.RowKit
theorem okWide_array {P : Program} {w : World} {r : Reach} {base : Nat} {t e : TypeId} {n : Nat} {v : Value} (ht : P.underlying t = some (.array n e)) (h : Value.okWide P w r base t v) : ∃ cs, v = .agg cs ∧ cs.size = P.cellsOf t := by
  simp only [Value.okWide, ht] at h
  cases v <;> simp_all
theorem open_arr {H : Type} {enc : TypeId × Value → H} {P : Program} {W : World} {base b0 : Nat} {spare : Nat → Bool} {held : Bool} {r : Reach} {t e : TypeId} {k : IntKind} {n : Nat} {v : Value} {d : DataW H} {p : List MemPlace}
    (ht : P.underlying t = some (.array n e)) (he : P.underlying e = some (.int k)) (hce : P.cellsOf e = 1) (hct : P.cellsOf t = n)
    (hv : Value.okWide P W r b0 t v) (h : DataW.Trod enc P W base spare held t v d p) :
    ∃ g : Nat → Int, v = .agg (arr k n g) ∧ ∀ i, i < n → (Lit.int k (g i)).wf = true := by
  obtain ⟨cs, rfl, hsz⟩ := okWide_array ht hv
  obtain ⟨fuel, hf⟩ := h
  obtain ⟨xs, m, _, _, hl, hx, hall⟩ := DataW.trod_array ht hf
  have hone : ∀ i, i < n → ∃ z, cs[i]? = some (.int k z) ∧ (Lit.int k z).wf = true := by
    intro i hi
    have h1 := hall i hi
    have hi' : i < xs.length := by omega
    rw [List.getElem?_eq_getElem hi', hce, Nat.mul_one] at h1
    obtain ⟨z, hz, _, wz⟩ := DataW.trod_int he h1
    refine ⟨z, ?_, wz⟩
    have h2 : i < cs.size := by omega
    have h3 : (cs.toList.drop i).take 1 = [cs[i]] := by
      rw [List.drop_eq_getElem_cons (by simpa using h2)]; simp
    have h4 : (Value.agg cs).cells.toList = cs.toList := rfl
    rw [h4, h3] at hz
    simp only [List.cons.injEq, and_true] at hz
    rw [Array.getElem?_eq_getElem h2, hz]
  refine ⟨fun i => match cs[i]? with | some (.int _ z) => z | _ => 0, ?_, ?_⟩
  · congr 1
    apply Array.ext_getElem?
    intro i
    by_cases hi : i < n
    · obtain ⟨z, hz, _⟩ := hone i hi
      rw [arr_get _ _ _ _ hi, hz]
    · rw [Array.getElem?_eq_none (by omega), Array.getElem?_eq_none (by rw [arr_size]; omega)]
  · intro i hi
    obtain ⟨z, hz, wz⟩ := hone i hi
    simp only [hz]
    exact wz
end Go.Proofs.Ytghngfeacpamhaa
