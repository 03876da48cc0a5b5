/-
  An argument that is a slice of bytes, opened: nil, or so many bytes. No condition.
-/
import Derived.Test.YtghngfeacpamhaaByt
import Derived.Test.YtghngfeacpamhaaOpen
namespace Go.Proofs.Ytghngfeacpamhaa
open Go.ChangeShapes Go.WideShapes Go.ChangeAt Go.RowKit
/-- A slice of n bytes, nil included. -/
structure Byo (w : World) (v : Value) (n : Nat) (g : Nat → Int) : Prop where
  out : ∃ a cap, v = .slice a n cap ∧ n ≤ cap ∧ cap ≤ maxLen ∧ (0 < n → Bys w v n g)
theorem Byo.bys {w : World} {v : Value} {n : Nat} {g : Nat → Int} (h : Byo w v n g) (hn : 0 < n) : Bys w v n g := by
  obtain ⟨_, _, _, _, _, h⟩ := h.out
  exact h hn
theorem open_bytes {H : Type} {enc : TypeId × Value → H} {P : Program} {W : World} {base b0 : Nat} {spare : Nat → Bool} {held : Bool} {r : Reach} {t e : TypeId} {v : Value} {d : DataW H} {p : List MemPlace}
    (ht : P.underlying t = some (.slice e)) (he : P.underlying e = some (.int .u8)) (hce : P.cellsOf e = 1)
    (hv : Value.okWide P W r b0 t v) (h : DataW.Trod enc P W base spare held t v d p) :
    ∃ n g, Byo W v n g ∧ ∀ i, i < n → 0 ≤ g i ∧ g i < 256 := by
  obtain ⟨a0, len, cap, rfl⟩ := okWide_slice ht hv
  obtain ⟨fuel, hf⟩ := h
  rcases open_ints ht he hce hf with ⟨hcs, _⟩ | ⟨a, len', cap', zs, hcs, _, hl, hm, hz, _, hcell, hwz⟩
  · have hc2 : [Value.slice a0 len cap] = [Value.slice none 0 0] := hcs
    simp only [List.cons.injEq, Value.slice.injEq, and_true] at hc2
    obtain ⟨rfl, rfl, rfl⟩ := hc2
    exact ⟨0, fun _ => 0, ⟨_, _, rfl, Nat.le_refl _, Nat.zero_le _, fun h => absurd h (by omega)⟩, fun i hi => absurd hi (by omega)⟩
  · have hc2 : [Value.slice a0 len cap] = [Value.slice (some a) len' cap'] := hcs
    simp only [List.cons.injEq, Value.slice.injEq, and_true] at hc2
    obtain ⟨rfl, rfl, rfl⟩ := hc2
    have hlen : len ≤ zs.length := by rw [hz]; split <;> omega
    refine ⟨len, fun i => zs.getD i 0, ⟨_, _, rfl, hl, hm, fun hn => ?_⟩, fun i hi => ?_⟩
    · obtain ⟨b, off, rfl, hc⟩ := ints_at hcell (by omega)
      exact ⟨b, off, cap, rfl, hl, fun i hi => hc i (by omega)⟩
    · have hi' : i < zs.length := by omega
      have hm : zs.getD i 0 ∈ zs := by rw [List.getD_eq_getElem?_getD, List.getElem?_eq_getElem hi']; exact List.getElem_mem _
      have := bounds_u8 (hwz _ hm)
      show 0 ≤ zs.getD i 0 ∧ zs.getD i 0 < 256
      omega
end Go.Proofs.Ytghngfeacpamhaa
