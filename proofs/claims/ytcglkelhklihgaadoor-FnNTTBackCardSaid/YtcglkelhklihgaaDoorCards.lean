/-
  DERIVED. GIVEN WITH THE SEED: THE CARDS: each row of YtcglkelhklihgaaDoorRows.lean that lists a variable, with what it lists TIED to the program's text (the seventh form; the later family's looks); each row that meets fmt, with fmt's text TOLD by the authors' own Lean function (tested against real Go, not proved from fmt's source: count such statements apart). THE CARD IS WHAT COUNTS. Prove the row's statement (the work); the ties are given (YtcglkelhklihgaaDoorTie.lean); close each card by the builder's one call (the guide's Derived/Test/ToyasCard.lean, 'card_holds'). Laid BY PROGRAM, IN A SANDBOX (cutbox-door.mjs). By AI agents, Wed Nov 11 2026. No macro, syntax, notation, axiom, sorry.
-/
import Derived.Test.YtcglkelhklihgaaDoorRows
import GoSem.ClaimSeven
namespace Go.Proofs.YtcglkelhklihgaaDoor
namespace Rows

/-- THE TIED CARD OF 'laws.FnNTTMul'. -/
def fnNTTMulCard : Claim7 := { stood := { row := fnNTTMulRow, standIns := [], harness := (true, "34ed1db619a978cef29119a64b50eb8fe6e2bb325e5f45366eac39be938bf23a"), looks := false }, kinds := [], alts := [], laidByText := true, laidKinds := [.data], laidTests := true, laidLooks := .later }
def FnNTTMulCardSaid : Prop := Claim7.holds Tryd.pinned (.plain (OpenSpec.ofChange fnNTTMulSpec)) fnNTTMulCard

/-- THE TIED CARD OF 'laws.FnToNTT'. -/
def fnToNTTCard : Claim7 := { stood := { row := fnToNTTRow, standIns := [], harness := (true, "34ed1db619a978cef29119a64b50eb8fe6e2bb325e5f45366eac39be938bf23a"), looks := false }, kinds := [], alts := [], laidByText := true, laidKinds := [.data], laidTests := true, laidLooks := .later }
def FnToNTTCardSaid : Prop := Claim7.holds Tryd.pinned (.plain (OpenSpec.ofChange fnToNTTSpec)) fnToNTTCard

/-- THE TIED CARD OF 'laws.FnFromNTT'. -/
def fnFromNTTCard : Claim7 := { stood := { row := fnFromNTTRow, standIns := [], harness := (true, "34ed1db619a978cef29119a64b50eb8fe6e2bb325e5f45366eac39be938bf23a"), looks := false }, kinds := [], alts := [], laidByText := true, laidKinds := [.data], laidTests := true, laidLooks := .later }
def FnFromNTTCardSaid : Prop := Claim7.holds Tryd.pinned (.plain (OpenSpec.ofChange fnFromNTTSpec)) fnFromNTTCard

/-- THE TIED CARD OF 'laws.FnNTTLinear'. -/
def fnNTTLinearCard : Claim7 := { stood := { row := fnNTTLinearRow, standIns := [], harness := (true, "34ed1db619a978cef29119a64b50eb8fe6e2bb325e5f45366eac39be938bf23a"), looks := false }, kinds := [], alts := [], laidByText := true, laidKinds := [.data], laidTests := true, laidLooks := .later }
def FnNTTLinearCardSaid : Prop := Claim7.holds Tryd.pinned (.plain (OpenSpec.ofChange fnNTTLinearSpec)) fnNTTLinearCard

/-- THE TIED CARD OF 'laws.FnNTTBack'. -/
def fnNTTBackCard : Claim7 := { stood := { row := fnNTTBackRow, standIns := [], harness := (true, "34ed1db619a978cef29119a64b50eb8fe6e2bb325e5f45366eac39be938bf23a"), looks := false }, kinds := [], alts := [], laidByText := true, laidKinds := [.data], laidTests := true, laidLooks := .later }
def FnNTTBackCardSaid : Prop := Claim7.holds Tryd.pinned (.plain (OpenSpec.ofChange fnNTTBackSpec)) fnNTTBackCard

/-- THE TIED CARD OF 'laws.FnNTTProduct'. -/
def fnNTTProductCard : Claim7 := { stood := { row := fnNTTProductRow, standIns := [], harness := (true, "34ed1db619a978cef29119a64b50eb8fe6e2bb325e5f45366eac39be938bf23a"), looks := false }, kinds := [], alts := [], laidByText := true, laidKinds := [.data, .data], laidTests := true, laidLooks := .later }
def FnNTTProductCardSaid : Prop := Claim7.holds Tryd.pinned (.plain (OpenSpec.ofChange fnNTTProductSpec)) fnNTTProductCard

/-- THE SECOND FORM's CARD OF 'laws.FnNTTMul'. -/
def fnNTTMulUptoCard : Claim7 := { stood := { row := fnNTTMulUptoRow, standIns := [], harness := (true, "34ed1db619a978cef29119a64b50eb8fe6e2bb325e5f45366eac39be938bf23a"), looks := false }, kinds := [], alts := [], laidByText := true, laidKinds := [.data], laidTests := true, laidLooks := .later }
def FnNTTMulUptoCardSaid : Prop := Claim7.holds Tryd.pinned (.plain (OpenSpec.upto fnNTTMulSpec)) fnNTTMulUptoCard

/-- THE SECOND FORM's CARD OF 'laws.FnToNTT'. -/
def fnToNTTUptoCard : Claim7 := { stood := { row := fnToNTTUptoRow, standIns := [], harness := (true, "34ed1db619a978cef29119a64b50eb8fe6e2bb325e5f45366eac39be938bf23a"), looks := false }, kinds := [], alts := [], laidByText := true, laidKinds := [.data], laidTests := true, laidLooks := .later }
def FnToNTTUptoCardSaid : Prop := Claim7.holds Tryd.pinned (.plain (OpenSpec.upto fnToNTTSpec)) fnToNTTUptoCard

/-- THE SECOND FORM's CARD OF 'laws.FnFromNTT'. -/
def fnFromNTTUptoCard : Claim7 := { stood := { row := fnFromNTTUptoRow, standIns := [], harness := (true, "34ed1db619a978cef29119a64b50eb8fe6e2bb325e5f45366eac39be938bf23a"), looks := false }, kinds := [], alts := [], laidByText := true, laidKinds := [.data], laidTests := true, laidLooks := .later }
def FnFromNTTUptoCardSaid : Prop := Claim7.holds Tryd.pinned (.plain (OpenSpec.upto fnFromNTTSpec)) fnFromNTTUptoCard

/-- THE SECOND FORM's CARD OF 'laws.FnNTTLinear'. -/
def fnNTTLinearUptoCard : Claim7 := { stood := { row := fnNTTLinearUptoRow, standIns := [], harness := (true, "34ed1db619a978cef29119a64b50eb8fe6e2bb325e5f45366eac39be938bf23a"), looks := false }, kinds := [], alts := [], laidByText := true, laidKinds := [.data], laidTests := true, laidLooks := .later }
def FnNTTLinearUptoCardSaid : Prop := Claim7.holds Tryd.pinned (.plain (OpenSpec.upto fnNTTLinearSpec)) fnNTTLinearUptoCard

/-- THE SECOND FORM's CARD OF 'laws.FnNTTBack'. -/
def fnNTTBackUptoCard : Claim7 := { stood := { row := fnNTTBackUptoRow, standIns := [], harness := (true, "34ed1db619a978cef29119a64b50eb8fe6e2bb325e5f45366eac39be938bf23a"), looks := false }, kinds := [], alts := [], laidByText := true, laidKinds := [.data], laidTests := true, laidLooks := .later }
def FnNTTBackUptoCardSaid : Prop := Claim7.holds Tryd.pinned (.plain (OpenSpec.upto fnNTTBackSpec)) fnNTTBackUptoCard

/-- THE SECOND FORM's CARD OF 'laws.FnNTTProduct'. -/
def fnNTTProductUptoCard : Claim7 := { stood := { row := fnNTTProductUptoRow, standIns := [], harness := (true, "34ed1db619a978cef29119a64b50eb8fe6e2bb325e5f45366eac39be938bf23a"), looks := false }, kinds := [], alts := [], laidByText := true, laidKinds := [.data, .data], laidTests := true, laidLooks := .later }
def FnNTTProductUptoCardSaid : Prop := Claim7.holds Tryd.pinned (.plain (OpenSpec.upto fnNTTProductSpec)) fnNTTProductUptoCard
end Rows
end Go.Proofs.YtcglkelhklihgaaDoor
