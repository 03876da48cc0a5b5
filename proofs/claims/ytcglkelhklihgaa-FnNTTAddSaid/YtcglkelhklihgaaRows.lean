/-
  No cell of these rows narrows 'for every input' (looked for: loops, veiled, ifaces, maps, wideKeys, modest, calm, conditions, laid).
  DERIVED. THE GIVEN ROWS OF THIS SEAT. 3 by the template 'for every input the law returns true; each argument reads behind the call as it read before'; 0 by the template 'total and deterministic' (their statements: YtcglkelhklihgaaTotals.lean).
  GIVEN WITH THE SEED: the statements are not yours to turn. If you find one false, say at which input.
  Laid BY PROGRAM, IN A SANDBOX (cutbox-rows.mjs): the forced cells as the released guide's own fill.sh prints them over the translation 208554af4a2651a5… (all of the seat's roots in one cut). By AI agents, Wed Nov 11 2026. No macro, syntax, notation, axiom, sorry.
-/
import Derived.Test.YtcglkelhklihgaaChecked
import GoSem.Claim
import GoSem.ClaimJoined
import GoSem.ClaimMapViews
import Derived.JoinedTies
import Derived.KernelRfl
namespace Go.Proofs.Ytcglkelhklihgaa
/- THE CELL 'sum', in the pinned program and in every row, IS THE sha256 OF THE DUMP (.gsa) THAT YtcglkelhklihgaaProg.lean LOADS. Nothing in Lean hashes anything: it is a label: what it is worth is what the hold of that sum in a sandbox is worth. -/
noncomputable def Try.pinned : Pinned := { name := "ytcglkelhklihgaa", sum := "208554af4a2651a5cbb13cde188bc29b5ebe836729caac967678b80f663c2350", checked := Try.checked }
namespace Rows
def none {H : Type} : Left H := { results := [], args := [] }

/-- 'laws.FnNTTAdd': WHATEVER THE INPUT: true; the input reads as it did. -/
def fnNTTAddSpec : ChangeSpec := { name := "fnNTTAdd", fn := fun _ => fun
  | [d1, d2] => { results := [.lit (.bool true)], args := [d1, d2] }
  | _ => none }
def fnNTTAddRow : OpenClaim := { program := "ytcglkelhklihgaa", sum := "208554af4a2651a5cbb13cde188bc29b5ebe836729caac967678b80f663c2350", func := "loop.example/pub-g03234/laws.FnNTTAdd", spec := "fnNTTAdd", apart := false }
def FnNTTAddSaid : Prop := fnNTTAddRow.holds Try.pinned (OpenSpec.ofChange fnNTTAddSpec)

/-- ITS FALSE NEIGHBOUR: 'it returns false'. Refute it at one input. -/
def fnNTTAddWrong : ChangeSpec := { name := "fnNTTAdd", fn := fun _ => fun
  | [d1, d2] => { results := [.lit (.bool false)], args := [d1, d2] }
  | _ => none }
def FnNTTAddWrongFalsely : Prop := fnNTTAddRow.holds Try.pinned (OpenSpec.ofChange fnNTTAddWrong)

/-- 'laws.FnRingAdd': WHATEVER THE INPUT: true; the input reads as it did. -/
def fnRingAddSpec : ChangeSpec := { name := "fnRingAdd", fn := fun _ => fun
  | [d1, d2] => { results := [.lit (.bool true)], args := [d1, d2] }
  | _ => none }
def fnRingAddRow : OpenClaim := { program := "ytcglkelhklihgaa", sum := "208554af4a2651a5cbb13cde188bc29b5ebe836729caac967678b80f663c2350", func := "loop.example/pub-g03234/laws.FnRingAdd", spec := "fnRingAdd", apart := false }
def FnRingAddSaid : Prop := fnRingAddRow.holds Try.pinned (OpenSpec.ofChange fnRingAddSpec)

/-- ITS FALSE NEIGHBOUR: 'it returns false'. Refute it at one input. -/
def fnRingAddWrong : ChangeSpec := { name := "fnRingAdd", fn := fun _ => fun
  | [d1, d2] => { results := [.lit (.bool false)], args := [d1, d2] }
  | _ => none }
def FnRingAddWrongFalsely : Prop := fnRingAddRow.holds Try.pinned (OpenSpec.ofChange fnRingAddWrong)

/-- 'laws.FnRingSub': WHATEVER THE INPUT: true; the input reads as it did. -/
def fnRingSubSpec : ChangeSpec := { name := "fnRingSub", fn := fun _ => fun
  | [d1, d2] => { results := [.lit (.bool true)], args := [d1, d2] }
  | _ => none }
def fnRingSubRow : OpenClaim := { program := "ytcglkelhklihgaa", sum := "208554af4a2651a5cbb13cde188bc29b5ebe836729caac967678b80f663c2350", func := "loop.example/pub-g03234/laws.FnRingSub", spec := "fnRingSub", apart := false }
def FnRingSubSaid : Prop := fnRingSubRow.holds Try.pinned (OpenSpec.ofChange fnRingSubSpec)

/-- ITS FALSE NEIGHBOUR: 'it returns false'. Refute it at one input. -/
def fnRingSubWrong : ChangeSpec := { name := "fnRingSub", fn := fun _ => fun
  | [d1, d2] => { results := [.lit (.bool false)], args := [d1, d2] }
  | _ => none }
def FnRingSubWrongFalsely : Prop := fnRingSubRow.holds Try.pinned (OpenSpec.ofChange fnRingSubWrong)

/- THE SECOND FORM. 'bulk': how many values and letters a reading holds, each counted each time it is reached (what is shared counts as often as it is met; a slice's spare places count too). A statement '..UptoSaid' is the law's where the arguments, and the package variables that the reading takes, are together of bulk at most 1048576: NARROWER than '..Said'. Prove '..Said' where nothing that the law and all that it calls make is longer than what came in: it says more and counts as full. Else prove '..UptoSaid'. A law counts once. -/
mutual
def uptoBulk {H : Type} : DataW H → Nat
  | .lit (.string bytes) => bytes.length + 1
  | .lit _ => 1
  | .nil => 1
  | .ptr d => uptoBulk d + 1
  | .slice elems spare => uptoBulkAll elems + uptoBulkAll spare + 1
  | .agg parts => uptoBulkAll parts + 1
  | .iface _ d => uptoBulk d + 1
  | .map entries => uptoBulkEntries entries + 1
  | .held _ => 1
def uptoBulkAll {H : Type} : List (DataW H) → Nat
  | [] => 0
  | d :: r => uptoBulk d + uptoBulkAll r
def uptoBulkEntries {H : Type} : List (Lit × DataW H) → Nat
  | [] => 0
  | x :: r => uptoBulkEntry x + uptoBulkEntries r
def uptoBulkEntry {H : Type} : Lit × DataW H → Nat
  | (.string bytes, d) => bytes.length + uptoBulk d + 1
  | (_, d) => uptoBulk d + 1
 end
def uptoSmall : (H : Type) → List (DataW H) → Bool := fun _ ds => decide (uptoBulkAll ds ≤ 1048576)
def OpenSpec.upto (s : _root_.Go.ChangeSpec) : _root_.Go.OpenSpec := { _root_.Go.OpenSpec.ofChange s with cond := some uptoSmall }

/-- 'laws.FnNTTAdd', WHERE WHAT IT READS IS OF BULK AT MOST 1048576: true; the input reads as it did. -/
def fnNTTAddUptoRow : OpenClaim := { program := "ytcglkelhklihgaa", sum := "208554af4a2651a5cbb13cde188bc29b5ebe836729caac967678b80f663c2350", func := "loop.example/pub-g03234/laws.FnNTTAdd", spec := "fnNTTAdd", apart := false, narrowed := true }
def FnNTTAddUptoSaid : Prop := fnNTTAddUptoRow.holds Try.pinned (OpenSpec.upto fnNTTAddSpec)

/-- 'laws.FnRingAdd', WHERE WHAT IT READS IS OF BULK AT MOST 1048576: true; the input reads as it did. -/
def fnRingAddUptoRow : OpenClaim := { program := "ytcglkelhklihgaa", sum := "208554af4a2651a5cbb13cde188bc29b5ebe836729caac967678b80f663c2350", func := "loop.example/pub-g03234/laws.FnRingAdd", spec := "fnRingAdd", apart := false, narrowed := true }
def FnRingAddUptoSaid : Prop := fnRingAddUptoRow.holds Try.pinned (OpenSpec.upto fnRingAddSpec)

/-- 'laws.FnRingSub', WHERE WHAT IT READS IS OF BULK AT MOST 1048576: true; the input reads as it did. -/
def fnRingSubUptoRow : OpenClaim := { program := "ytcglkelhklihgaa", sum := "208554af4a2651a5cbb13cde188bc29b5ebe836729caac967678b80f663c2350", func := "loop.example/pub-g03234/laws.FnRingSub", spec := "fnRingSub", apart := false, narrowed := true }
def FnRingSubUptoSaid : Prop := fnRingSubUptoRow.holds Try.pinned (OpenSpec.upto fnRingSubSpec)

end Rows
end Go.Proofs.Ytcglkelhklihgaa
