/-
  No cell of these rows narrows 'for every input' (looked for: loops, veiled, ifaces, maps, wideKeys, modest, calm, conditions, laid).
  DERIVED. THE GIVEN ROWS OF THIS SEAT. 9 by the template 'for every input the law returns true; each argument reads behind the call as it read before'; 0 by the template 'total and deterministic' (their statements: YtghngfeacpamhaaTotals.lean).
  GIVEN WITH THE SEED: the statements are not yours to turn. If you find one false, say at which input.
  Laid BY PROGRAM, IN A SANDBOX (cutbox-rows.mjs): the forced cells as the released guide's own fill.sh prints them over the translation 4f12624021cfd60d… (all of the seat's roots in one cut). By AI agents, Wed Nov 11 2026. No macro, syntax, notation, axiom, sorry.
-/
import Derived.Test.YtghngfeacpamhaaChecked
import GoSem.Claim
import GoSem.ClaimJoined
import GoSem.ClaimMapViews
import Derived.JoinedTies
import Derived.KernelRfl
namespace Go.Proofs.Ytghngfeacpamhaa
/- THE CELL 'sum', in the pinned program and in every row, IS THE sha256 OF THE DUMP (.gsa) THAT YtghngfeacpamhaaProg.lean LOADS. Nothing in Lean hashes anything: it is a label: what it is worth is what the hold of that sum in a sandbox is worth. -/
noncomputable def Try.pinned : Pinned := { name := "ytghngfeacpamhaa", sum := "4f12624021cfd60d08771e19cc0cd8dab0a65991d6344a79eddf3819cecd043d", checked := Try.checked }
namespace Rows
def none {H : Type} : Left H := { results := [], args := [] }

/-- 'laws.FnByteEncode': WHATEVER THE INPUT: true; the input reads as it did. -/
def fnByteEncodeSpec : ChangeSpec := { name := "fnByteEncode", fn := fun _ => fun
  | [d] => { results := [.lit (.bool true)], args := [d] }
  | _ => none }
def fnByteEncodeRow : OpenClaim := { program := "ytghngfeacpamhaa", sum := "4f12624021cfd60d08771e19cc0cd8dab0a65991d6344a79eddf3819cecd043d", func := "loop.example/pub-g03234/laws.FnByteEncode", spec := "fnByteEncode", apart := false }
def FnByteEncodeSaid : Prop := fnByteEncodeRow.holds Try.pinned (OpenSpec.ofChange fnByteEncodeSpec)

/-- ITS FALSE NEIGHBOUR: 'it returns false'. Refute it at one input. -/
def fnByteEncodeWrong : ChangeSpec := { name := "fnByteEncode", fn := fun _ => fun
  | [d] => { results := [.lit (.bool false)], args := [d] }
  | _ => none }
def FnByteEncodeWrongFalsely : Prop := fnByteEncodeRow.holds Try.pinned (OpenSpec.ofChange fnByteEncodeWrong)

/-- 'laws.FnByteDecode': WHATEVER THE INPUT: true; the input reads as it did. -/
def fnByteDecodeSpec : ChangeSpec := { name := "fnByteDecode", fn := fun _ => fun
  | [d] => { results := [.lit (.bool true)], args := [d] }
  | _ => none }
def fnByteDecodeRow : OpenClaim := { program := "ytghngfeacpamhaa", sum := "4f12624021cfd60d08771e19cc0cd8dab0a65991d6344a79eddf3819cecd043d", func := "loop.example/pub-g03234/laws.FnByteDecode", spec := "fnByteDecode", apart := false }
def FnByteDecodeSaid : Prop := fnByteDecodeRow.holds Try.pinned (OpenSpec.ofChange fnByteDecodeSpec)

/-- ITS FALSE NEIGHBOUR: 'it returns false'. Refute it at one input. -/
def fnByteDecodeWrong : ChangeSpec := { name := "fnByteDecode", fn := fun _ => fun
  | [d] => { results := [.lit (.bool false)], args := [d] }
  | _ => none }
def FnByteDecodeWrongFalsely : Prop := fnByteDecodeRow.holds Try.pinned (OpenSpec.ofChange fnByteDecodeWrong)

/-- 'laws.FnDecode': WHATEVER THE INPUT: true; the input reads as it did. -/
def fnDecodeSpec : ChangeSpec := { name := "fnDecode", fn := fun _ => fun
  | [d1, d2] => { results := [.lit (.bool true)], args := [d1, d2] }
  | _ => none }
def fnDecodeRow : OpenClaim := { program := "ytghngfeacpamhaa", sum := "4f12624021cfd60d08771e19cc0cd8dab0a65991d6344a79eddf3819cecd043d", func := "loop.example/pub-g03234/laws.FnDecode", spec := "fnDecode", apart := false }
def FnDecodeSaid : Prop := fnDecodeRow.holds Try.pinned (OpenSpec.ofChange fnDecodeSpec)

/-- ITS FALSE NEIGHBOUR: 'it returns false'. Refute it at one input. -/
def fnDecodeWrong : ChangeSpec := { name := "fnDecode", fn := fun _ => fun
  | [d1, d2] => { results := [.lit (.bool false)], args := [d1, d2] }
  | _ => none }
def FnDecodeWrongFalsely : Prop := fnDecodeRow.holds Try.pinned (OpenSpec.ofChange fnDecodeWrong)

/-- 'laws.FnEncode': WHATEVER THE INPUT: true; the input reads as it did. -/
def fnEncodeSpec : ChangeSpec := { name := "fnEncode", fn := fun _ => fun
  | [d1, d2] => { results := [.lit (.bool true)], args := [d1, d2] }
  | _ => none }
def fnEncodeRow : OpenClaim := { program := "ytghngfeacpamhaa", sum := "4f12624021cfd60d08771e19cc0cd8dab0a65991d6344a79eddf3819cecd043d", func := "loop.example/pub-g03234/laws.FnEncode", spec := "fnEncode", apart := false }
def FnEncodeSaid : Prop := fnEncodeRow.holds Try.pinned (OpenSpec.ofChange fnEncodeSpec)

/-- ITS FALSE NEIGHBOUR: 'it returns false'. Refute it at one input. -/
def fnEncodeWrong : ChangeSpec := { name := "fnEncode", fn := fun _ => fun
  | [d1, d2] => { results := [.lit (.bool false)], args := [d1, d2] }
  | _ => none }
def FnEncodeWrongFalsely : Prop := fnEncodeRow.holds Try.pinned (OpenSpec.ofChange fnEncodeWrong)

/-- 'laws.FnByteBack': WHATEVER THE INPUT: true; the input reads as it did. -/
def fnByteBackSpec : ChangeSpec := { name := "fnByteBack", fn := fun _ => fun
  | [d] => { results := [.lit (.bool true)], args := [d] }
  | _ => none }
def fnByteBackRow : OpenClaim := { program := "ytghngfeacpamhaa", sum := "4f12624021cfd60d08771e19cc0cd8dab0a65991d6344a79eddf3819cecd043d", func := "loop.example/pub-g03234/laws.FnByteBack", spec := "fnByteBack", apart := false }
def FnByteBackSaid : Prop := fnByteBackRow.holds Try.pinned (OpenSpec.ofChange fnByteBackSpec)

/-- ITS FALSE NEIGHBOUR: 'it returns false'. Refute it at one input. -/
def fnByteBackWrong : ChangeSpec := { name := "fnByteBack", fn := fun _ => fun
  | [d] => { results := [.lit (.bool false)], args := [d] }
  | _ => none }
def FnByteBackWrongFalsely : Prop := fnByteBackRow.holds Try.pinned (OpenSpec.ofChange fnByteBackWrong)

/-- 'laws.FnDecodeWidth': WHATEVER THE INPUT: true; the input reads as it did. -/
def fnDecodeWidthSpec : ChangeSpec := { name := "fnDecodeWidth", fn := fun _ => fun
  | [d1, d2] => { results := [.lit (.bool true)], args := [d1, d2] }
  | _ => none }
def fnDecodeWidthRow : OpenClaim := { program := "ytghngfeacpamhaa", sum := "4f12624021cfd60d08771e19cc0cd8dab0a65991d6344a79eddf3819cecd043d", func := "loop.example/pub-g03234/laws.FnDecodeWidth", spec := "fnDecodeWidth", apart := false }
def FnDecodeWidthSaid : Prop := fnDecodeWidthRow.holds Try.pinned (OpenSpec.ofChange fnDecodeWidthSpec)

/-- ITS FALSE NEIGHBOUR: 'it returns false'. Refute it at one input. -/
def fnDecodeWidthWrong : ChangeSpec := { name := "fnDecodeWidth", fn := fun _ => fun
  | [d1, d2] => { results := [.lit (.bool false)], args := [d1, d2] }
  | _ => none }
def FnDecodeWidthWrongFalsely : Prop := fnDecodeWidthRow.holds Try.pinned (OpenSpec.ofChange fnDecodeWidthWrong)

/-- 'laws.FnDecodeBack': WHATEVER THE INPUT: true; the input reads as it did. -/
def fnDecodeBackSpec : ChangeSpec := { name := "fnDecodeBack", fn := fun _ => fun
  | [d1, d2] => { results := [.lit (.bool true)], args := [d1, d2] }
  | _ => none }
def fnDecodeBackRow : OpenClaim := { program := "ytghngfeacpamhaa", sum := "4f12624021cfd60d08771e19cc0cd8dab0a65991d6344a79eddf3819cecd043d", func := "loop.example/pub-g03234/laws.FnDecodeBack", spec := "fnDecodeBack", apart := false }
def FnDecodeBackSaid : Prop := fnDecodeBackRow.holds Try.pinned (OpenSpec.ofChange fnDecodeBackSpec)

/-- ITS FALSE NEIGHBOUR: 'it returns false'. Refute it at one input. -/
def fnDecodeBackWrong : ChangeSpec := { name := "fnDecodeBack", fn := fun _ => fun
  | [d1, d2] => { results := [.lit (.bool false)], args := [d1, d2] }
  | _ => none }
def FnDecodeBackWrongFalsely : Prop := fnDecodeBackRow.holds Try.pinned (OpenSpec.ofChange fnDecodeBackWrong)

/-- 'laws.FnEncodeWidth': WHATEVER THE INPUT: true; the input reads as it did. -/
def fnEncodeWidthSpec : ChangeSpec := { name := "fnEncodeWidth", fn := fun _ => fun
  | [d1, d2] => { results := [.lit (.bool true)], args := [d1, d2] }
  | _ => none }
def fnEncodeWidthRow : OpenClaim := { program := "ytghngfeacpamhaa", sum := "4f12624021cfd60d08771e19cc0cd8dab0a65991d6344a79eddf3819cecd043d", func := "loop.example/pub-g03234/laws.FnEncodeWidth", spec := "fnEncodeWidth", apart := false }
def FnEncodeWidthSaid : Prop := fnEncodeWidthRow.holds Try.pinned (OpenSpec.ofChange fnEncodeWidthSpec)

/-- ITS FALSE NEIGHBOUR: 'it returns false'. Refute it at one input. -/
def fnEncodeWidthWrong : ChangeSpec := { name := "fnEncodeWidth", fn := fun _ => fun
  | [d1, d2] => { results := [.lit (.bool false)], args := [d1, d2] }
  | _ => none }
def FnEncodeWidthWrongFalsely : Prop := fnEncodeWidthRow.holds Try.pinned (OpenSpec.ofChange fnEncodeWidthWrong)

/-- 'laws.FnWidths': WHATEVER THE INPUT: true; the input reads as it did. -/
def fnWidthsSpec : ChangeSpec := { name := "fnWidths", fn := fun _ => fun
  | [d1, d2] => { results := [.lit (.bool true)], args := [d1, d2] }
  | _ => none }
def fnWidthsRow : OpenClaim := { program := "ytghngfeacpamhaa", sum := "4f12624021cfd60d08771e19cc0cd8dab0a65991d6344a79eddf3819cecd043d", func := "loop.example/pub-g03234/laws.FnWidths", spec := "fnWidths", apart := false }
def FnWidthsSaid : Prop := fnWidthsRow.holds Try.pinned (OpenSpec.ofChange fnWidthsSpec)

/-- ITS FALSE NEIGHBOUR: 'it returns false'. Refute it at one input. -/
def fnWidthsWrong : ChangeSpec := { name := "fnWidths", fn := fun _ => fun
  | [d1, d2] => { results := [.lit (.bool false)], args := [d1, d2] }
  | _ => none }
def FnWidthsWrongFalsely : Prop := fnWidthsRow.holds Try.pinned (OpenSpec.ofChange fnWidthsWrong)

/- THE SECOND FORM. 'bulk': how many values and letters a reading holds, each counted each time it is reached (what is shared counts as often as it is met; a slice's spare places count too). A statement '..UptoSaid' is the law's where the arguments, and the package variables that the reading takes, are together of bulk at most 1048576: NARROWER than '..Said'. Prove '..Said' where nothing that the law and all that it calls make is longer than what came in: it says more and counts as full. Else prove '..UptoSaid'. A law counts once. -/
mutual
def uptoBulk {H : Type} : DataW H → Nat
  | .lit (.string bytes) => bytes.length + 1
  | .lit _ => 1
  | .nil => 1
  | .ptr d => uptoBulk d + 1
  | .slice elems spare => uptoBulkAll elems + uptoBulkAll spare + 1
  | .agg parts => uptoBulkAll parts + 1
  | .iface _ d => uptoBulk d + 1
  | .map entries => uptoBulkEntries entries + 1
  | .held _ => 1
def uptoBulkAll {H : Type} : List (DataW H) → Nat
  | [] => 0
  | d :: r => uptoBulk d + uptoBulkAll r
def uptoBulkEntries {H : Type} : List (Lit × DataW H) → Nat
  | [] => 0
  | x :: r => uptoBulkEntry x + uptoBulkEntries r
def uptoBulkEntry {H : Type} : Lit × DataW H → Nat
  | (.string bytes, d) => bytes.length + uptoBulk d + 1
  | (_, d) => uptoBulk d + 1
 end
def uptoSmall : (H : Type) → List (DataW H) → Bool := fun _ ds => decide (uptoBulkAll ds ≤ 1048576)
def OpenSpec.upto (s : _root_.Go.ChangeSpec) : _root_.Go.OpenSpec := { _root_.Go.OpenSpec.ofChange s with cond := some uptoSmall }

/-- 'laws.FnByteEncode', WHERE WHAT IT READS IS OF BULK AT MOST 1048576: true; the input reads as it did. -/
def fnByteEncodeUptoRow : OpenClaim := { program := "ytghngfeacpamhaa", sum := "4f12624021cfd60d08771e19cc0cd8dab0a65991d6344a79eddf3819cecd043d", func := "loop.example/pub-g03234/laws.FnByteEncode", spec := "fnByteEncode", apart := false, narrowed := true }
def FnByteEncodeUptoSaid : Prop := fnByteEncodeUptoRow.holds Try.pinned (OpenSpec.upto fnByteEncodeSpec)

/-- 'laws.FnByteDecode', WHERE WHAT IT READS IS OF BULK AT MOST 1048576: true; the input reads as it did. -/
def fnByteDecodeUptoRow : OpenClaim := { program := "ytghngfeacpamhaa", sum := "4f12624021cfd60d08771e19cc0cd8dab0a65991d6344a79eddf3819cecd043d", func := "loop.example/pub-g03234/laws.FnByteDecode", spec := "fnByteDecode", apart := false, narrowed := true }
def FnByteDecodeUptoSaid : Prop := fnByteDecodeUptoRow.holds Try.pinned (OpenSpec.upto fnByteDecodeSpec)

/-- 'laws.FnDecode', WHERE WHAT IT READS IS OF BULK AT MOST 1048576: true; the input reads as it did. -/
def fnDecodeUptoRow : OpenClaim := { program := "ytghngfeacpamhaa", sum := "4f12624021cfd60d08771e19cc0cd8dab0a65991d6344a79eddf3819cecd043d", func := "loop.example/pub-g03234/laws.FnDecode", spec := "fnDecode", apart := false, narrowed := true }
def FnDecodeUptoSaid : Prop := fnDecodeUptoRow.holds Try.pinned (OpenSpec.upto fnDecodeSpec)

/-- 'laws.FnEncode', WHERE WHAT IT READS IS OF BULK AT MOST 1048576: true; the input reads as it did. -/
def fnEncodeUptoRow : OpenClaim := { program := "ytghngfeacpamhaa", sum := "4f12624021cfd60d08771e19cc0cd8dab0a65991d6344a79eddf3819cecd043d", func := "loop.example/pub-g03234/laws.FnEncode", spec := "fnEncode", apart := false, narrowed := true }
def FnEncodeUptoSaid : Prop := fnEncodeUptoRow.holds Try.pinned (OpenSpec.upto fnEncodeSpec)

/-- 'laws.FnByteBack', WHERE WHAT IT READS IS OF BULK AT MOST 1048576: true; the input reads as it did. -/
def fnByteBackUptoRow : OpenClaim := { program := "ytghngfeacpamhaa", sum := "4f12624021cfd60d08771e19cc0cd8dab0a65991d6344a79eddf3819cecd043d", func := "loop.example/pub-g03234/laws.FnByteBack", spec := "fnByteBack", apart := false, narrowed := true }
def FnByteBackUptoSaid : Prop := fnByteBackUptoRow.holds Try.pinned (OpenSpec.upto fnByteBackSpec)

/-- 'laws.FnDecodeWidth', WHERE WHAT IT READS IS OF BULK AT MOST 1048576: true; the input reads as it did. -/
def fnDecodeWidthUptoRow : OpenClaim := { program := "ytghngfeacpamhaa", sum := "4f12624021cfd60d08771e19cc0cd8dab0a65991d6344a79eddf3819cecd043d", func := "loop.example/pub-g03234/laws.FnDecodeWidth", spec := "fnDecodeWidth", apart := false, narrowed := true }
def FnDecodeWidthUptoSaid : Prop := fnDecodeWidthUptoRow.holds Try.pinned (OpenSpec.upto fnDecodeWidthSpec)

/-- 'laws.FnDecodeBack', WHERE WHAT IT READS IS OF BULK AT MOST 1048576: true; the input reads as it did. -/
def fnDecodeBackUptoRow : OpenClaim := { program := "ytghngfeacpamhaa", sum := "4f12624021cfd60d08771e19cc0cd8dab0a65991d6344a79eddf3819cecd043d", func := "loop.example/pub-g03234/laws.FnDecodeBack", spec := "fnDecodeBack", apart := false, narrowed := true }
def FnDecodeBackUptoSaid : Prop := fnDecodeBackUptoRow.holds Try.pinned (OpenSpec.upto fnDecodeBackSpec)

/-- 'laws.FnEncodeWidth', WHERE WHAT IT READS IS OF BULK AT MOST 1048576: true; the input reads as it did. -/
def fnEncodeWidthUptoRow : OpenClaim := { program := "ytghngfeacpamhaa", sum := "4f12624021cfd60d08771e19cc0cd8dab0a65991d6344a79eddf3819cecd043d", func := "loop.example/pub-g03234/laws.FnEncodeWidth", spec := "fnEncodeWidth", apart := false, narrowed := true }
def FnEncodeWidthUptoSaid : Prop := fnEncodeWidthUptoRow.holds Try.pinned (OpenSpec.upto fnEncodeWidthSpec)

/-- 'laws.FnWidths', WHERE WHAT IT READS IS OF BULK AT MOST 1048576: true; the input reads as it did. -/
def fnWidthsUptoRow : OpenClaim := { program := "ytghngfeacpamhaa", sum := "4f12624021cfd60d08771e19cc0cd8dab0a65991d6344a79eddf3819cecd043d", func := "loop.example/pub-g03234/laws.FnWidths", spec := "fnWidths", apart := false, narrowed := true }
def FnWidthsUptoSaid : Prop := fnWidthsUptoRow.holds Try.pinned (OpenSpec.upto fnWidthsSpec)

end Rows
end Go.Proofs.Ytghngfeacpamhaa
