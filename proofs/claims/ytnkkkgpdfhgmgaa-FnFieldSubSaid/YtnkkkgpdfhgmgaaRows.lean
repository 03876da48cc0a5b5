/-
  No cell of these rows narrows 'for every input' (looked for: loops, veiled, ifaces, maps, wideKeys, modest, calm, conditions, laid).
  DERIVED. THE GIVEN ROWS OF THIS SEAT. 12 by the template 'for every input the law returns true; each argument reads behind the call as it read before'; 0 by the template 'total and deterministic' (their statements: YtnkkkgpdfhgmgaaTotals.lean).
  GIVEN WITH THE SEED: the statements are not yours to turn. If you find one false, say at which input.
  Laid BY PROGRAM, IN A SANDBOX (cutbox-rows.mjs): the forced cells as the released guide's own fill.sh prints them over the translation 3c977f58c4dd5b11… (all of the seat's roots in one cut). By AI agents, Wed Nov 11 2026. No macro, syntax, notation, axiom, sorry.
-/
import Derived.Test.YtnkkkgpdfhgmgaaChecked
import GoSem.Claim
import GoSem.ClaimJoined
import GoSem.ClaimMapViews
import Derived.JoinedTies
import Derived.KernelRfl
namespace Go.Proofs.Ytnkkkgpdfhgmgaa
/- THE CELL 'sum', in the pinned program and in every row, IS THE sha256 OF THE DUMP (.gsa) THAT YtnkkkgpdfhgmgaaProg.lean LOADS. Nothing in Lean hashes anything: it is a label: what it is worth is what the hold of that sum in a sandbox is worth. -/
noncomputable def Try.pinned : Pinned := { name := "ytnkkkgpdfhgmgaa", sum := "3c977f58c4dd5b117c8fe90bcf945c28a8202bcbab02ad3adc67aed6b187d58f", checked := Try.checked }
namespace Rows
def none {H : Type} : Left H := { results := [], args := [] }

/-- 'laws.FnFieldReduceOnce': WHATEVER THE INPUT: true; the input reads as it did. -/
def fnFieldReduceOnceSpec : ChangeSpec := { name := "fnFieldReduceOnce", fn := fun _ => fun
  | [d] => { results := [.lit (.bool true)], args := [d] }
  | _ => none }
def fnFieldReduceOnceRow : OpenClaim := { program := "ytnkkkgpdfhgmgaa", sum := "3c977f58c4dd5b117c8fe90bcf945c28a8202bcbab02ad3adc67aed6b187d58f", func := "loop.example/pub-g03234/laws.FnFieldReduceOnce", spec := "fnFieldReduceOnce", apart := false }
def FnFieldReduceOnceSaid : Prop := fnFieldReduceOnceRow.holds Try.pinned (OpenSpec.ofChange fnFieldReduceOnceSpec)

/-- ITS FALSE NEIGHBOUR: 'it returns false'. Refute it at one input. -/
def fnFieldReduceOnceWrong : ChangeSpec := { name := "fnFieldReduceOnce", fn := fun _ => fun
  | [d] => { results := [.lit (.bool false)], args := [d] }
  | _ => none }
def FnFieldReduceOnceWrongFalsely : Prop := fnFieldReduceOnceRow.holds Try.pinned (OpenSpec.ofChange fnFieldReduceOnceWrong)

/-- 'laws.FnFieldAdd': WHATEVER THE INPUT: true; the input reads as it did. -/
def fnFieldAddSpec : ChangeSpec := { name := "fnFieldAdd", fn := fun _ => fun
  | [d1, d2] => { results := [.lit (.bool true)], args := [d1, d2] }
  | _ => none }
def fnFieldAddRow : OpenClaim := { program := "ytnkkkgpdfhgmgaa", sum := "3c977f58c4dd5b117c8fe90bcf945c28a8202bcbab02ad3adc67aed6b187d58f", func := "loop.example/pub-g03234/laws.FnFieldAdd", spec := "fnFieldAdd", apart := false }
def FnFieldAddSaid : Prop := fnFieldAddRow.holds Try.pinned (OpenSpec.ofChange fnFieldAddSpec)

/-- ITS FALSE NEIGHBOUR: 'it returns false'. Refute it at one input. -/
def fnFieldAddWrong : ChangeSpec := { name := "fnFieldAdd", fn := fun _ => fun
  | [d1, d2] => { results := [.lit (.bool false)], args := [d1, d2] }
  | _ => none }
def FnFieldAddWrongFalsely : Prop := fnFieldAddRow.holds Try.pinned (OpenSpec.ofChange fnFieldAddWrong)

/-- 'laws.FnFieldCheck': WHATEVER THE INPUT: true; the input reads as it did. -/
def fnFieldCheckSpec : ChangeSpec := { name := "fnFieldCheck", fn := fun _ => fun
  | [d] => { results := [.lit (.bool true)], args := [d] }
  | _ => none }
def fnFieldCheckRow : OpenClaim := { program := "ytnkkkgpdfhgmgaa", sum := "3c977f58c4dd5b117c8fe90bcf945c28a8202bcbab02ad3adc67aed6b187d58f", func := "loop.example/pub-g03234/laws.FnFieldCheck", spec := "fnFieldCheck", apart := false }
def FnFieldCheckSaid : Prop := fnFieldCheckRow.holds Try.pinned (OpenSpec.ofChange fnFieldCheckSpec)

/-- ITS FALSE NEIGHBOUR: 'it returns false'. Refute it at one input. -/
def fnFieldCheckWrong : ChangeSpec := { name := "fnFieldCheck", fn := fun _ => fun
  | [d] => { results := [.lit (.bool false)], args := [d] }
  | _ => none }
def FnFieldCheckWrongFalsely : Prop := fnFieldCheckRow.holds Try.pinned (OpenSpec.ofChange fnFieldCheckWrong)

/-- 'laws.FnFieldReduce': WHATEVER THE INPUT: true; the input reads as it did. -/
def fnFieldReduceSpec : ChangeSpec := { name := "fnFieldReduce", fn := fun _ => fun
  | [d] => { results := [.lit (.bool true)], args := [d] }
  | _ => none }
def fnFieldReduceRow : OpenClaim := { program := "ytnkkkgpdfhgmgaa", sum := "3c977f58c4dd5b117c8fe90bcf945c28a8202bcbab02ad3adc67aed6b187d58f", func := "loop.example/pub-g03234/laws.FnFieldReduce", spec := "fnFieldReduce", apart := false }
def FnFieldReduceSaid : Prop := fnFieldReduceRow.holds Try.pinned (OpenSpec.ofChange fnFieldReduceSpec)

/-- ITS FALSE NEIGHBOUR: 'it returns false'. Refute it at one input. -/
def fnFieldReduceWrong : ChangeSpec := { name := "fnFieldReduce", fn := fun _ => fun
  | [d] => { results := [.lit (.bool false)], args := [d] }
  | _ => none }
def FnFieldReduceWrongFalsely : Prop := fnFieldReduceRow.holds Try.pinned (OpenSpec.ofChange fnFieldReduceWrong)

/-- 'laws.FnFieldSub': WHATEVER THE INPUT: true; the input reads as it did. -/
def fnFieldSubSpec : ChangeSpec := { name := "fnFieldSub", fn := fun _ => fun
  | [d1, d2] => { results := [.lit (.bool true)], args := [d1, d2] }
  | _ => none }
def fnFieldSubRow : OpenClaim := { program := "ytnkkkgpdfhgmgaa", sum := "3c977f58c4dd5b117c8fe90bcf945c28a8202bcbab02ad3adc67aed6b187d58f", func := "loop.example/pub-g03234/laws.FnFieldSub", spec := "fnFieldSub", apart := false }
def FnFieldSubSaid : Prop := fnFieldSubRow.holds Try.pinned (OpenSpec.ofChange fnFieldSubSpec)

/-- ITS FALSE NEIGHBOUR: 'it returns false'. Refute it at one input. -/
def fnFieldSubWrong : ChangeSpec := { name := "fnFieldSub", fn := fun _ => fun
  | [d1, d2] => { results := [.lit (.bool false)], args := [d1, d2] }
  | _ => none }
def FnFieldSubWrongFalsely : Prop := fnFieldSubRow.holds Try.pinned (OpenSpec.ofChange fnFieldSubWrong)

/-- 'laws.FnFieldMul': WHATEVER THE INPUT: true; the input reads as it did. -/
def fnFieldMulSpec : ChangeSpec := { name := "fnFieldMul", fn := fun _ => fun
  | [d1, d2] => { results := [.lit (.bool true)], args := [d1, d2] }
  | _ => none }
def fnFieldMulRow : OpenClaim := { program := "ytnkkkgpdfhgmgaa", sum := "3c977f58c4dd5b117c8fe90bcf945c28a8202bcbab02ad3adc67aed6b187d58f", func := "loop.example/pub-g03234/laws.FnFieldMul", spec := "fnFieldMul", apart := false }
def FnFieldMulSaid : Prop := fnFieldMulRow.holds Try.pinned (OpenSpec.ofChange fnFieldMulSpec)

/-- ITS FALSE NEIGHBOUR: 'it returns false'. Refute it at one input. -/
def fnFieldMulWrong : ChangeSpec := { name := "fnFieldMul", fn := fun _ => fun
  | [d1, d2] => { results := [.lit (.bool false)], args := [d1, d2] }
  | _ => none }
def FnFieldMulWrongFalsely : Prop := fnFieldMulRow.holds Try.pinned (OpenSpec.ofChange fnFieldMulWrong)

/-- 'laws.FnFieldMulSub': WHATEVER THE INPUT: true; the input reads as it did. -/
def fnFieldMulSubSpec : ChangeSpec := { name := "fnFieldMulSub", fn := fun _ => fun
  | [d1, d2, d3] => { results := [.lit (.bool true)], args := [d1, d2, d3] }
  | _ => none }
def fnFieldMulSubRow : OpenClaim := { program := "ytnkkkgpdfhgmgaa", sum := "3c977f58c4dd5b117c8fe90bcf945c28a8202bcbab02ad3adc67aed6b187d58f", func := "loop.example/pub-g03234/laws.FnFieldMulSub", spec := "fnFieldMulSub", apart := false }
def FnFieldMulSubSaid : Prop := fnFieldMulSubRow.holds Try.pinned (OpenSpec.ofChange fnFieldMulSubSpec)

/-- ITS FALSE NEIGHBOUR: 'it returns false'. Refute it at one input. -/
def fnFieldMulSubWrong : ChangeSpec := { name := "fnFieldMulSub", fn := fun _ => fun
  | [d1, d2, d3] => { results := [.lit (.bool false)], args := [d1, d2, d3] }
  | _ => none }
def FnFieldMulSubWrongFalsely : Prop := fnFieldMulSubRow.holds Try.pinned (OpenSpec.ofChange fnFieldMulSubWrong)

/-- 'laws.FnDecompress': WHATEVER THE INPUT: true; the input reads as it did. -/
def fnDecompressSpec : ChangeSpec := { name := "fnDecompress", fn := fun _ => fun
  | [d1, d2] => { results := [.lit (.bool true)], args := [d1, d2] }
  | _ => none }
def fnDecompressRow : OpenClaim := { program := "ytnkkkgpdfhgmgaa", sum := "3c977f58c4dd5b117c8fe90bcf945c28a8202bcbab02ad3adc67aed6b187d58f", func := "loop.example/pub-g03234/laws.FnDecompress", spec := "fnDecompress", apart := false }
def FnDecompressSaid : Prop := fnDecompressRow.holds Try.pinned (OpenSpec.ofChange fnDecompressSpec)

/-- ITS FALSE NEIGHBOUR: 'it returns false'. Refute it at one input. -/
def fnDecompressWrong : ChangeSpec := { name := "fnDecompress", fn := fun _ => fun
  | [d1, d2] => { results := [.lit (.bool false)], args := [d1, d2] }
  | _ => none }
def FnDecompressWrongFalsely : Prop := fnDecompressRow.holds Try.pinned (OpenSpec.ofChange fnDecompressWrong)

/-- 'laws.FnFieldAddMul': WHATEVER THE INPUT: true; the input reads as it did. -/
def fnFieldAddMulSpec : ChangeSpec := { name := "fnFieldAddMul", fn := fun _ => fun
  | [d1, d2, d3, d4] => { results := [.lit (.bool true)], args := [d1, d2, d3, d4] }
  | _ => none }
def fnFieldAddMulRow : OpenClaim := { program := "ytnkkkgpdfhgmgaa", sum := "3c977f58c4dd5b117c8fe90bcf945c28a8202bcbab02ad3adc67aed6b187d58f", func := "loop.example/pub-g03234/laws.FnFieldAddMul", spec := "fnFieldAddMul", apart := false }
def FnFieldAddMulSaid : Prop := fnFieldAddMulRow.holds Try.pinned (OpenSpec.ofChange fnFieldAddMulSpec)

/-- ITS FALSE NEIGHBOUR: 'it returns false'. Refute it at one input. -/
def fnFieldAddMulWrong : ChangeSpec := { name := "fnFieldAddMul", fn := fun _ => fun
  | [d1, d2, d3, d4] => { results := [.lit (.bool false)], args := [d1, d2, d3, d4] }
  | _ => none }
def FnFieldAddMulWrongFalsely : Prop := fnFieldAddMulRow.holds Try.pinned (OpenSpec.ofChange fnFieldAddMulWrong)

/-- 'laws.FnCompress': WHATEVER THE INPUT: true; the input reads as it did. -/
def fnCompressSpec : ChangeSpec := { name := "fnCompress", fn := fun _ => fun
  | [d1, d2] => { results := [.lit (.bool true)], args := [d1, d2] }
  | _ => none }
def fnCompressRow : OpenClaim := { program := "ytnkkkgpdfhgmgaa", sum := "3c977f58c4dd5b117c8fe90bcf945c28a8202bcbab02ad3adc67aed6b187d58f", func := "loop.example/pub-g03234/laws.FnCompress", spec := "fnCompress", apart := false }
def FnCompressSaid : Prop := fnCompressRow.holds Try.pinned (OpenSpec.ofChange fnCompressSpec)

/-- ITS FALSE NEIGHBOUR: 'it returns false'. Refute it at one input. -/
def fnCompressWrong : ChangeSpec := { name := "fnCompress", fn := fun _ => fun
  | [d1, d2] => { results := [.lit (.bool false)], args := [d1, d2] }
  | _ => none }
def FnCompressWrongFalsely : Prop := fnCompressRow.holds Try.pinned (OpenSpec.ofChange fnCompressWrong)

/-- 'laws.FnCompressBack': WHATEVER THE INPUT: true; the input reads as it did. -/
def fnCompressBackSpec : ChangeSpec := { name := "fnCompressBack", fn := fun _ => fun
  | [d1, d2] => { results := [.lit (.bool true)], args := [d1, d2] }
  | _ => none }
def fnCompressBackRow : OpenClaim := { program := "ytnkkkgpdfhgmgaa", sum := "3c977f58c4dd5b117c8fe90bcf945c28a8202bcbab02ad3adc67aed6b187d58f", func := "loop.example/pub-g03234/laws.FnCompressBack", spec := "fnCompressBack", apart := false }
def FnCompressBackSaid : Prop := fnCompressBackRow.holds Try.pinned (OpenSpec.ofChange fnCompressBackSpec)

/-- ITS FALSE NEIGHBOUR: 'it returns false'. Refute it at one input. -/
def fnCompressBackWrong : ChangeSpec := { name := "fnCompressBack", fn := fun _ => fun
  | [d1, d2] => { results := [.lit (.bool false)], args := [d1, d2] }
  | _ => none }
def FnCompressBackWrongFalsely : Prop := fnCompressBackRow.holds Try.pinned (OpenSpec.ofChange fnCompressBackWrong)

/-- 'laws.FnCompressNear': WHATEVER THE INPUT: true; the input reads as it did. -/
def fnCompressNearSpec : ChangeSpec := { name := "fnCompressNear", fn := fun _ => fun
  | [d1, d2] => { results := [.lit (.bool true)], args := [d1, d2] }
  | _ => none }
def fnCompressNearRow : OpenClaim := { program := "ytnkkkgpdfhgmgaa", sum := "3c977f58c4dd5b117c8fe90bcf945c28a8202bcbab02ad3adc67aed6b187d58f", func := "loop.example/pub-g03234/laws.FnCompressNear", spec := "fnCompressNear", apart := false }
def FnCompressNearSaid : Prop := fnCompressNearRow.holds Try.pinned (OpenSpec.ofChange fnCompressNearSpec)

/-- ITS FALSE NEIGHBOUR: 'it returns false'. Refute it at one input. -/
def fnCompressNearWrong : ChangeSpec := { name := "fnCompressNear", fn := fun _ => fun
  | [d1, d2] => { results := [.lit (.bool false)], args := [d1, d2] }
  | _ => none }
def FnCompressNearWrongFalsely : Prop := fnCompressNearRow.holds Try.pinned (OpenSpec.ofChange fnCompressNearWrong)

/- THE SECOND FORM. 'bulk': how many values and letters a reading holds, each counted each time it is reached (what is shared counts as often as it is met; a slice's spare places count too). A statement '..UptoSaid' is the law's where the arguments, and the package variables that the reading takes, are together of bulk at most 1048576: NARROWER than '..Said'. Prove '..Said' where nothing that the law and all that it calls make is longer than what came in: it says more and counts as full. Else prove '..UptoSaid'. A law counts once. -/
mutual
def uptoBulk {H : Type} : DataW H → Nat
  | .lit (.string bytes) => bytes.length + 1
  | .lit _ => 1
  | .nil => 1
  | .ptr d => uptoBulk d + 1
  | .slice elems spare => uptoBulkAll elems + uptoBulkAll spare + 1
  | .agg parts => uptoBulkAll parts + 1
  | .iface _ d => uptoBulk d + 1
  | .map entries => uptoBulkEntries entries + 1
  | .held _ => 1
def uptoBulkAll {H : Type} : List (DataW H) → Nat
  | [] => 0
  | d :: r => uptoBulk d + uptoBulkAll r
def uptoBulkEntries {H : Type} : List (Lit × DataW H) → Nat
  | [] => 0
  | x :: r => uptoBulkEntry x + uptoBulkEntries r
def uptoBulkEntry {H : Type} : Lit × DataW H → Nat
  | (.string bytes, d) => bytes.length + uptoBulk d + 1
  | (_, d) => uptoBulk d + 1
 end
def uptoSmall : (H : Type) → List (DataW H) → Bool := fun _ ds => decide (uptoBulkAll ds ≤ 1048576)
def OpenSpec.upto (s : _root_.Go.ChangeSpec) : _root_.Go.OpenSpec := { _root_.Go.OpenSpec.ofChange s with cond := some uptoSmall }

/-- 'laws.FnFieldReduceOnce', WHERE WHAT IT READS IS OF BULK AT MOST 1048576: true; the input reads as it did. -/
def fnFieldReduceOnceUptoRow : OpenClaim := { program := "ytnkkkgpdfhgmgaa", sum := "3c977f58c4dd5b117c8fe90bcf945c28a8202bcbab02ad3adc67aed6b187d58f", func := "loop.example/pub-g03234/laws.FnFieldReduceOnce", spec := "fnFieldReduceOnce", apart := false, narrowed := true }
def FnFieldReduceOnceUptoSaid : Prop := fnFieldReduceOnceUptoRow.holds Try.pinned (OpenSpec.upto fnFieldReduceOnceSpec)

/-- 'laws.FnFieldAdd', WHERE WHAT IT READS IS OF BULK AT MOST 1048576: true; the input reads as it did. -/
def fnFieldAddUptoRow : OpenClaim := { program := "ytnkkkgpdfhgmgaa", sum := "3c977f58c4dd5b117c8fe90bcf945c28a8202bcbab02ad3adc67aed6b187d58f", func := "loop.example/pub-g03234/laws.FnFieldAdd", spec := "fnFieldAdd", apart := false, narrowed := true }
def FnFieldAddUptoSaid : Prop := fnFieldAddUptoRow.holds Try.pinned (OpenSpec.upto fnFieldAddSpec)

/-- 'laws.FnFieldCheck', WHERE WHAT IT READS IS OF BULK AT MOST 1048576: true; the input reads as it did. -/
def fnFieldCheckUptoRow : OpenClaim := { program := "ytnkkkgpdfhgmgaa", sum := "3c977f58c4dd5b117c8fe90bcf945c28a8202bcbab02ad3adc67aed6b187d58f", func := "loop.example/pub-g03234/laws.FnFieldCheck", spec := "fnFieldCheck", apart := false, narrowed := true }
def FnFieldCheckUptoSaid : Prop := fnFieldCheckUptoRow.holds Try.pinned (OpenSpec.upto fnFieldCheckSpec)

/-- 'laws.FnFieldReduce', WHERE WHAT IT READS IS OF BULK AT MOST 1048576: true; the input reads as it did. -/
def fnFieldReduceUptoRow : OpenClaim := { program := "ytnkkkgpdfhgmgaa", sum := "3c977f58c4dd5b117c8fe90bcf945c28a8202bcbab02ad3adc67aed6b187d58f", func := "loop.example/pub-g03234/laws.FnFieldReduce", spec := "fnFieldReduce", apart := false, narrowed := true }
def FnFieldReduceUptoSaid : Prop := fnFieldReduceUptoRow.holds Try.pinned (OpenSpec.upto fnFieldReduceSpec)

/-- 'laws.FnFieldSub', WHERE WHAT IT READS IS OF BULK AT MOST 1048576: true; the input reads as it did. -/
def fnFieldSubUptoRow : OpenClaim := { program := "ytnkkkgpdfhgmgaa", sum := "3c977f58c4dd5b117c8fe90bcf945c28a8202bcbab02ad3adc67aed6b187d58f", func := "loop.example/pub-g03234/laws.FnFieldSub", spec := "fnFieldSub", apart := false, narrowed := true }
def FnFieldSubUptoSaid : Prop := fnFieldSubUptoRow.holds Try.pinned (OpenSpec.upto fnFieldSubSpec)

/-- 'laws.FnFieldMul', WHERE WHAT IT READS IS OF BULK AT MOST 1048576: true; the input reads as it did. -/
def fnFieldMulUptoRow : OpenClaim := { program := "ytnkkkgpdfhgmgaa", sum := "3c977f58c4dd5b117c8fe90bcf945c28a8202bcbab02ad3adc67aed6b187d58f", func := "loop.example/pub-g03234/laws.FnFieldMul", spec := "fnFieldMul", apart := false, narrowed := true }
def FnFieldMulUptoSaid : Prop := fnFieldMulUptoRow.holds Try.pinned (OpenSpec.upto fnFieldMulSpec)

/-- 'laws.FnFieldMulSub', WHERE WHAT IT READS IS OF BULK AT MOST 1048576: true; the input reads as it did. -/
def fnFieldMulSubUptoRow : OpenClaim := { program := "ytnkkkgpdfhgmgaa", sum := "3c977f58c4dd5b117c8fe90bcf945c28a8202bcbab02ad3adc67aed6b187d58f", func := "loop.example/pub-g03234/laws.FnFieldMulSub", spec := "fnFieldMulSub", apart := false, narrowed := true }
def FnFieldMulSubUptoSaid : Prop := fnFieldMulSubUptoRow.holds Try.pinned (OpenSpec.upto fnFieldMulSubSpec)

/-- 'laws.FnDecompress', WHERE WHAT IT READS IS OF BULK AT MOST 1048576: true; the input reads as it did. -/
def fnDecompressUptoRow : OpenClaim := { program := "ytnkkkgpdfhgmgaa", sum := "3c977f58c4dd5b117c8fe90bcf945c28a8202bcbab02ad3adc67aed6b187d58f", func := "loop.example/pub-g03234/laws.FnDecompress", spec := "fnDecompress", apart := false, narrowed := true }
def FnDecompressUptoSaid : Prop := fnDecompressUptoRow.holds Try.pinned (OpenSpec.upto fnDecompressSpec)

/-- 'laws.FnFieldAddMul', WHERE WHAT IT READS IS OF BULK AT MOST 1048576: true; the input reads as it did. -/
def fnFieldAddMulUptoRow : OpenClaim := { program := "ytnkkkgpdfhgmgaa", sum := "3c977f58c4dd5b117c8fe90bcf945c28a8202bcbab02ad3adc67aed6b187d58f", func := "loop.example/pub-g03234/laws.FnFieldAddMul", spec := "fnFieldAddMul", apart := false, narrowed := true }
def FnFieldAddMulUptoSaid : Prop := fnFieldAddMulUptoRow.holds Try.pinned (OpenSpec.upto fnFieldAddMulSpec)

/-- 'laws.FnCompress', WHERE WHAT IT READS IS OF BULK AT MOST 1048576: true; the input reads as it did. -/
def fnCompressUptoRow : OpenClaim := { program := "ytnkkkgpdfhgmgaa", sum := "3c977f58c4dd5b117c8fe90bcf945c28a8202bcbab02ad3adc67aed6b187d58f", func := "loop.example/pub-g03234/laws.FnCompress", spec := "fnCompress", apart := false, narrowed := true }
def FnCompressUptoSaid : Prop := fnCompressUptoRow.holds Try.pinned (OpenSpec.upto fnCompressSpec)

/-- 'laws.FnCompressBack', WHERE WHAT IT READS IS OF BULK AT MOST 1048576: true; the input reads as it did. -/
def fnCompressBackUptoRow : OpenClaim := { program := "ytnkkkgpdfhgmgaa", sum := "3c977f58c4dd5b117c8fe90bcf945c28a8202bcbab02ad3adc67aed6b187d58f", func := "loop.example/pub-g03234/laws.FnCompressBack", spec := "fnCompressBack", apart := false, narrowed := true }
def FnCompressBackUptoSaid : Prop := fnCompressBackUptoRow.holds Try.pinned (OpenSpec.upto fnCompressBackSpec)

/-- 'laws.FnCompressNear', WHERE WHAT IT READS IS OF BULK AT MOST 1048576: true; the input reads as it did. -/
def fnCompressNearUptoRow : OpenClaim := { program := "ytnkkkgpdfhgmgaa", sum := "3c977f58c4dd5b117c8fe90bcf945c28a8202bcbab02ad3adc67aed6b187d58f", func := "loop.example/pub-g03234/laws.FnCompressNear", spec := "fnCompressNear", apart := false, narrowed := true }
def FnCompressNearUptoSaid : Prop := fnCompressNearUptoRow.holds Try.pinned (OpenSpec.upto fnCompressNearSpec)

end Rows
end Go.Proofs.Ytnkkkgpdfhgmgaa
