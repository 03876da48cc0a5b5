/-
  NARROWER THAN 'FOR EVERY INPUT', by the rows' own cells (each row's printed sentence says how): FnNTTMul: laid · FnToNTT: laid · FnFromNTT: laid · FnNTTLinear: laid · FnNTTBack: laid · FnNTTProduct: laid.
  DERIVED. THE GIVEN ROWS OF THIS SEAT. 6 by the template 'for every input the law returns true; each argument reads behind the call as it read before'; 0 by the template 'total and deterministic' (their statements: YtcglkelhklihgaaDoorTotals.lean).
  GIVEN WITH THE SEED: the statements are not yours to turn. If you find one false, say at which input.
  Laid BY PROGRAM, IN A SANDBOX (cutbox-rows.mjs): the forced cells as the released guide's own fill.sh prints them over the translation 9dbc1a740b67623e… (all of the seat's roots in one cut). By AI agents, Wed Nov 11 2026. No macro, syntax, notation, axiom, sorry.
-/
import Derived.Test.YtcglkelhklihgaaDoorChecked
import GoSem.Claim
import GoSem.ClaimJoined
import GoSem.ClaimMapViews
import Derived.JoinedTies
import Derived.KernelRfl
namespace Go.Proofs.YtcglkelhklihgaaDoor
/- THE CELL 'sum', in the pinned program and in every row, IS THE sha256 OF THE DUMP (.gsa) THAT YtcglkelhklihgaaDoorProg.lean LOADS. Nothing in Lean hashes anything: it is a label: what it is worth is what the hold of that sum in a sandbox is worth. -/
noncomputable def Tryd.pinned : Pinned := { name := "ytcglkelhklihgaadoor", sum := "9dbc1a740b67623e7f6f945888e76a8b70520e77989fd2068d198d705ee9c093", checked := Tryd.checked }
namespace Rows
def none {H : Type} : Left H := { results := [], args := [] }

/- WHAT THE LISTED PACKAGE-LEVEL VARIABLES READ AS WHEN THE CALL BEGINS. Each datum BY PROGRAM (the guide's laid-datum.mjs) off the statement by which the dump's own 'gosem.cut.vars' lays the variable. In a bare row this is a premise. The card (YtcglkelhklihgaaDoorCards.lean) ties it to the program's text. -/
def laid_loop_example_pub_g03234_pub_mlkem_gammas {H : Type} : DataW H := .agg [.lit (.int .u16 17), .lit (.int .u16 3312), .lit (.int .u16 2761), .lit (.int .u16 568), .lit (.int .u16 583), .lit (.int .u16 2746), .lit (.int .u16 2649), .lit (.int .u16 680), .lit (.int .u16 1637), .lit (.int .u16 1692), .lit (.int .u16 723), .lit (.int .u16 2606), .lit (.int .u16 2288), .lit (.int .u16 1041), .lit (.int .u16 1100), .lit (.int .u16 2229), .lit (.int .u16 1409), .lit (.int .u16 1920), .lit (.int .u16 2662), .lit (.int .u16 667), .lit (.int .u16 3281), .lit (.int .u16 48), .lit (.int .u16 233), .lit (.int .u16 3096), .lit (.int .u16 756), .lit (.int .u16 2573), .lit (.int .u16 2156), .lit (.int .u16 1173), .lit (.int .u16 3015), .lit (.int .u16 314), .lit (.int .u16 3050), .lit (.int .u16 279), .lit (.int .u16 1703), .lit (.int .u16 1626), .lit (.int .u16 1651), .lit (.int .u16 1678), .lit (.int .u16 2789), .lit (.int .u16 540), .lit (.int .u16 1789), .lit (.int .u16 1540), .lit (.int .u16 1847), .lit (.int .u16 1482), .lit (.int .u16 952), .lit (.int .u16 2377), .lit (.int .u16 1461), .lit (.int .u16 1868), .lit (.int .u16 2687), .lit (.int .u16 642), .lit (.int .u16 939), .lit (.int .u16 2390), .lit (.int .u16 2308), .lit (.int .u16 1021), .lit (.int .u16 2437), .lit (.int .u16 892), .lit (.int .u16 2388), .lit (.int .u16 941), .lit (.int .u16 733), .lit (.int .u16 2596), .lit (.int .u16 2337), .lit (.int .u16 992), .lit (.int .u16 268), .lit (.int .u16 3061), .lit (.int .u16 641), .lit (.int .u16 2688), .lit (.int .u16 1584), .lit (.int .u16 1745), .lit (.int .u16 2298), .lit (.int .u16 1031), .lit (.int .u16 2037), .lit (.int .u16 1292), .lit (.int .u16 3220), .lit (.int .u16 109), .lit (.int .u16 375), .lit (.int .u16 2954), .lit (.int .u16 2549), .lit (.int .u16 780), .lit (.int .u16 2090), .lit (.int .u16 1239), .lit (.int .u16 1645), .lit (.int .u16 1684), .lit (.int .u16 1063), .lit (.int .u16 2266), .lit (.int .u16 319), .lit (.int .u16 3010), .lit (.int .u16 2773), .lit (.int .u16 556), .lit (.int .u16 757), .lit (.int .u16 2572), .lit (.int .u16 2099), .lit (.int .u16 1230), .lit (.int .u16 561), .lit (.int .u16 2768), .lit (.int .u16 2466), .lit (.int .u16 863), .lit (.int .u16 2594), .lit (.int .u16 735), .lit (.int .u16 2804), .lit (.int .u16 525), .lit (.int .u16 1092), .lit (.int .u16 2237), .lit (.int .u16 403), .lit (.int .u16 2926), .lit (.int .u16 1026), .lit (.int .u16 2303), .lit (.int .u16 1143), .lit (.int .u16 2186), .lit (.int .u16 2150), .lit (.int .u16 1179), .lit (.int .u16 2775), .lit (.int .u16 554), .lit (.int .u16 886), .lit (.int .u16 2443), .lit (.int .u16 1722), .lit (.int .u16 1607), .lit (.int .u16 1212), .lit (.int .u16 2117), .lit (.int .u16 1874), .lit (.int .u16 1455), .lit (.int .u16 1029), .lit (.int .u16 2300), .lit (.int .u16 2110), .lit (.int .u16 1219), .lit (.int .u16 2935), .lit (.int .u16 394), .lit (.int .u16 885), .lit (.int .u16 2444), .lit (.int .u16 2154), .lit (.int .u16 1175)]
def laid_loop_example_pub_g03234_pub_mlkem_zetas {H : Type} : DataW H := .agg [.lit (.int .u16 1), .lit (.int .u16 1729), .lit (.int .u16 2580), .lit (.int .u16 3289), .lit (.int .u16 2642), .lit (.int .u16 630), .lit (.int .u16 1897), .lit (.int .u16 848), .lit (.int .u16 1062), .lit (.int .u16 1919), .lit (.int .u16 193), .lit (.int .u16 797), .lit (.int .u16 2786), .lit (.int .u16 3260), .lit (.int .u16 569), .lit (.int .u16 1746), .lit (.int .u16 296), .lit (.int .u16 2447), .lit (.int .u16 1339), .lit (.int .u16 1476), .lit (.int .u16 3046), .lit (.int .u16 56), .lit (.int .u16 2240), .lit (.int .u16 1333), .lit (.int .u16 1426), .lit (.int .u16 2094), .lit (.int .u16 535), .lit (.int .u16 2882), .lit (.int .u16 2393), .lit (.int .u16 2879), .lit (.int .u16 1974), .lit (.int .u16 821), .lit (.int .u16 289), .lit (.int .u16 331), .lit (.int .u16 3253), .lit (.int .u16 1756), .lit (.int .u16 1197), .lit (.int .u16 2304), .lit (.int .u16 2277), .lit (.int .u16 2055), .lit (.int .u16 650), .lit (.int .u16 1977), .lit (.int .u16 2513), .lit (.int .u16 632), .lit (.int .u16 2865), .lit (.int .u16 33), .lit (.int .u16 1320), .lit (.int .u16 1915), .lit (.int .u16 2319), .lit (.int .u16 1435), .lit (.int .u16 807), .lit (.int .u16 452), .lit (.int .u16 1438), .lit (.int .u16 2868), .lit (.int .u16 1534), .lit (.int .u16 2402), .lit (.int .u16 2647), .lit (.int .u16 2617), .lit (.int .u16 1481), .lit (.int .u16 648), .lit (.int .u16 2474), .lit (.int .u16 3110), .lit (.int .u16 1227), .lit (.int .u16 910), .lit (.int .u16 17), .lit (.int .u16 2761), .lit (.int .u16 583), .lit (.int .u16 2649), .lit (.int .u16 1637), .lit (.int .u16 723), .lit (.int .u16 2288), .lit (.int .u16 1100), .lit (.int .u16 1409), .lit (.int .u16 2662), .lit (.int .u16 3281), .lit (.int .u16 233), .lit (.int .u16 756), .lit (.int .u16 2156), .lit (.int .u16 3015), .lit (.int .u16 3050), .lit (.int .u16 1703), .lit (.int .u16 1651), .lit (.int .u16 2789), .lit (.int .u16 1789), .lit (.int .u16 1847), .lit (.int .u16 952), .lit (.int .u16 1461), .lit (.int .u16 2687), .lit (.int .u16 939), .lit (.int .u16 2308), .lit (.int .u16 2437), .lit (.int .u16 2388), .lit (.int .u16 733), .lit (.int .u16 2337), .lit (.int .u16 268), .lit (.int .u16 641), .lit (.int .u16 1584), .lit (.int .u16 2298), .lit (.int .u16 2037), .lit (.int .u16 3220), .lit (.int .u16 375), .lit (.int .u16 2549), .lit (.int .u16 2090), .lit (.int .u16 1645), .lit (.int .u16 1063), .lit (.int .u16 319), .lit (.int .u16 2773), .lit (.int .u16 757), .lit (.int .u16 2099), .lit (.int .u16 561), .lit (.int .u16 2466), .lit (.int .u16 2594), .lit (.int .u16 2804), .lit (.int .u16 1092), .lit (.int .u16 403), .lit (.int .u16 1026), .lit (.int .u16 1143), .lit (.int .u16 2150), .lit (.int .u16 2775), .lit (.int .u16 886), .lit (.int .u16 1722), .lit (.int .u16 1212), .lit (.int .u16 1874), .lit (.int .u16 1029), .lit (.int .u16 2110), .lit (.int .u16 2935), .lit (.int .u16 885), .lit (.int .u16 2154)]

/-- 'laws.FnNTTMul': WHATEVER THE INPUT: true; the input reads as it did. -/
def fnNTTMulSpec : ChangeSpec := { name := "fnNTTMul", vars := ["loop.example/pub-g03234/pub/mlkem.gammas"], fn := fun _ => fun
  | [d1, d2, g1] => { results := [.lit (.bool true)], args := [d1, d2], vars := [g1] }
  | _ => none }
def fnNTTMulRow : OpenClaim := { program := "ytcglkelhklihgaadoor", sum := "9dbc1a740b67623e7f6f945888e76a8b70520e77989fd2068d198d705ee9c093", func := "loop.example/pub-g03234/laws.FnNTTMul", spec := "fnNTTMul", named := ["loop.example/pub-g03234/pub/mlkem.gammas"], apart := false, laid := [("loop.example/pub-g03234/pub/mlkem.gammas", laid_loop_example_pub_g03234_pub_mlkem_gammas)] }
def FnNTTMulSaid : Prop := fnNTTMulRow.holds Tryd.pinned (OpenSpec.ofChange fnNTTMulSpec)

/-- ITS FALSE NEIGHBOUR: 'it returns false'. Refute it at one input. -/
def fnNTTMulWrong : ChangeSpec := { name := "fnNTTMul", vars := ["loop.example/pub-g03234/pub/mlkem.gammas"], fn := fun _ => fun
  | [d1, d2, g1] => { results := [.lit (.bool false)], args := [d1, d2], vars := [g1] }
  | _ => none }
def FnNTTMulWrongFalsely : Prop := fnNTTMulRow.holds Tryd.pinned (OpenSpec.ofChange fnNTTMulWrong)

/-- 'laws.FnToNTT': WHATEVER THE INPUT: true; the input reads as it did. -/
def fnToNTTSpec : ChangeSpec := { name := "fnToNTT", vars := ["loop.example/pub-g03234/pub/mlkem.zetas"], fn := fun _ => fun
  | [d, g1] => { results := [.lit (.bool true)], args := [d], vars := [g1] }
  | _ => none }
def fnToNTTRow : OpenClaim := { program := "ytcglkelhklihgaadoor", sum := "9dbc1a740b67623e7f6f945888e76a8b70520e77989fd2068d198d705ee9c093", func := "loop.example/pub-g03234/laws.FnToNTT", spec := "fnToNTT", named := ["loop.example/pub-g03234/pub/mlkem.zetas"], apart := false, laid := [("loop.example/pub-g03234/pub/mlkem.zetas", laid_loop_example_pub_g03234_pub_mlkem_zetas)] }
def FnToNTTSaid : Prop := fnToNTTRow.holds Tryd.pinned (OpenSpec.ofChange fnToNTTSpec)

/-- ITS FALSE NEIGHBOUR: 'it returns false'. Refute it at one input. -/
def fnToNTTWrong : ChangeSpec := { name := "fnToNTT", vars := ["loop.example/pub-g03234/pub/mlkem.zetas"], fn := fun _ => fun
  | [d, g1] => { results := [.lit (.bool false)], args := [d], vars := [g1] }
  | _ => none }
def FnToNTTWrongFalsely : Prop := fnToNTTRow.holds Tryd.pinned (OpenSpec.ofChange fnToNTTWrong)

/-- 'laws.FnFromNTT': WHATEVER THE INPUT: true; the input reads as it did. -/
def fnFromNTTSpec : ChangeSpec := { name := "fnFromNTT", vars := ["loop.example/pub-g03234/pub/mlkem.zetas"], fn := fun _ => fun
  | [d, g1] => { results := [.lit (.bool true)], args := [d], vars := [g1] }
  | _ => none }
def fnFromNTTRow : OpenClaim := { program := "ytcglkelhklihgaadoor", sum := "9dbc1a740b67623e7f6f945888e76a8b70520e77989fd2068d198d705ee9c093", func := "loop.example/pub-g03234/laws.FnFromNTT", spec := "fnFromNTT", named := ["loop.example/pub-g03234/pub/mlkem.zetas"], apart := false, laid := [("loop.example/pub-g03234/pub/mlkem.zetas", laid_loop_example_pub_g03234_pub_mlkem_zetas)] }
def FnFromNTTSaid : Prop := fnFromNTTRow.holds Tryd.pinned (OpenSpec.ofChange fnFromNTTSpec)

/-- ITS FALSE NEIGHBOUR: 'it returns false'. Refute it at one input. -/
def fnFromNTTWrong : ChangeSpec := { name := "fnFromNTT", vars := ["loop.example/pub-g03234/pub/mlkem.zetas"], fn := fun _ => fun
  | [d, g1] => { results := [.lit (.bool false)], args := [d], vars := [g1] }
  | _ => none }
def FnFromNTTWrongFalsely : Prop := fnFromNTTRow.holds Tryd.pinned (OpenSpec.ofChange fnFromNTTWrong)

/-- 'laws.FnNTTLinear': WHATEVER THE INPUT: true; the input reads as it did. -/
def fnNTTLinearSpec : ChangeSpec := { name := "fnNTTLinear", vars := ["loop.example/pub-g03234/pub/mlkem.zetas"], fn := fun _ => fun
  | [d1, d2, g1] => { results := [.lit (.bool true)], args := [d1, d2], vars := [g1] }
  | _ => none }
def fnNTTLinearRow : OpenClaim := { program := "ytcglkelhklihgaadoor", sum := "9dbc1a740b67623e7f6f945888e76a8b70520e77989fd2068d198d705ee9c093", func := "loop.example/pub-g03234/laws.FnNTTLinear", spec := "fnNTTLinear", named := ["loop.example/pub-g03234/pub/mlkem.zetas"], apart := false, laid := [("loop.example/pub-g03234/pub/mlkem.zetas", laid_loop_example_pub_g03234_pub_mlkem_zetas)] }
def FnNTTLinearSaid : Prop := fnNTTLinearRow.holds Tryd.pinned (OpenSpec.ofChange fnNTTLinearSpec)

/-- ITS FALSE NEIGHBOUR: 'it returns false'. Refute it at one input. -/
def fnNTTLinearWrong : ChangeSpec := { name := "fnNTTLinear", vars := ["loop.example/pub-g03234/pub/mlkem.zetas"], fn := fun _ => fun
  | [d1, d2, g1] => { results := [.lit (.bool false)], args := [d1, d2], vars := [g1] }
  | _ => none }
def FnNTTLinearWrongFalsely : Prop := fnNTTLinearRow.holds Tryd.pinned (OpenSpec.ofChange fnNTTLinearWrong)

/-- 'laws.FnNTTBack': WHATEVER THE INPUT: true; the input reads as it did. -/
def fnNTTBackSpec : ChangeSpec := { name := "fnNTTBack", vars := ["loop.example/pub-g03234/pub/mlkem.zetas"], fn := fun _ => fun
  | [d, g1] => { results := [.lit (.bool true)], args := [d], vars := [g1] }
  | _ => none }
def fnNTTBackRow : OpenClaim := { program := "ytcglkelhklihgaadoor", sum := "9dbc1a740b67623e7f6f945888e76a8b70520e77989fd2068d198d705ee9c093", func := "loop.example/pub-g03234/laws.FnNTTBack", spec := "fnNTTBack", named := ["loop.example/pub-g03234/pub/mlkem.zetas"], apart := false, laid := [("loop.example/pub-g03234/pub/mlkem.zetas", laid_loop_example_pub_g03234_pub_mlkem_zetas)] }
def FnNTTBackSaid : Prop := fnNTTBackRow.holds Tryd.pinned (OpenSpec.ofChange fnNTTBackSpec)

/-- ITS FALSE NEIGHBOUR: 'it returns false'. Refute it at one input. -/
def fnNTTBackWrong : ChangeSpec := { name := "fnNTTBack", vars := ["loop.example/pub-g03234/pub/mlkem.zetas"], fn := fun _ => fun
  | [d, g1] => { results := [.lit (.bool false)], args := [d], vars := [g1] }
  | _ => none }
def FnNTTBackWrongFalsely : Prop := fnNTTBackRow.holds Tryd.pinned (OpenSpec.ofChange fnNTTBackWrong)

/-- 'laws.FnNTTProduct': WHATEVER THE INPUT: true; the input reads as it did. -/
def fnNTTProductSpec : ChangeSpec := { name := "fnNTTProduct", vars := ["loop.example/pub-g03234/pub/mlkem.zetas", "loop.example/pub-g03234/pub/mlkem.gammas"], fn := fun _ => fun
  | [d1, d2, g1, g2] => { results := [.lit (.bool true)], args := [d1, d2], vars := [g1, g2] }
  | _ => none }
def fnNTTProductRow : OpenClaim := { program := "ytcglkelhklihgaadoor", sum := "9dbc1a740b67623e7f6f945888e76a8b70520e77989fd2068d198d705ee9c093", func := "loop.example/pub-g03234/laws.FnNTTProduct", spec := "fnNTTProduct", named := ["loop.example/pub-g03234/pub/mlkem.zetas", "loop.example/pub-g03234/pub/mlkem.gammas"], apart := false, laid := [("loop.example/pub-g03234/pub/mlkem.gammas", laid_loop_example_pub_g03234_pub_mlkem_gammas), ("loop.example/pub-g03234/pub/mlkem.zetas", laid_loop_example_pub_g03234_pub_mlkem_zetas)] }
def FnNTTProductSaid : Prop := fnNTTProductRow.holds Tryd.pinned (OpenSpec.ofChange fnNTTProductSpec)

/-- ITS FALSE NEIGHBOUR: 'it returns false'. Refute it at one input. -/
def fnNTTProductWrong : ChangeSpec := { name := "fnNTTProduct", vars := ["loop.example/pub-g03234/pub/mlkem.zetas", "loop.example/pub-g03234/pub/mlkem.gammas"], fn := fun _ => fun
  | [d1, d2, g1, g2] => { results := [.lit (.bool false)], args := [d1, d2], vars := [g1, g2] }
  | _ => none }
def FnNTTProductWrongFalsely : Prop := fnNTTProductRow.holds Tryd.pinned (OpenSpec.ofChange fnNTTProductWrong)

/- THE SECOND FORM. 'bulk': how many values and letters a reading holds, each counted each time it is reached (what is shared counts as often as it is met; a slice's spare places count too). A statement '..UptoSaid' is the law's where the arguments, and the package variables that the reading takes, are together of bulk at most 1048576: NARROWER than '..Said'. Prove '..Said' where nothing that the law and all that it calls make is longer than what came in: it says more and counts as full. Else prove '..UptoSaid'. A law counts once. -/
mutual
def uptoBulk {H : Type} : DataW H → Nat
  | .lit (.string bytes) => bytes.length + 1
  | .lit _ => 1
  | .nil => 1
  | .ptr d => uptoBulk d + 1
  | .slice elems spare => uptoBulkAll elems + uptoBulkAll spare + 1
  | .agg parts => uptoBulkAll parts + 1
  | .iface _ d => uptoBulk d + 1
  | .map entries => uptoBulkEntries entries + 1
  | .held _ => 1
def uptoBulkAll {H : Type} : List (DataW H) → Nat
  | [] => 0
  | d :: r => uptoBulk d + uptoBulkAll r
def uptoBulkEntries {H : Type} : List (Lit × DataW H) → Nat
  | [] => 0
  | x :: r => uptoBulkEntry x + uptoBulkEntries r
def uptoBulkEntry {H : Type} : Lit × DataW H → Nat
  | (.string bytes, d) => bytes.length + uptoBulk d + 1
  | (_, d) => uptoBulk d + 1
 end
def uptoSmall : (H : Type) → List (DataW H) → Bool := fun _ ds => decide (uptoBulkAll ds ≤ 1048576)
def OpenSpec.upto (s : _root_.Go.ChangeSpec) : _root_.Go.OpenSpec := { _root_.Go.OpenSpec.ofChange s with cond := some uptoSmall }

/-- 'laws.FnNTTMul', WHERE WHAT IT READS IS OF BULK AT MOST 1048576: true; the input reads as it did. -/
def fnNTTMulUptoRow : OpenClaim := { program := "ytcglkelhklihgaadoor", sum := "9dbc1a740b67623e7f6f945888e76a8b70520e77989fd2068d198d705ee9c093", func := "loop.example/pub-g03234/laws.FnNTTMul", spec := "fnNTTMul", named := ["loop.example/pub-g03234/pub/mlkem.gammas"], apart := false, laid := [("loop.example/pub-g03234/pub/mlkem.gammas", laid_loop_example_pub_g03234_pub_mlkem_gammas)], narrowed := true }
def FnNTTMulUptoSaid : Prop := fnNTTMulUptoRow.holds Tryd.pinned (OpenSpec.upto fnNTTMulSpec)

/-- 'laws.FnToNTT', WHERE WHAT IT READS IS OF BULK AT MOST 1048576: true; the input reads as it did. -/
def fnToNTTUptoRow : OpenClaim := { program := "ytcglkelhklihgaadoor", sum := "9dbc1a740b67623e7f6f945888e76a8b70520e77989fd2068d198d705ee9c093", func := "loop.example/pub-g03234/laws.FnToNTT", spec := "fnToNTT", named := ["loop.example/pub-g03234/pub/mlkem.zetas"], apart := false, laid := [("loop.example/pub-g03234/pub/mlkem.zetas", laid_loop_example_pub_g03234_pub_mlkem_zetas)], narrowed := true }
def FnToNTTUptoSaid : Prop := fnToNTTUptoRow.holds Tryd.pinned (OpenSpec.upto fnToNTTSpec)

/-- 'laws.FnFromNTT', WHERE WHAT IT READS IS OF BULK AT MOST 1048576: true; the input reads as it did. -/
def fnFromNTTUptoRow : OpenClaim := { program := "ytcglkelhklihgaadoor", sum := "9dbc1a740b67623e7f6f945888e76a8b70520e77989fd2068d198d705ee9c093", func := "loop.example/pub-g03234/laws.FnFromNTT", spec := "fnFromNTT", named := ["loop.example/pub-g03234/pub/mlkem.zetas"], apart := false, laid := [("loop.example/pub-g03234/pub/mlkem.zetas", laid_loop_example_pub_g03234_pub_mlkem_zetas)], narrowed := true }
def FnFromNTTUptoSaid : Prop := fnFromNTTUptoRow.holds Tryd.pinned (OpenSpec.upto fnFromNTTSpec)

/-- 'laws.FnNTTLinear', WHERE WHAT IT READS IS OF BULK AT MOST 1048576: true; the input reads as it did. -/
def fnNTTLinearUptoRow : OpenClaim := { program := "ytcglkelhklihgaadoor", sum := "9dbc1a740b67623e7f6f945888e76a8b70520e77989fd2068d198d705ee9c093", func := "loop.example/pub-g03234/laws.FnNTTLinear", spec := "fnNTTLinear", named := ["loop.example/pub-g03234/pub/mlkem.zetas"], apart := false, laid := [("loop.example/pub-g03234/pub/mlkem.zetas", laid_loop_example_pub_g03234_pub_mlkem_zetas)], narrowed := true }
def FnNTTLinearUptoSaid : Prop := fnNTTLinearUptoRow.holds Tryd.pinned (OpenSpec.upto fnNTTLinearSpec)

/-- 'laws.FnNTTBack', WHERE WHAT IT READS IS OF BULK AT MOST 1048576: true; the input reads as it did. -/
def fnNTTBackUptoRow : OpenClaim := { program := "ytcglkelhklihgaadoor", sum := "9dbc1a740b67623e7f6f945888e76a8b70520e77989fd2068d198d705ee9c093", func := "loop.example/pub-g03234/laws.FnNTTBack", spec := "fnNTTBack", named := ["loop.example/pub-g03234/pub/mlkem.zetas"], apart := false, laid := [("loop.example/pub-g03234/pub/mlkem.zetas", laid_loop_example_pub_g03234_pub_mlkem_zetas)], narrowed := true }
def FnNTTBackUptoSaid : Prop := fnNTTBackUptoRow.holds Tryd.pinned (OpenSpec.upto fnNTTBackSpec)

/-- 'laws.FnNTTProduct', WHERE WHAT IT READS IS OF BULK AT MOST 1048576: true; the input reads as it did. -/
def fnNTTProductUptoRow : OpenClaim := { program := "ytcglkelhklihgaadoor", sum := "9dbc1a740b67623e7f6f945888e76a8b70520e77989fd2068d198d705ee9c093", func := "loop.example/pub-g03234/laws.FnNTTProduct", spec := "fnNTTProduct", named := ["loop.example/pub-g03234/pub/mlkem.zetas", "loop.example/pub-g03234/pub/mlkem.gammas"], apart := false, laid := [("loop.example/pub-g03234/pub/mlkem.gammas", laid_loop_example_pub_g03234_pub_mlkem_gammas), ("loop.example/pub-g03234/pub/mlkem.zetas", laid_loop_example_pub_g03234_pub_mlkem_zetas)], narrowed := true }
def FnNTTProductUptoSaid : Prop := fnNTTProductUptoRow.holds Tryd.pinned (OpenSpec.upto fnNTTProductSpec)

end Rows
end Go.Proofs.YtcglkelhklihgaaDoor
