/-
  NARROWER THAN 'FOR EVERY INPUT', by the rows' own cells (each row's printed sentence says how): FnPathInverse: laid · FnQueryInverse: laid · FnOtherRoad: laid · FnExactPathUnescape: laid · FnExactQueryUnescape: laid · FnPathCut: laid · FnQueryCut: laid.
  DERIVED. THE GIVEN ROWS OF THIS SEAT. 7 by the template 'for every input the law returns true; each argument reads behind the call as it read before'; 0 by the template 'total and deterministic' (their statements: YtckdlmbdgjcncaaDoorTotals.lean).
  GIVEN WITH THE SEED: the statements are not yours to turn. If you find one false, say at which input.
  Laid BY PROGRAM, IN A SANDBOX (cutbox-rows.mjs): the forced cells as the released guide's own fill.sh prints them over the translation 6974aea8671cad78… (all of the seat's roots in one cut). By AI agents, Wed Nov 11 2026. No macro, syntax, notation, axiom, sorry.
-/
import Derived.Test.YtckdlmbdgjcncaaDoorChecked
import GoSem.Claim
import GoSem.ClaimJoined
import GoSem.ClaimMapViews
import Derived.JoinedTies
import Derived.KernelRfl
namespace Go.Proofs.YtckdlmbdgjcncaaDoor
/- THE CELL 'sum', in the pinned program and in every row, IS THE sha256 OF THE DUMP (.gsa) THAT YtckdlmbdgjcncaaDoorProg.lean LOADS. Nothing in Lean hashes anything: it is a label: what it is worth is what the hold of that sum in a sandbox is worth. -/
noncomputable def Tryd.pinned : Pinned := { name := "ytckdlmbdgjcncaadoor", sum := "6974aea8671cad78e3272d8f568c759cdcdc93bccc71e0db4526f9446ec0a100", checked := Tryd.checked }
namespace Rows
def none {H : Type} : Left H := { results := [], args := [] }

/- WHAT THE LISTED PACKAGE-LEVEL VARIABLES READ AS WHEN THE CALL BEGINS. Each datum BY PROGRAM (the guide's laid-datum.mjs) off the statement by which the dump's own 'gosem.cut.vars' lays the variable. In a bare row this is a premise. The card (YtckdlmbdgjcncaaDoorCards.lean) ties it to the program's text. -/
def laid_net_url_table {H : Type} : DataW H := .agg [.lit (.int .u8 0), .lit (.int .u8 0), .lit (.int .u8 0), .lit (.int .u8 0), .lit (.int .u8 0), .lit (.int .u8 0), .lit (.int .u8 0), .lit (.int .u8 0), .lit (.int .u8 0), .lit (.int .u8 0), .lit (.int .u8 0), .lit (.int .u8 0), .lit (.int .u8 0), .lit (.int .u8 0), .lit (.int .u8 0), .lit (.int .u8 0), .lit (.int .u8 0), .lit (.int .u8 0), .lit (.int .u8 0), .lit (.int .u8 0), .lit (.int .u8 0), .lit (.int .u8 0), .lit (.int .u8 0), .lit (.int .u8 0), .lit (.int .u8 0), .lit (.int .u8 0), .lit (.int .u8 0), .lit (.int .u8 0), .lit (.int .u8 0), .lit (.int .u8 0), .lit (.int .u8 0), .lit (.int .u8 0), .lit (.int .u8 0), .lit (.int .u8 76), .lit (.int .u8 12), .lit (.int .u8 0), .lit (.int .u8 95), .lit (.int .u8 0), .lit (.int .u8 95), .lit (.int .u8 12), .lit (.int .u8 76), .lit (.int .u8 76), .lit (.int .u8 76), .lit (.int .u8 95), .lit (.int .u8 93), .lit (.int .u8 127), .lit (.int .u8 127), .lit (.int .u8 65), .lit (.int .u8 255), .lit (.int .u8 255), .lit (.int .u8 255), .lit (.int .u8 255), .lit (.int .u8 255), .lit (.int .u8 255), .lit (.int .u8 255), .lit (.int .u8 255), .lit (.int .u8 255), .lit (.int .u8 255), .lit (.int .u8 79), .lit (.int .u8 93), .lit (.int .u8 12), .lit (.int .u8 95), .lit (.int .u8 12), .lit (.int .u8 64), .lit (.int .u8 67), .lit (.int .u8 255), .lit (.int .u8 255), .lit (.int .u8 255), .lit (.int .u8 255), .lit (.int .u8 255), .lit (.int .u8 255), .lit (.int .u8 127), .lit (.int .u8 127), .lit (.int .u8 127), .lit (.int .u8 127), .lit (.int .u8 127), .lit (.int .u8 127), .lit (.int .u8 127), .lit (.int .u8 127), .lit (.int .u8 127), .lit (.int .u8 127), .lit (.int .u8 127), .lit (.int .u8 127), .lit (.int .u8 127), .lit (.int .u8 127), .lit (.int .u8 127), .lit (.int .u8 127), .lit (.int .u8 127), .lit (.int .u8 127), .lit (.int .u8 127), .lit (.int .u8 127), .lit (.int .u8 12), .lit (.int .u8 0), .lit (.int .u8 12), .lit (.int .u8 0), .lit (.int .u8 127), .lit (.int .u8 0), .lit (.int .u8 255), .lit (.int .u8 255), .lit (.int .u8 255), .lit (.int .u8 255), .lit (.int .u8 255), .lit (.int .u8 255), .lit (.int .u8 127), .lit (.int .u8 127), .lit (.int .u8 127), .lit (.int .u8 127), .lit (.int .u8 127), .lit (.int .u8 127), .lit (.int .u8 127), .lit (.int .u8 127), .lit (.int .u8 127), .lit (.int .u8 127), .lit (.int .u8 127), .lit (.int .u8 127), .lit (.int .u8 127), .lit (.int .u8 127), .lit (.int .u8 127), .lit (.int .u8 127), .lit (.int .u8 127), .lit (.int .u8 127), .lit (.int .u8 127), .lit (.int .u8 127), .lit (.int .u8 0), .lit (.int .u8 0), .lit (.int .u8 0), .lit (.int .u8 127), .lit (.int .u8 0), .lit (.int .u8 0), .lit (.int .u8 0), .lit (.int .u8 0), .lit (.int .u8 0), .lit (.int .u8 0), .lit (.int .u8 0), .lit (.int .u8 0), .lit (.int .u8 0), .lit (.int .u8 0), .lit (.int .u8 0), .lit (.int .u8 0), .lit (.int .u8 0), .lit (.int .u8 0), .lit (.int .u8 0), .lit (.int .u8 0), .lit (.int .u8 0), .lit (.int .u8 0), .lit (.int .u8 0), .lit (.int .u8 0), .lit (.int .u8 0), .lit (.int .u8 0), .lit (.int .u8 0), .lit (.int .u8 0), .lit (.int .u8 0), .lit (.int .u8 0), .lit (.int .u8 0), .lit (.int .u8 0), .lit (.int .u8 0), .lit (.int .u8 0), .lit (.int .u8 0), .lit (.int .u8 0), .lit (.int .u8 0), .lit (.int .u8 0), .lit (.int .u8 0), .lit (.int .u8 0), .lit (.int .u8 0), .lit (.int .u8 0), .lit (.int .u8 0), .lit (.int .u8 0), .lit (.int .u8 0), .lit (.int .u8 0), .lit (.int .u8 0), .lit (.int .u8 0), .lit (.int .u8 0), .lit (.int .u8 0), .lit (.int .u8 0), .lit (.int .u8 0), .lit (.int .u8 0), .lit (.int .u8 0), .lit (.int .u8 0), .lit (.int .u8 0), .lit (.int .u8 0), .lit (.int .u8 0), .lit (.int .u8 0), .lit (.int .u8 0), .lit (.int .u8 0), .lit (.int .u8 0), .lit (.int .u8 0), .lit (.int .u8 0), .lit (.int .u8 0), .lit (.int .u8 0), .lit (.int .u8 0), .lit (.int .u8 0), .lit (.int .u8 0), .lit (.int .u8 0), .lit (.int .u8 0), .lit (.int .u8 0), .lit (.int .u8 0), .lit (.int .u8 0), .lit (.int .u8 0), .lit (.int .u8 0), .lit (.int .u8 0), .lit (.int .u8 0), .lit (.int .u8 0), .lit (.int .u8 0), .lit (.int .u8 0), .lit (.int .u8 0), .lit (.int .u8 0), .lit (.int .u8 0), .lit (.int .u8 0), .lit (.int .u8 0), .lit (.int .u8 0), .lit (.int .u8 0), .lit (.int .u8 0), .lit (.int .u8 0), .lit (.int .u8 0), .lit (.int .u8 0), .lit (.int .u8 0), .lit (.int .u8 0), .lit (.int .u8 0), .lit (.int .u8 0), .lit (.int .u8 0), .lit (.int .u8 0), .lit (.int .u8 0), .lit (.int .u8 0), .lit (.int .u8 0), .lit (.int .u8 0), .lit (.int .u8 0), .lit (.int .u8 0), .lit (.int .u8 0), .lit (.int .u8 0), .lit (.int .u8 0), .lit (.int .u8 0), .lit (.int .u8 0), .lit (.int .u8 0), .lit (.int .u8 0), .lit (.int .u8 0), .lit (.int .u8 0), .lit (.int .u8 0), .lit (.int .u8 0), .lit (.int .u8 0), .lit (.int .u8 0), .lit (.int .u8 0), .lit (.int .u8 0), .lit (.int .u8 0), .lit (.int .u8 0), .lit (.int .u8 0), .lit (.int .u8 0), .lit (.int .u8 0), .lit (.int .u8 0), .lit (.int .u8 0), .lit (.int .u8 0), .lit (.int .u8 0), .lit (.int .u8 0), .lit (.int .u8 0), .lit (.int .u8 0), .lit (.int .u8 0), .lit (.int .u8 0)]

/-- 'laws.FnPathInverse': WHATEVER THE INPUT: true; the input reads as it did. -/
def fnPathInverseSpec : ChangeSpec := { name := "fnPathInverse", fn := fun _ => fun
  | [d] => { results := [.lit (.bool true)], args := [d] }
  | _ => none }
def fnPathInverseRow : OpenClaim := { program := "ytckdlmbdgjcncaadoor", sum := "6974aea8671cad78e3272d8f568c759cdcdc93bccc71e0db4526f9446ec0a100", func := "loop.example/lib-g03409/laws.FnPathInverse", spec := "fnPathInverse", inPlace := ["internal/abi.NoEscape", "internal/bytealg.MakeNoZero"], named := ["net/url.table"], apart := false, laid := [("net/url.table", laid_net_url_table)] }
def FnPathInverseSaid : Prop := fnPathInverseRow.holds Tryd.pinned (OpenSpec.ofChange fnPathInverseSpec)

/-- ITS FALSE NEIGHBOUR: 'it returns false'. Refute it at one input. -/
def fnPathInverseWrong : ChangeSpec := { name := "fnPathInverse", fn := fun _ => fun
  | [d] => { results := [.lit (.bool false)], args := [d] }
  | _ => none }
def FnPathInverseWrongFalsely : Prop := fnPathInverseRow.holds Tryd.pinned (OpenSpec.ofChange fnPathInverseWrong)

/-- 'laws.FnQueryInverse': WHATEVER THE INPUT: true; the input reads as it did. -/
def fnQueryInverseSpec : ChangeSpec := { name := "fnQueryInverse", fn := fun _ => fun
  | [d] => { results := [.lit (.bool true)], args := [d] }
  | _ => none }
def fnQueryInverseRow : OpenClaim := { program := "ytckdlmbdgjcncaadoor", sum := "6974aea8671cad78e3272d8f568c759cdcdc93bccc71e0db4526f9446ec0a100", func := "loop.example/lib-g03409/laws.FnQueryInverse", spec := "fnQueryInverse", inPlace := ["internal/abi.NoEscape", "internal/bytealg.MakeNoZero"], named := ["net/url.table"], apart := false, laid := [("net/url.table", laid_net_url_table)] }
def FnQueryInverseSaid : Prop := fnQueryInverseRow.holds Tryd.pinned (OpenSpec.ofChange fnQueryInverseSpec)

/-- ITS FALSE NEIGHBOUR: 'it returns false'. Refute it at one input. -/
def fnQueryInverseWrong : ChangeSpec := { name := "fnQueryInverse", fn := fun _ => fun
  | [d] => { results := [.lit (.bool false)], args := [d] }
  | _ => none }
def FnQueryInverseWrongFalsely : Prop := fnQueryInverseRow.holds Tryd.pinned (OpenSpec.ofChange fnQueryInverseWrong)

/-- 'laws.FnOtherRoad': WHATEVER THE INPUT: true; the input reads as it did. -/
def fnOtherRoadSpec : ChangeSpec := { name := "fnOtherRoad", fn := fun _ => fun
  | [d] => { results := [.lit (.bool true)], args := [d] }
  | _ => none }
def fnOtherRoadRow : OpenClaim := { program := "ytckdlmbdgjcncaadoor", sum := "6974aea8671cad78e3272d8f568c759cdcdc93bccc71e0db4526f9446ec0a100", func := "loop.example/lib-g03409/laws.FnOtherRoad", spec := "fnOtherRoad", inPlace := ["internal/abi.NoEscape", "internal/bytealg.MakeNoZero"], named := ["net/url.table"], apart := false, laid := [("net/url.table", laid_net_url_table)] }
def FnOtherRoadSaid : Prop := fnOtherRoadRow.holds Tryd.pinned (OpenSpec.ofChange fnOtherRoadSpec)

/-- ITS FALSE NEIGHBOUR: 'it returns false'. Refute it at one input. -/
def fnOtherRoadWrong : ChangeSpec := { name := "fnOtherRoad", fn := fun _ => fun
  | [d] => { results := [.lit (.bool false)], args := [d] }
  | _ => none }
def FnOtherRoadWrongFalsely : Prop := fnOtherRoadRow.holds Tryd.pinned (OpenSpec.ofChange fnOtherRoadWrong)

/-- 'laws.FnExactPathUnescape': WHATEVER THE INPUT: true; the input reads as it did. -/
def fnExactPathUnescapeSpec : ChangeSpec := { name := "fnExactPathUnescape", fn := fun _ => fun
  | [d] => { results := [.lit (.bool true)], args := [d] }
  | _ => none }
def fnExactPathUnescapeRow : OpenClaim := { program := "ytckdlmbdgjcncaadoor", sum := "6974aea8671cad78e3272d8f568c759cdcdc93bccc71e0db4526f9446ec0a100", func := "loop.example/lib-g03409/laws.FnExactPathUnescape", spec := "fnExactPathUnescape", inPlace := ["internal/abi.NoEscape", "internal/bytealg.MakeNoZero"], named := ["net/url.table"], apart := false, laid := [("net/url.table", laid_net_url_table)] }
def FnExactPathUnescapeSaid : Prop := fnExactPathUnescapeRow.holds Tryd.pinned (OpenSpec.ofChange fnExactPathUnescapeSpec)

/-- ITS FALSE NEIGHBOUR: 'it returns false'. Refute it at one input. -/
def fnExactPathUnescapeWrong : ChangeSpec := { name := "fnExactPathUnescape", fn := fun _ => fun
  | [d] => { results := [.lit (.bool false)], args := [d] }
  | _ => none }
def FnExactPathUnescapeWrongFalsely : Prop := fnExactPathUnescapeRow.holds Tryd.pinned (OpenSpec.ofChange fnExactPathUnescapeWrong)

/-- 'laws.FnExactQueryUnescape': WHATEVER THE INPUT: true; the input reads as it did. -/
def fnExactQueryUnescapeSpec : ChangeSpec := { name := "fnExactQueryUnescape", fn := fun _ => fun
  | [d] => { results := [.lit (.bool true)], args := [d] }
  | _ => none }
def fnExactQueryUnescapeRow : OpenClaim := { program := "ytckdlmbdgjcncaadoor", sum := "6974aea8671cad78e3272d8f568c759cdcdc93bccc71e0db4526f9446ec0a100", func := "loop.example/lib-g03409/laws.FnExactQueryUnescape", spec := "fnExactQueryUnescape", inPlace := ["internal/abi.NoEscape", "internal/bytealg.MakeNoZero"], named := ["net/url.table"], apart := false, laid := [("net/url.table", laid_net_url_table)] }
def FnExactQueryUnescapeSaid : Prop := fnExactQueryUnescapeRow.holds Tryd.pinned (OpenSpec.ofChange fnExactQueryUnescapeSpec)

/-- ITS FALSE NEIGHBOUR: 'it returns false'. Refute it at one input. -/
def fnExactQueryUnescapeWrong : ChangeSpec := { name := "fnExactQueryUnescape", fn := fun _ => fun
  | [d] => { results := [.lit (.bool false)], args := [d] }
  | _ => none }
def FnExactQueryUnescapeWrongFalsely : Prop := fnExactQueryUnescapeRow.holds Tryd.pinned (OpenSpec.ofChange fnExactQueryUnescapeWrong)

/-- 'laws.FnPathCut': WHATEVER THE INPUT: true; the input reads as it did. -/
def fnPathCutSpec : ChangeSpec := { name := "fnPathCut", fn := fun _ => fun
  | [d1, d2] => { results := [.lit (.bool true)], args := [d1, d2] }
  | _ => none }
def fnPathCutRow : OpenClaim := { program := "ytckdlmbdgjcncaadoor", sum := "6974aea8671cad78e3272d8f568c759cdcdc93bccc71e0db4526f9446ec0a100", func := "loop.example/lib-g03409/laws.FnPathCut", spec := "fnPathCut", inPlace := ["internal/abi.NoEscape", "internal/bytealg.MakeNoZero"], named := ["net/url.table"], apart := false, laid := [("net/url.table", laid_net_url_table)] }
def FnPathCutSaid : Prop := fnPathCutRow.holds Tryd.pinned (OpenSpec.ofChange fnPathCutSpec)

/-- ITS FALSE NEIGHBOUR: 'it returns false'. Refute it at one input. -/
def fnPathCutWrong : ChangeSpec := { name := "fnPathCut", fn := fun _ => fun
  | [d1, d2] => { results := [.lit (.bool false)], args := [d1, d2] }
  | _ => none }
def FnPathCutWrongFalsely : Prop := fnPathCutRow.holds Tryd.pinned (OpenSpec.ofChange fnPathCutWrong)

/-- 'laws.FnQueryCut': WHATEVER THE INPUT: true; the input reads as it did. -/
def fnQueryCutSpec : ChangeSpec := { name := "fnQueryCut", fn := fun _ => fun
  | [d1, d2] => { results := [.lit (.bool true)], args := [d1, d2] }
  | _ => none }
def fnQueryCutRow : OpenClaim := { program := "ytckdlmbdgjcncaadoor", sum := "6974aea8671cad78e3272d8f568c759cdcdc93bccc71e0db4526f9446ec0a100", func := "loop.example/lib-g03409/laws.FnQueryCut", spec := "fnQueryCut", inPlace := ["internal/abi.NoEscape", "internal/bytealg.MakeNoZero"], named := ["net/url.table"], apart := false, laid := [("net/url.table", laid_net_url_table)] }
def FnQueryCutSaid : Prop := fnQueryCutRow.holds Tryd.pinned (OpenSpec.ofChange fnQueryCutSpec)

/-- ITS FALSE NEIGHBOUR: 'it returns false'. Refute it at one input. -/
def fnQueryCutWrong : ChangeSpec := { name := "fnQueryCut", fn := fun _ => fun
  | [d1, d2] => { results := [.lit (.bool false)], args := [d1, d2] }
  | _ => none }
def FnQueryCutWrongFalsely : Prop := fnQueryCutRow.holds Tryd.pinned (OpenSpec.ofChange fnQueryCutWrong)

/- THE SECOND FORM. 'bulk': how many values and letters a reading holds, each counted each time it is reached (what is shared counts as often as it is met; a slice's spare places count too). A statement '..UptoSaid' is the law's where the arguments, and the package variables that the reading takes, are together of bulk at most 1048576: NARROWER than '..Said'. Prove '..Said' where nothing that the law and all that it calls make is longer than what came in: it says more and counts as full. Else prove '..UptoSaid'. A law counts once. -/
mutual
def uptoBulk {H : Type} : DataW H → Nat
  | .lit (.string bytes) => bytes.length + 1
  | .lit _ => 1
  | .nil => 1
  | .ptr d => uptoBulk d + 1
  | .slice elems spare => uptoBulkAll elems + uptoBulkAll spare + 1
  | .agg parts => uptoBulkAll parts + 1
  | .iface _ d => uptoBulk d + 1
  | .map entries => uptoBulkEntries entries + 1
  | .held _ => 1
def uptoBulkAll {H : Type} : List (DataW H) → Nat
  | [] => 0
  | d :: r => uptoBulk d + uptoBulkAll r
def uptoBulkEntries {H : Type} : List (Lit × DataW H) → Nat
  | [] => 0
  | x :: r => uptoBulkEntry x + uptoBulkEntries r
def uptoBulkEntry {H : Type} : Lit × DataW H → Nat
  | (.string bytes, d) => bytes.length + uptoBulk d + 1
  | (_, d) => uptoBulk d + 1
 end
def uptoSmall : (H : Type) → List (DataW H) → Bool := fun _ ds => decide (uptoBulkAll ds ≤ 1048576)
def OpenSpec.upto (s : _root_.Go.ChangeSpec) : _root_.Go.OpenSpec := { _root_.Go.OpenSpec.ofChange s with cond := some uptoSmall }

/-- 'laws.FnPathInverse', WHERE WHAT IT READS IS OF BULK AT MOST 1048576: true; the input reads as it did. -/
def fnPathInverseUptoRow : OpenClaim := { program := "ytckdlmbdgjcncaadoor", sum := "6974aea8671cad78e3272d8f568c759cdcdc93bccc71e0db4526f9446ec0a100", func := "loop.example/lib-g03409/laws.FnPathInverse", spec := "fnPathInverse", inPlace := ["internal/abi.NoEscape", "internal/bytealg.MakeNoZero"], named := ["net/url.table"], apart := false, laid := [("net/url.table", laid_net_url_table)], narrowed := true }
def FnPathInverseUptoSaid : Prop := fnPathInverseUptoRow.holds Tryd.pinned (OpenSpec.upto fnPathInverseSpec)

/-- 'laws.FnQueryInverse', WHERE WHAT IT READS IS OF BULK AT MOST 1048576: true; the input reads as it did. -/
def fnQueryInverseUptoRow : OpenClaim := { program := "ytckdlmbdgjcncaadoor", sum := "6974aea8671cad78e3272d8f568c759cdcdc93bccc71e0db4526f9446ec0a100", func := "loop.example/lib-g03409/laws.FnQueryInverse", spec := "fnQueryInverse", inPlace := ["internal/abi.NoEscape", "internal/bytealg.MakeNoZero"], named := ["net/url.table"], apart := false, laid := [("net/url.table", laid_net_url_table)], narrowed := true }
def FnQueryInverseUptoSaid : Prop := fnQueryInverseUptoRow.holds Tryd.pinned (OpenSpec.upto fnQueryInverseSpec)

/-- 'laws.FnOtherRoad', WHERE WHAT IT READS IS OF BULK AT MOST 1048576: true; the input reads as it did. -/
def fnOtherRoadUptoRow : OpenClaim := { program := "ytckdlmbdgjcncaadoor", sum := "6974aea8671cad78e3272d8f568c759cdcdc93bccc71e0db4526f9446ec0a100", func := "loop.example/lib-g03409/laws.FnOtherRoad", spec := "fnOtherRoad", inPlace := ["internal/abi.NoEscape", "internal/bytealg.MakeNoZero"], named := ["net/url.table"], apart := false, laid := [("net/url.table", laid_net_url_table)], narrowed := true }
def FnOtherRoadUptoSaid : Prop := fnOtherRoadUptoRow.holds Tryd.pinned (OpenSpec.upto fnOtherRoadSpec)

/-- 'laws.FnExactPathUnescape', WHERE WHAT IT READS IS OF BULK AT MOST 1048576: true; the input reads as it did. -/
def fnExactPathUnescapeUptoRow : OpenClaim := { program := "ytckdlmbdgjcncaadoor", sum := "6974aea8671cad78e3272d8f568c759cdcdc93bccc71e0db4526f9446ec0a100", func := "loop.example/lib-g03409/laws.FnExactPathUnescape", spec := "fnExactPathUnescape", inPlace := ["internal/abi.NoEscape", "internal/bytealg.MakeNoZero"], named := ["net/url.table"], apart := false, laid := [("net/url.table", laid_net_url_table)], narrowed := true }
def FnExactPathUnescapeUptoSaid : Prop := fnExactPathUnescapeUptoRow.holds Tryd.pinned (OpenSpec.upto fnExactPathUnescapeSpec)

/-- 'laws.FnExactQueryUnescape', WHERE WHAT IT READS IS OF BULK AT MOST 1048576: true; the input reads as it did. -/
def fnExactQueryUnescapeUptoRow : OpenClaim := { program := "ytckdlmbdgjcncaadoor", sum := "6974aea8671cad78e3272d8f568c759cdcdc93bccc71e0db4526f9446ec0a100", func := "loop.example/lib-g03409/laws.FnExactQueryUnescape", spec := "fnExactQueryUnescape", inPlace := ["internal/abi.NoEscape", "internal/bytealg.MakeNoZero"], named := ["net/url.table"], apart := false, laid := [("net/url.table", laid_net_url_table)], narrowed := true }
def FnExactQueryUnescapeUptoSaid : Prop := fnExactQueryUnescapeUptoRow.holds Tryd.pinned (OpenSpec.upto fnExactQueryUnescapeSpec)

/-- 'laws.FnPathCut', WHERE WHAT IT READS IS OF BULK AT MOST 1048576: true; the input reads as it did. -/
def fnPathCutUptoRow : OpenClaim := { program := "ytckdlmbdgjcncaadoor", sum := "6974aea8671cad78e3272d8f568c759cdcdc93bccc71e0db4526f9446ec0a100", func := "loop.example/lib-g03409/laws.FnPathCut", spec := "fnPathCut", inPlace := ["internal/abi.NoEscape", "internal/bytealg.MakeNoZero"], named := ["net/url.table"], apart := false, laid := [("net/url.table", laid_net_url_table)], narrowed := true }
def FnPathCutUptoSaid : Prop := fnPathCutUptoRow.holds Tryd.pinned (OpenSpec.upto fnPathCutSpec)

/-- 'laws.FnQueryCut', WHERE WHAT IT READS IS OF BULK AT MOST 1048576: true; the input reads as it did. -/
def fnQueryCutUptoRow : OpenClaim := { program := "ytckdlmbdgjcncaadoor", sum := "6974aea8671cad78e3272d8f568c759cdcdc93bccc71e0db4526f9446ec0a100", func := "loop.example/lib-g03409/laws.FnQueryCut", spec := "fnQueryCut", inPlace := ["internal/abi.NoEscape", "internal/bytealg.MakeNoZero"], named := ["net/url.table"], apart := false, laid := [("net/url.table", laid_net_url_table)], narrowed := true }
def FnQueryCutUptoSaid : Prop := fnQueryCutUptoRow.holds Tryd.pinned (OpenSpec.upto fnQueryCutSpec)

end Rows
end Go.Proofs.YtckdlmbdgjcncaaDoor
