/-
  NARROWER THAN 'FOR EVERY INPUT', by the rows' own cells (each row's printed sentence says how): FnBroken: laid · FnEveryEscape: laid · FnRoadsAgree: laid · FnSmallLetters: laid · FnUnescapeKept: laid · FnUnescapeLength: laid · FnUnescapeTwice: laid.
  DERIVED. THE GIVEN ROWS OF THIS SEAT. 7 by the template 'for every input the law returns true; each argument reads behind the call as it read before'; 0 by the template 'total and deterministic' (their statements: YtjfgadnjdcopcaaDoorTotals.lean).
  GIVEN WITH THE SEED: the statements are not yours to turn. If you find one false, say at which input.
  Laid BY PROGRAM, IN A SANDBOX (cutbox-rows.mjs): the forced cells as the released guide's own fill.sh prints them over the translation e382f28edf6a0ec3… (all of the seat's roots in one cut). By AI agents, Wed Nov 11 2026. No macro, syntax, notation, axiom, sorry.
-/
import Derived.Test.YtjfgadnjdcopcaaDoorChecked
import GoSem.Claim
import GoSem.ClaimJoined
import GoSem.ClaimMapViews
import Derived.JoinedTies
import Derived.KernelRfl
namespace Go.Proofs.YtjfgadnjdcopcaaDoor
/- THE CELL 'sum', in the pinned program and in every row, IS THE sha256 OF THE DUMP (.gsa) THAT YtjfgadnjdcopcaaDoorProg.lean LOADS. Nothing in Lean hashes anything: it is a label: what it is worth is what the hold of that sum in a sandbox is worth. -/
noncomputable def Tryd.pinned : Pinned := { name := "ytjfgadnjdcopcaadoor", sum := "e382f28edf6a0ec3e1fc0f8b8fdb92c2aa28514f0699c6560a286731f661b07b", checked := Tryd.checked }
namespace Rows
def none {H : Type} : Left H := { results := [], args := [] }

/- WHAT THE LISTED PACKAGE-LEVEL VARIABLES READ AS WHEN THE CALL BEGINS. Each datum BY PROGRAM (the guide's laid-datum.mjs) off the statement by which the dump's own 'gosem.cut.vars' lays the variable. In a bare row this is a premise. The card (YtjfgadnjdcopcaaDoorCards.lean) ties it to the program's text. -/
def laid_net_url_table {H : Type} : DataW H := .agg [.lit (.int .u8 0), .lit (.int .u8 0), .lit (.int .u8 0), .lit (.int .u8 0), .lit (.int .u8 0), .lit (.int .u8 0), .lit (.int .u8 0), .lit (.int .u8 0), .lit (.int .u8 0), .lit (.int .u8 0), .lit (.int .u8 0), .lit (.int .u8 0), .lit (.int .u8 0), .lit (.int .u8 0), .lit (.int .u8 0), .lit (.int .u8 0), .lit (.int .u8 0), .lit (.int .u8 0), .lit (.int .u8 0), .lit (.int .u8 0), .lit (.int .u8 0), .lit (.int .u8 0), .lit (.int .u8 0), .lit (.int .u8 0), .lit (.int .u8 0), .lit (.int .u8 0), .lit (.int .u8 0), .lit (.int .u8 0), .lit (.int .u8 0), .lit (.int .u8 0), .lit (.int .u8 0), .lit (.int .u8 0), .lit (.int .u8 0), .lit (.int .u8 76), .lit (.int .u8 12), .lit (.int .u8 0), .lit (.int .u8 95), .lit (.int .u8 0), .lit (.int .u8 95), .lit (.int .u8 12), .lit (.int .u8 76), .lit (.int .u8 76), .lit (.int .u8 76), .lit (.int .u8 95), .lit (.int .u8 93), .lit (.int .u8 127), .lit (.int .u8 127), .lit (.int .u8 65), .lit (.int .u8 255), .lit (.int .u8 255), .lit (.int .u8 255), .lit (.int .u8 255), .lit (.int .u8 255), .lit (.int .u8 255), .lit (.int .u8 255), .lit (.int .u8 255), .lit (.int .u8 255), .lit (.int .u8 255), .lit (.int .u8 79), .lit (.int .u8 93), .lit (.int .u8 12), .lit (.int .u8 95), .lit (.int .u8 12), .lit (.int .u8 64), .lit (.int .u8 67), .lit (.int .u8 255), .lit (.int .u8 255), .lit (.int .u8 255), .lit (.int .u8 255), .lit (.int .u8 255), .lit (.int .u8 255), .lit (.int .u8 127), .lit (.int .u8 127), .lit (.int .u8 127), .lit (.int .u8 127), .lit (.int .u8 127), .lit (.int .u8 127), .lit (.int .u8 127), .lit (.int .u8 127), .lit (.int .u8 127), .lit (.int .u8 127), .lit (.int .u8 127), .lit (.int .u8 127), .lit (.int .u8 127), .lit (.int .u8 127), .lit (.int .u8 127), .lit (.int .u8 127), .lit (.int .u8 127), .lit (.int .u8 127), .lit (.int .u8 127), .lit (.int .u8 127), .lit (.int .u8 12), .lit (.int .u8 0), .lit (.int .u8 12), .lit (.int .u8 0), .lit (.int .u8 127), .lit (.int .u8 0), .lit (.int .u8 255), .lit (.int .u8 255), .lit (.int .u8 255), .lit (.int .u8 255), .lit (.int .u8 255), .lit (.int .u8 255), .lit (.int .u8 127), .lit (.int .u8 127), .lit (.int .u8 127), .lit (.int .u8 127), .lit (.int .u8 127), .lit (.int .u8 127), .lit (.int .u8 127), .lit (.int .u8 127), .lit (.int .u8 127), .lit (.int .u8 127), .lit (.int .u8 127), .lit (.int .u8 127), .lit (.int .u8 127), .lit (.int .u8 127), .lit (.int .u8 127), .lit (.int .u8 127), .lit (.int .u8 127), .lit (.int .u8 127), .lit (.int .u8 127), .lit (.int .u8 127), .lit (.int .u8 0), .lit (.int .u8 0), .lit (.int .u8 0), .lit (.int .u8 127), .lit (.int .u8 0), .lit (.int .u8 0), .lit (.int .u8 0), .lit (.int .u8 0), .lit (.int .u8 0), .lit (.int .u8 0), .lit (.int .u8 0), .lit (.int .u8 0), .lit (.int .u8 0), .lit (.int .u8 0), .lit (.int .u8 0), .lit (.int .u8 0), .lit (.int .u8 0), .lit (.int .u8 0), .lit (.int .u8 0), .lit (.int .u8 0), .lit (.int .u8 0), .lit (.int .u8 0), .lit (.int .u8 0), .lit (.int .u8 0), .lit (.int .u8 0), .lit (.int .u8 0), .lit (.int .u8 0), .lit (.int .u8 0), .lit (.int .u8 0), .lit (.int .u8 0), .lit (.int .u8 0), .lit (.int .u8 0), .lit (.int .u8 0), .lit (.int .u8 0), .lit (.int .u8 0), .lit (.int .u8 0), .lit (.int .u8 0), .lit (.int .u8 0), .lit (.int .u8 0), .lit (.int .u8 0), .lit (.int .u8 0), .lit (.int .u8 0), .lit (.int .u8 0), .lit (.int .u8 0), .lit (.int .u8 0), .lit (.int .u8 0), .lit (.int .u8 0), .lit (.int .u8 0), .lit (.int .u8 0), .lit (.int .u8 0), .lit (.int .u8 0), .lit (.int .u8 0), .lit (.int .u8 0), .lit (.int .u8 0), .lit (.int .u8 0), .lit (.int .u8 0), .lit (.int .u8 0), .lit (.int .u8 0), .lit (.int .u8 0), .lit (.int .u8 0), .lit (.int .u8 0), .lit (.int .u8 0), .lit (.int .u8 0), .lit (.int .u8 0), .lit (.int .u8 0), .lit (.int .u8 0), .lit (.int .u8 0), .lit (.int .u8 0), .lit (.int .u8 0), .lit (.int .u8 0), .lit (.int .u8 0), .lit (.int .u8 0), .lit (.int .u8 0), .lit (.int .u8 0), .lit (.int .u8 0), .lit (.int .u8 0), .lit (.int .u8 0), .lit (.int .u8 0), .lit (.int .u8 0), .lit (.int .u8 0), .lit (.int .u8 0), .lit (.int .u8 0), .lit (.int .u8 0), .lit (.int .u8 0), .lit (.int .u8 0), .lit (.int .u8 0), .lit (.int .u8 0), .lit (.int .u8 0), .lit (.int .u8 0), .lit (.int .u8 0), .lit (.int .u8 0), .lit (.int .u8 0), .lit (.int .u8 0), .lit (.int .u8 0), .lit (.int .u8 0), .lit (.int .u8 0), .lit (.int .u8 0), .lit (.int .u8 0), .lit (.int .u8 0), .lit (.int .u8 0), .lit (.int .u8 0), .lit (.int .u8 0), .lit (.int .u8 0), .lit (.int .u8 0), .lit (.int .u8 0), .lit (.int .u8 0), .lit (.int .u8 0), .lit (.int .u8 0), .lit (.int .u8 0), .lit (.int .u8 0), .lit (.int .u8 0), .lit (.int .u8 0), .lit (.int .u8 0), .lit (.int .u8 0), .lit (.int .u8 0), .lit (.int .u8 0), .lit (.int .u8 0), .lit (.int .u8 0), .lit (.int .u8 0), .lit (.int .u8 0), .lit (.int .u8 0), .lit (.int .u8 0), .lit (.int .u8 0), .lit (.int .u8 0), .lit (.int .u8 0), .lit (.int .u8 0), .lit (.int .u8 0), .lit (.int .u8 0), .lit (.int .u8 0), .lit (.int .u8 0), .lit (.int .u8 0), .lit (.int .u8 0), .lit (.int .u8 0)]

/-- 'laws.FnBroken': WHATEVER THE INPUT: true; the input reads as it did. -/
def fnBrokenSpec : ChangeSpec := { name := "fnBroken", fn := fun _ => fun
  | [d1, d2] => { results := [.lit (.bool true)], args := [d1, d2] }
  | _ => none }
def fnBrokenRow : OpenClaim := { program := "ytjfgadnjdcopcaadoor", sum := "e382f28edf6a0ec3e1fc0f8b8fdb92c2aa28514f0699c6560a286731f661b07b", func := "loop.example/lib-g03409/laws.FnBroken", spec := "fnBroken", inPlace := ["internal/abi.NoEscape", "internal/bytealg.MakeNoZero"], named := ["net/url.table"], apart := false, laid := [("net/url.table", laid_net_url_table)] }
def FnBrokenSaid : Prop := fnBrokenRow.holds Tryd.pinned (OpenSpec.ofChange fnBrokenSpec)

/-- ITS FALSE NEIGHBOUR: 'it returns false'. Refute it at one input. -/
def fnBrokenWrong : ChangeSpec := { name := "fnBroken", fn := fun _ => fun
  | [d1, d2] => { results := [.lit (.bool false)], args := [d1, d2] }
  | _ => none }
def FnBrokenWrongFalsely : Prop := fnBrokenRow.holds Tryd.pinned (OpenSpec.ofChange fnBrokenWrong)

/-- 'laws.FnEveryEscape': WHATEVER THE INPUT: true; the input reads as it did. -/
def fnEveryEscapeSpec : ChangeSpec := { name := "fnEveryEscape", fn := fun _ => fun
  | [d] => { results := [.lit (.bool true)], args := [d] }
  | _ => none }
def fnEveryEscapeRow : OpenClaim := { program := "ytjfgadnjdcopcaadoor", sum := "e382f28edf6a0ec3e1fc0f8b8fdb92c2aa28514f0699c6560a286731f661b07b", func := "loop.example/lib-g03409/laws.FnEveryEscape", spec := "fnEveryEscape", inPlace := ["internal/abi.NoEscape", "internal/bytealg.MakeNoZero"], named := ["net/url.table"], apart := false, laid := [("net/url.table", laid_net_url_table)] }
def FnEveryEscapeSaid : Prop := fnEveryEscapeRow.holds Tryd.pinned (OpenSpec.ofChange fnEveryEscapeSpec)

/-- ITS FALSE NEIGHBOUR: 'it returns false'. Refute it at one input. -/
def fnEveryEscapeWrong : ChangeSpec := { name := "fnEveryEscape", fn := fun _ => fun
  | [d] => { results := [.lit (.bool false)], args := [d] }
  | _ => none }
def FnEveryEscapeWrongFalsely : Prop := fnEveryEscapeRow.holds Tryd.pinned (OpenSpec.ofChange fnEveryEscapeWrong)

/-- 'laws.FnRoadsAgree': WHATEVER THE INPUT: true; the input reads as it did. -/
def fnRoadsAgreeSpec : ChangeSpec := { name := "fnRoadsAgree", fn := fun _ => fun
  | [d] => { results := [.lit (.bool true)], args := [d] }
  | _ => none }
def fnRoadsAgreeRow : OpenClaim := { program := "ytjfgadnjdcopcaadoor", sum := "e382f28edf6a0ec3e1fc0f8b8fdb92c2aa28514f0699c6560a286731f661b07b", func := "loop.example/lib-g03409/laws.FnRoadsAgree", spec := "fnRoadsAgree", inPlace := ["internal/abi.NoEscape", "internal/bytealg.MakeNoZero"], named := ["net/url.table"], apart := false, laid := [("net/url.table", laid_net_url_table)] }
def FnRoadsAgreeSaid : Prop := fnRoadsAgreeRow.holds Tryd.pinned (OpenSpec.ofChange fnRoadsAgreeSpec)

/-- ITS FALSE NEIGHBOUR: 'it returns false'. Refute it at one input. -/
def fnRoadsAgreeWrong : ChangeSpec := { name := "fnRoadsAgree", fn := fun _ => fun
  | [d] => { results := [.lit (.bool false)], args := [d] }
  | _ => none }
def FnRoadsAgreeWrongFalsely : Prop := fnRoadsAgreeRow.holds Tryd.pinned (OpenSpec.ofChange fnRoadsAgreeWrong)

/-- 'laws.FnSmallLetters': WHATEVER THE INPUT: true; the input reads as it did. -/
def fnSmallLettersSpec : ChangeSpec := { name := "fnSmallLetters", fn := fun _ => fun
  | [d] => { results := [.lit (.bool true)], args := [d] }
  | _ => none }
def fnSmallLettersRow : OpenClaim := { program := "ytjfgadnjdcopcaadoor", sum := "e382f28edf6a0ec3e1fc0f8b8fdb92c2aa28514f0699c6560a286731f661b07b", func := "loop.example/lib-g03409/laws.FnSmallLetters", spec := "fnSmallLetters", inPlace := ["internal/abi.NoEscape", "internal/bytealg.MakeNoZero"], named := ["net/url.table"], apart := false, laid := [("net/url.table", laid_net_url_table)] }
def FnSmallLettersSaid : Prop := fnSmallLettersRow.holds Tryd.pinned (OpenSpec.ofChange fnSmallLettersSpec)

/-- ITS FALSE NEIGHBOUR: 'it returns false'. Refute it at one input. -/
def fnSmallLettersWrong : ChangeSpec := { name := "fnSmallLetters", fn := fun _ => fun
  | [d] => { results := [.lit (.bool false)], args := [d] }
  | _ => none }
def FnSmallLettersWrongFalsely : Prop := fnSmallLettersRow.holds Tryd.pinned (OpenSpec.ofChange fnSmallLettersWrong)

/-- 'laws.FnUnescapeKept': WHATEVER THE INPUT: true; the input reads as it did. -/
def fnUnescapeKeptSpec : ChangeSpec := { name := "fnUnescapeKept", fn := fun _ => fun
  | [d] => { results := [.lit (.bool true)], args := [d] }
  | _ => none }
def fnUnescapeKeptRow : OpenClaim := { program := "ytjfgadnjdcopcaadoor", sum := "e382f28edf6a0ec3e1fc0f8b8fdb92c2aa28514f0699c6560a286731f661b07b", func := "loop.example/lib-g03409/laws.FnUnescapeKept", spec := "fnUnescapeKept", inPlace := ["internal/abi.NoEscape", "internal/bytealg.MakeNoZero"], named := ["net/url.table"], apart := false, laid := [("net/url.table", laid_net_url_table)] }
def FnUnescapeKeptSaid : Prop := fnUnescapeKeptRow.holds Tryd.pinned (OpenSpec.ofChange fnUnescapeKeptSpec)

/-- ITS FALSE NEIGHBOUR: 'it returns false'. Refute it at one input. -/
def fnUnescapeKeptWrong : ChangeSpec := { name := "fnUnescapeKept", fn := fun _ => fun
  | [d] => { results := [.lit (.bool false)], args := [d] }
  | _ => none }
def FnUnescapeKeptWrongFalsely : Prop := fnUnescapeKeptRow.holds Tryd.pinned (OpenSpec.ofChange fnUnescapeKeptWrong)

/-- 'laws.FnUnescapeLength': WHATEVER THE INPUT: true; the input reads as it did. -/
def fnUnescapeLengthSpec : ChangeSpec := { name := "fnUnescapeLength", fn := fun _ => fun
  | [d] => { results := [.lit (.bool true)], args := [d] }
  | _ => none }
def fnUnescapeLengthRow : OpenClaim := { program := "ytjfgadnjdcopcaadoor", sum := "e382f28edf6a0ec3e1fc0f8b8fdb92c2aa28514f0699c6560a286731f661b07b", func := "loop.example/lib-g03409/laws.FnUnescapeLength", spec := "fnUnescapeLength", inPlace := ["internal/abi.NoEscape", "internal/bytealg.MakeNoZero"], named := ["net/url.table"], apart := false, laid := [("net/url.table", laid_net_url_table)] }
def FnUnescapeLengthSaid : Prop := fnUnescapeLengthRow.holds Tryd.pinned (OpenSpec.ofChange fnUnescapeLengthSpec)

/-- ITS FALSE NEIGHBOUR: 'it returns false'. Refute it at one input. -/
def fnUnescapeLengthWrong : ChangeSpec := { name := "fnUnescapeLength", fn := fun _ => fun
  | [d] => { results := [.lit (.bool false)], args := [d] }
  | _ => none }
def FnUnescapeLengthWrongFalsely : Prop := fnUnescapeLengthRow.holds Tryd.pinned (OpenSpec.ofChange fnUnescapeLengthWrong)

/-- 'laws.FnUnescapeTwice': WHATEVER THE INPUT: true; the input reads as it did. -/
def fnUnescapeTwiceSpec : ChangeSpec := { name := "fnUnescapeTwice", fn := fun _ => fun
  | [d] => { results := [.lit (.bool true)], args := [d] }
  | _ => none }
def fnUnescapeTwiceRow : OpenClaim := { program := "ytjfgadnjdcopcaadoor", sum := "e382f28edf6a0ec3e1fc0f8b8fdb92c2aa28514f0699c6560a286731f661b07b", func := "loop.example/lib-g03409/laws.FnUnescapeTwice", spec := "fnUnescapeTwice", inPlace := ["internal/abi.NoEscape", "internal/bytealg.MakeNoZero"], named := ["net/url.table"], apart := false, laid := [("net/url.table", laid_net_url_table)] }
def FnUnescapeTwiceSaid : Prop := fnUnescapeTwiceRow.holds Tryd.pinned (OpenSpec.ofChange fnUnescapeTwiceSpec)

/-- ITS FALSE NEIGHBOUR: 'it returns false'. Refute it at one input. -/
def fnUnescapeTwiceWrong : ChangeSpec := { name := "fnUnescapeTwice", fn := fun _ => fun
  | [d] => { results := [.lit (.bool false)], args := [d] }
  | _ => none }
def FnUnescapeTwiceWrongFalsely : Prop := fnUnescapeTwiceRow.holds Tryd.pinned (OpenSpec.ofChange fnUnescapeTwiceWrong)

/- THE SECOND FORM. 'bulk': how many values and letters a reading holds, each counted each time it is reached (what is shared counts as often as it is met; a slice's spare places count too). A statement '..UptoSaid' is the law's where the arguments, and the package variables that the reading takes, are together of bulk at most 1048576: NARROWER than '..Said'. Prove '..Said' where nothing that the law and all that it calls make is longer than what came in: it says more and counts as full. Else prove '..UptoSaid'. A law counts once. -/
mutual
def uptoBulk {H : Type} : DataW H → Nat
  | .lit (.string bytes) => bytes.length + 1
  | .lit _ => 1
  | .nil => 1
  | .ptr d => uptoBulk d + 1
  | .slice elems spare => uptoBulkAll elems + uptoBulkAll spare + 1
  | .agg parts => uptoBulkAll parts + 1
  | .iface _ d => uptoBulk d + 1
  | .map entries => uptoBulkEntries entries + 1
  | .held _ => 1
def uptoBulkAll {H : Type} : List (DataW H) → Nat
  | [] => 0
  | d :: r => uptoBulk d + uptoBulkAll r
def uptoBulkEntries {H : Type} : List (Lit × DataW H) → Nat
  | [] => 0
  | x :: r => uptoBulkEntry x + uptoBulkEntries r
def uptoBulkEntry {H : Type} : Lit × DataW H → Nat
  | (.string bytes, d) => bytes.length + uptoBulk d + 1
  | (_, d) => uptoBulk d + 1
 end
def uptoSmall : (H : Type) → List (DataW H) → Bool := fun _ ds => decide (uptoBulkAll ds ≤ 1048576)
def OpenSpec.upto (s : _root_.Go.ChangeSpec) : _root_.Go.OpenSpec := { _root_.Go.OpenSpec.ofChange s with cond := some uptoSmall }

/-- 'laws.FnBroken', WHERE WHAT IT READS IS OF BULK AT MOST 1048576: true; the input reads as it did. -/
def fnBrokenUptoRow : OpenClaim := { program := "ytjfgadnjdcopcaadoor", sum := "e382f28edf6a0ec3e1fc0f8b8fdb92c2aa28514f0699c6560a286731f661b07b", func := "loop.example/lib-g03409/laws.FnBroken", spec := "fnBroken", inPlace := ["internal/abi.NoEscape", "internal/bytealg.MakeNoZero"], named := ["net/url.table"], apart := false, laid := [("net/url.table", laid_net_url_table)], narrowed := true }
def FnBrokenUptoSaid : Prop := fnBrokenUptoRow.holds Tryd.pinned (OpenSpec.upto fnBrokenSpec)

/-- 'laws.FnEveryEscape', WHERE WHAT IT READS IS OF BULK AT MOST 1048576: true; the input reads as it did. -/
def fnEveryEscapeUptoRow : OpenClaim := { program := "ytjfgadnjdcopcaadoor", sum := "e382f28edf6a0ec3e1fc0f8b8fdb92c2aa28514f0699c6560a286731f661b07b", func := "loop.example/lib-g03409/laws.FnEveryEscape", spec := "fnEveryEscape", inPlace := ["internal/abi.NoEscape", "internal/bytealg.MakeNoZero"], named := ["net/url.table"], apart := false, laid := [("net/url.table", laid_net_url_table)], narrowed := true }
def FnEveryEscapeUptoSaid : Prop := fnEveryEscapeUptoRow.holds Tryd.pinned (OpenSpec.upto fnEveryEscapeSpec)

/-- 'laws.FnRoadsAgree', WHERE WHAT IT READS IS OF BULK AT MOST 1048576: true; the input reads as it did. -/
def fnRoadsAgreeUptoRow : OpenClaim := { program := "ytjfgadnjdcopcaadoor", sum := "e382f28edf6a0ec3e1fc0f8b8fdb92c2aa28514f0699c6560a286731f661b07b", func := "loop.example/lib-g03409/laws.FnRoadsAgree", spec := "fnRoadsAgree", inPlace := ["internal/abi.NoEscape", "internal/bytealg.MakeNoZero"], named := ["net/url.table"], apart := false, laid := [("net/url.table", laid_net_url_table)], narrowed := true }
def FnRoadsAgreeUptoSaid : Prop := fnRoadsAgreeUptoRow.holds Tryd.pinned (OpenSpec.upto fnRoadsAgreeSpec)

/-- 'laws.FnSmallLetters', WHERE WHAT IT READS IS OF BULK AT MOST 1048576: true; the input reads as it did. -/
def fnSmallLettersUptoRow : OpenClaim := { program := "ytjfgadnjdcopcaadoor", sum := "e382f28edf6a0ec3e1fc0f8b8fdb92c2aa28514f0699c6560a286731f661b07b", func := "loop.example/lib-g03409/laws.FnSmallLetters", spec := "fnSmallLetters", inPlace := ["internal/abi.NoEscape", "internal/bytealg.MakeNoZero"], named := ["net/url.table"], apart := false, laid := [("net/url.table", laid_net_url_table)], narrowed := true }
def FnSmallLettersUptoSaid : Prop := fnSmallLettersUptoRow.holds Tryd.pinned (OpenSpec.upto fnSmallLettersSpec)

/-- 'laws.FnUnescapeKept', WHERE WHAT IT READS IS OF BULK AT MOST 1048576: true; the input reads as it did. -/
def fnUnescapeKeptUptoRow : OpenClaim := { program := "ytjfgadnjdcopcaadoor", sum := "e382f28edf6a0ec3e1fc0f8b8fdb92c2aa28514f0699c6560a286731f661b07b", func := "loop.example/lib-g03409/laws.FnUnescapeKept", spec := "fnUnescapeKept", inPlace := ["internal/abi.NoEscape", "internal/bytealg.MakeNoZero"], named := ["net/url.table"], apart := false, laid := [("net/url.table", laid_net_url_table)], narrowed := true }
def FnUnescapeKeptUptoSaid : Prop := fnUnescapeKeptUptoRow.holds Tryd.pinned (OpenSpec.upto fnUnescapeKeptSpec)

/-- 'laws.FnUnescapeLength', WHERE WHAT IT READS IS OF BULK AT MOST 1048576: true; the input reads as it did. -/
def fnUnescapeLengthUptoRow : OpenClaim := { program := "ytjfgadnjdcopcaadoor", sum := "e382f28edf6a0ec3e1fc0f8b8fdb92c2aa28514f0699c6560a286731f661b07b", func := "loop.example/lib-g03409/laws.FnUnescapeLength", spec := "fnUnescapeLength", inPlace := ["internal/abi.NoEscape", "internal/bytealg.MakeNoZero"], named := ["net/url.table"], apart := false, laid := [("net/url.table", laid_net_url_table)], narrowed := true }
def FnUnescapeLengthUptoSaid : Prop := fnUnescapeLengthUptoRow.holds Tryd.pinned (OpenSpec.upto fnUnescapeLengthSpec)

/-- 'laws.FnUnescapeTwice', WHERE WHAT IT READS IS OF BULK AT MOST 1048576: true; the input reads as it did. -/
def fnUnescapeTwiceUptoRow : OpenClaim := { program := "ytjfgadnjdcopcaadoor", sum := "e382f28edf6a0ec3e1fc0f8b8fdb92c2aa28514f0699c6560a286731f661b07b", func := "loop.example/lib-g03409/laws.FnUnescapeTwice", spec := "fnUnescapeTwice", inPlace := ["internal/abi.NoEscape", "internal/bytealg.MakeNoZero"], named := ["net/url.table"], apart := false, laid := [("net/url.table", laid_net_url_table)], narrowed := true }
def FnUnescapeTwiceUptoSaid : Prop := fnUnescapeTwiceUptoRow.holds Tryd.pinned (OpenSpec.upto fnUnescapeTwiceSpec)

end Rows
end Go.Proofs.YtjfgadnjdcopcaaDoor
