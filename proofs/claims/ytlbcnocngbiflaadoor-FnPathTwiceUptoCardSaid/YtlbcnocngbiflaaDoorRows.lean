/-
  NARROWER THAN 'FOR EVERY INPUT', by the rows' own cells (each row's printed sentence says how): FnExactPathEscape: laid · FnExactQueryEscape: laid · FnPathApart: laid · FnPathLength: laid · FnPathPieces: laid · FnPathSafe: laid · FnPathSlash: laid · FnPathTwice: laid.
  DERIVED. THE GIVEN ROWS OF THIS SEAT. 8 by the template 'for every input the law returns true; each argument reads behind the call as it read before'; 0 by the template 'total and deterministic' (their statements: YtlbcnocngbiflaaDoorTotals.lean).
  GIVEN WITH THE SEED: the statements are not yours to turn. If you find one false, say at which input.
  Laid BY PROGRAM, IN A SANDBOX (cutbox-rows.mjs): the forced cells as the released guide's own fill.sh prints them over the translation cbec87b64668e828… (all of the seat's roots in one cut). By AI agents, Wed Nov 11 2026. No macro, syntax, notation, axiom, sorry.
-/
import Derived.Test.YtlbcnocngbiflaaDoorChecked
import GoSem.Claim
import GoSem.ClaimJoined
import GoSem.ClaimMapViews
import Derived.JoinedTies
import Derived.KernelRfl
namespace Go.Proofs.YtlbcnocngbiflaaDoor
/- THE CELL 'sum', in the pinned program and in every row, IS THE sha256 OF THE DUMP (.gsa) THAT YtlbcnocngbiflaaDoorProg.lean LOADS. Nothing in Lean hashes anything: it is a label: what it is worth is what the hold of that sum in a sandbox is worth. -/
noncomputable def Tryd.pinned : Pinned := { name := "ytlbcnocngbiflaadoor", sum := "cbec87b64668e8288487230886c10d5a246b7bc75a87aeecbe42bec08ffeeb55", checked := Tryd.checked }
namespace Rows
def none {H : Type} : Left H := { results := [], args := [] }

/- WHAT THE LISTED PACKAGE-LEVEL VARIABLES READ AS WHEN THE CALL BEGINS. Each datum BY PROGRAM (the guide's laid-datum.mjs) off the statement by which the dump's own 'gosem.cut.vars' lays the variable. In a bare row this is a premise. The card (YtlbcnocngbiflaaDoorCards.lean) ties it to the program's text. -/
def laid_net_url_table {H : Type} : DataW H := .agg [.lit (.int .u8 0), .lit (.int .u8 0), .lit (.int .u8 0), .lit (.int .u8 0), .lit (.int .u8 0), .lit (.int .u8 0), .lit (.int .u8 0), .lit (.int .u8 0), .lit (.int .u8 0), .lit (.int .u8 0), .lit (.int .u8 0), .lit (.int .u8 0), .lit (.int .u8 0), .lit (.int .u8 0), .lit (.int .u8 0), .lit (.int .u8 0), .lit (.int .u8 0), .lit (.int .u8 0), .lit (.int .u8 0), .lit (.int .u8 0), .lit (.int .u8 0), .lit (.int .u8 0), .lit (.int .u8 0), .lit (.int .u8 0), .lit (.int .u8 0), .lit (.int .u8 0), .lit (.int .u8 0), .lit (.int .u8 0), .lit (.int .u8 0), .lit (.int .u8 0), .lit (.int .u8 0), .lit (.int .u8 0), .lit (.int .u8 0), .lit (.int .u8 76), .lit (.int .u8 12), .lit (.int .u8 0), .lit (.int .u8 95), .lit (.int .u8 0), .lit (.int .u8 95), .lit (.int .u8 12), .lit (.int .u8 76), .lit (.int .u8 76), .lit (.int .u8 76), .lit (.int .u8 95), .lit (.int .u8 93), .lit (.int .u8 127), .lit (.int .u8 127), .lit (.int .u8 65), .lit (.int .u8 255), .lit (.int .u8 255), .lit (.int .u8 255), .lit (.int .u8 255), .lit (.int .u8 255), .lit (.int .u8 255), .lit (.int .u8 255), .lit (.int .u8 255), .lit (.int .u8 255), .lit (.int .u8 255), .lit (.int .u8 79), .lit (.int .u8 93), .lit (.int .u8 12), .lit (.int .u8 95), .lit (.int .u8 12), .lit (.int .u8 64), .lit (.int .u8 67), .lit (.int .u8 255), .lit (.int .u8 255), .lit (.int .u8 255), .lit (.int .u8 255), .lit (.int .u8 255), .lit (.int .u8 255), .lit (.int .u8 127), .lit (.int .u8 127), .lit (.int .u8 127), .lit (.int .u8 127), .lit (.int .u8 127), .lit (.int .u8 127), .lit (.int .u8 127), .lit (.int .u8 127), .lit (.int .u8 127), .lit (.int .u8 127), .lit (.int .u8 127), .lit (.int .u8 127), .lit (.int .u8 127), .lit (.int .u8 127), .lit (.int .u8 127), .lit (.int .u8 127), .lit (.int .u8 127), .lit (.int .u8 127), .lit (.int .u8 127), .lit (.int .u8 127), .lit (.int .u8 12), .lit (.int .u8 0), .lit (.int .u8 12), .lit (.int .u8 0), .lit (.int .u8 127), .lit (.int .u8 0), .lit (.int .u8 255), .lit (.int .u8 255), .lit (.int .u8 255), .lit (.int .u8 255), .lit (.int .u8 255), .lit (.int .u8 255), .lit (.int .u8 127), .lit (.int .u8 127), .lit (.int .u8 127), .lit (.int .u8 127), .lit (.int .u8 127), .lit (.int .u8 127), .lit (.int .u8 127), .lit (.int .u8 127), .lit (.int .u8 127), .lit (.int .u8 127), .lit (.int .u8 127), .lit (.int .u8 127), .lit (.int .u8 127), .lit (.int .u8 127), .lit (.int .u8 127), .lit (.int .u8 127), .lit (.int .u8 127), .lit (.int .u8 127), .lit (.int .u8 127), .lit (.int .u8 127), .lit (.int .u8 0), .lit (.int .u8 0), .lit (.int .u8 0), .lit (.int .u8 127), .lit (.int .u8 0), .lit (.int .u8 0), .lit (.int .u8 0), .lit (.int .u8 0), .lit (.int .u8 0), .lit (.int .u8 0), .lit (.int .u8 0), .lit (.int .u8 0), .lit (.int .u8 0), .lit (.int .u8 0), .lit (.int .u8 0), .lit (.int .u8 0), .lit (.int .u8 0), .lit (.int .u8 0), .lit (.int .u8 0), .lit (.int .u8 0), .lit (.int .u8 0), .lit (.int .u8 0), .lit (.int .u8 0), .lit (.int .u8 0), .lit (.int .u8 0), .lit (.int .u8 0), .lit (.int .u8 0), .lit (.int .u8 0), .lit (.int .u8 0), .lit (.int .u8 0), .lit (.int .u8 0), .lit (.int .u8 0), .lit (.int .u8 0), .lit (.int .u8 0), .lit (.int .u8 0), .lit (.int .u8 0), .lit (.int .u8 0), .lit (.int .u8 0), .lit (.int .u8 0), .lit (.int .u8 0), .lit (.int .u8 0), .lit (.int .u8 0), .lit (.int .u8 0), .lit (.int .u8 0), .lit (.int .u8 0), .lit (.int .u8 0), .lit (.int .u8 0), .lit (.int .u8 0), .lit (.int .u8 0), .lit (.int .u8 0), .lit (.int .u8 0), .lit (.int .u8 0), .lit (.int .u8 0), .lit (.int .u8 0), .lit (.int .u8 0), .lit (.int .u8 0), .lit (.int .u8 0), .lit (.int .u8 0), .lit (.int .u8 0), .lit (.int .u8 0), .lit (.int .u8 0), .lit (.int .u8 0), .lit (.int .u8 0), .lit (.int .u8 0), .lit (.int .u8 0), .lit (.int .u8 0), .lit (.int .u8 0), .lit (.int .u8 0), .lit (.int .u8 0), .lit (.int .u8 0), .lit (.int .u8 0), .lit (.int .u8 0), .lit (.int .u8 0), .lit (.int .u8 0), .lit (.int .u8 0), .lit (.int .u8 0), .lit (.int .u8 0), .lit (.int .u8 0), .lit (.int .u8 0), .lit (.int .u8 0), .lit (.int .u8 0), .lit (.int .u8 0), .lit (.int .u8 0), .lit (.int .u8 0), .lit (.int .u8 0), .lit (.int .u8 0), .lit (.int .u8 0), .lit (.int .u8 0), .lit (.int .u8 0), .lit (.int .u8 0), .lit (.int .u8 0), .lit (.int .u8 0), .lit (.int .u8 0), .lit (.int .u8 0), .lit (.int .u8 0), .lit (.int .u8 0), .lit (.int .u8 0), .lit (.int .u8 0), .lit (.int .u8 0), .lit (.int .u8 0), .lit (.int .u8 0), .lit (.int .u8 0), .lit (.int .u8 0), .lit (.int .u8 0), .lit (.int .u8 0), .lit (.int .u8 0), .lit (.int .u8 0), .lit (.int .u8 0), .lit (.int .u8 0), .lit (.int .u8 0), .lit (.int .u8 0), .lit (.int .u8 0), .lit (.int .u8 0), .lit (.int .u8 0), .lit (.int .u8 0), .lit (.int .u8 0), .lit (.int .u8 0), .lit (.int .u8 0), .lit (.int .u8 0), .lit (.int .u8 0), .lit (.int .u8 0), .lit (.int .u8 0), .lit (.int .u8 0), .lit (.int .u8 0), .lit (.int .u8 0), .lit (.int .u8 0), .lit (.int .u8 0), .lit (.int .u8 0), .lit (.int .u8 0), .lit (.int .u8 0), .lit (.int .u8 0), .lit (.int .u8 0), .lit (.int .u8 0)]

/-- 'laws.FnExactPathEscape': WHATEVER THE INPUT: true; the input reads as it did. -/
def fnExactPathEscapeSpec : ChangeSpec := { name := "fnExactPathEscape", fn := fun _ => fun
  | [d] => { results := [.lit (.bool true)], args := [d] }
  | _ => none }
def fnExactPathEscapeRow : OpenClaim := { program := "ytlbcnocngbiflaadoor", sum := "cbec87b64668e8288487230886c10d5a246b7bc75a87aeecbe42bec08ffeeb55", func := "loop.example/lib-g03409/laws.FnExactPathEscape", spec := "fnExactPathEscape", named := ["net/url.table"], apart := false, laid := [("net/url.table", laid_net_url_table)] }
def FnExactPathEscapeSaid : Prop := fnExactPathEscapeRow.holds Tryd.pinned (OpenSpec.ofChange fnExactPathEscapeSpec)

/-- ITS FALSE NEIGHBOUR: 'it returns false'. Refute it at one input. -/
def fnExactPathEscapeWrong : ChangeSpec := { name := "fnExactPathEscape", fn := fun _ => fun
  | [d] => { results := [.lit (.bool false)], args := [d] }
  | _ => none }
def FnExactPathEscapeWrongFalsely : Prop := fnExactPathEscapeRow.holds Tryd.pinned (OpenSpec.ofChange fnExactPathEscapeWrong)

/-- 'laws.FnExactQueryEscape': WHATEVER THE INPUT: true; the input reads as it did. -/
def fnExactQueryEscapeSpec : ChangeSpec := { name := "fnExactQueryEscape", fn := fun _ => fun
  | [d] => { results := [.lit (.bool true)], args := [d] }
  | _ => none }
def fnExactQueryEscapeRow : OpenClaim := { program := "ytlbcnocngbiflaadoor", sum := "cbec87b64668e8288487230886c10d5a246b7bc75a87aeecbe42bec08ffeeb55", func := "loop.example/lib-g03409/laws.FnExactQueryEscape", spec := "fnExactQueryEscape", named := ["net/url.table"], apart := false, laid := [("net/url.table", laid_net_url_table)] }
def FnExactQueryEscapeSaid : Prop := fnExactQueryEscapeRow.holds Tryd.pinned (OpenSpec.ofChange fnExactQueryEscapeSpec)

/-- ITS FALSE NEIGHBOUR: 'it returns false'. Refute it at one input. -/
def fnExactQueryEscapeWrong : ChangeSpec := { name := "fnExactQueryEscape", fn := fun _ => fun
  | [d] => { results := [.lit (.bool false)], args := [d] }
  | _ => none }
def FnExactQueryEscapeWrongFalsely : Prop := fnExactQueryEscapeRow.holds Tryd.pinned (OpenSpec.ofChange fnExactQueryEscapeWrong)

/-- 'laws.FnPathApart': WHATEVER THE INPUT: true; the input reads as it did. -/
def fnPathApartSpec : ChangeSpec := { name := "fnPathApart", fn := fun _ => fun
  | [d1, d2] => { results := [.lit (.bool true)], args := [d1, d2] }
  | _ => none }
def fnPathApartRow : OpenClaim := { program := "ytlbcnocngbiflaadoor", sum := "cbec87b64668e8288487230886c10d5a246b7bc75a87aeecbe42bec08ffeeb55", func := "loop.example/lib-g03409/laws.FnPathApart", spec := "fnPathApart", named := ["net/url.table"], apart := false, laid := [("net/url.table", laid_net_url_table)] }
def FnPathApartSaid : Prop := fnPathApartRow.holds Tryd.pinned (OpenSpec.ofChange fnPathApartSpec)

/-- ITS FALSE NEIGHBOUR: 'it returns false'. Refute it at one input. -/
def fnPathApartWrong : ChangeSpec := { name := "fnPathApart", fn := fun _ => fun
  | [d1, d2] => { results := [.lit (.bool false)], args := [d1, d2] }
  | _ => none }
def FnPathApartWrongFalsely : Prop := fnPathApartRow.holds Tryd.pinned (OpenSpec.ofChange fnPathApartWrong)

/-- 'laws.FnPathLength': WHATEVER THE INPUT: true; the input reads as it did. -/
def fnPathLengthSpec : ChangeSpec := { name := "fnPathLength", fn := fun _ => fun
  | [d] => { results := [.lit (.bool true)], args := [d] }
  | _ => none }
def fnPathLengthRow : OpenClaim := { program := "ytlbcnocngbiflaadoor", sum := "cbec87b64668e8288487230886c10d5a246b7bc75a87aeecbe42bec08ffeeb55", func := "loop.example/lib-g03409/laws.FnPathLength", spec := "fnPathLength", named := ["net/url.table"], apart := false, laid := [("net/url.table", laid_net_url_table)] }
def FnPathLengthSaid : Prop := fnPathLengthRow.holds Tryd.pinned (OpenSpec.ofChange fnPathLengthSpec)

/-- ITS FALSE NEIGHBOUR: 'it returns false'. Refute it at one input. -/
def fnPathLengthWrong : ChangeSpec := { name := "fnPathLength", fn := fun _ => fun
  | [d] => { results := [.lit (.bool false)], args := [d] }
  | _ => none }
def FnPathLengthWrongFalsely : Prop := fnPathLengthRow.holds Tryd.pinned (OpenSpec.ofChange fnPathLengthWrong)

/-- 'laws.FnPathPieces': WHATEVER THE INPUT: true; the input reads as it did. -/
def fnPathPiecesSpec : ChangeSpec := { name := "fnPathPieces", fn := fun _ => fun
  | [d1, d2] => { results := [.lit (.bool true)], args := [d1, d2] }
  | _ => none }
def fnPathPiecesRow : OpenClaim := { program := "ytlbcnocngbiflaadoor", sum := "cbec87b64668e8288487230886c10d5a246b7bc75a87aeecbe42bec08ffeeb55", func := "loop.example/lib-g03409/laws.FnPathPieces", spec := "fnPathPieces", named := ["net/url.table"], apart := false, laid := [("net/url.table", laid_net_url_table)] }
def FnPathPiecesSaid : Prop := fnPathPiecesRow.holds Tryd.pinned (OpenSpec.ofChange fnPathPiecesSpec)

/-- ITS FALSE NEIGHBOUR: 'it returns false'. Refute it at one input. -/
def fnPathPiecesWrong : ChangeSpec := { name := "fnPathPieces", fn := fun _ => fun
  | [d1, d2] => { results := [.lit (.bool false)], args := [d1, d2] }
  | _ => none }
def FnPathPiecesWrongFalsely : Prop := fnPathPiecesRow.holds Tryd.pinned (OpenSpec.ofChange fnPathPiecesWrong)

/-- 'laws.FnPathSafe': WHATEVER THE INPUT: true; the input reads as it did. -/
def fnPathSafeSpec : ChangeSpec := { name := "fnPathSafe", fn := fun _ => fun
  | [d] => { results := [.lit (.bool true)], args := [d] }
  | _ => none }
def fnPathSafeRow : OpenClaim := { program := "ytlbcnocngbiflaadoor", sum := "cbec87b64668e8288487230886c10d5a246b7bc75a87aeecbe42bec08ffeeb55", func := "loop.example/lib-g03409/laws.FnPathSafe", spec := "fnPathSafe", named := ["net/url.table"], apart := false, laid := [("net/url.table", laid_net_url_table)] }
def FnPathSafeSaid : Prop := fnPathSafeRow.holds Tryd.pinned (OpenSpec.ofChange fnPathSafeSpec)

/-- ITS FALSE NEIGHBOUR: 'it returns false'. Refute it at one input. -/
def fnPathSafeWrong : ChangeSpec := { name := "fnPathSafe", fn := fun _ => fun
  | [d] => { results := [.lit (.bool false)], args := [d] }
  | _ => none }
def FnPathSafeWrongFalsely : Prop := fnPathSafeRow.holds Tryd.pinned (OpenSpec.ofChange fnPathSafeWrong)

/-- 'laws.FnPathSlash': WHATEVER THE INPUT: true; the input reads as it did. -/
def fnPathSlashSpec : ChangeSpec := { name := "fnPathSlash", fn := fun _ => fun
  | [d] => { results := [.lit (.bool true)], args := [d] }
  | _ => none }
def fnPathSlashRow : OpenClaim := { program := "ytlbcnocngbiflaadoor", sum := "cbec87b64668e8288487230886c10d5a246b7bc75a87aeecbe42bec08ffeeb55", func := "loop.example/lib-g03409/laws.FnPathSlash", spec := "fnPathSlash", named := ["net/url.table"], apart := false, laid := [("net/url.table", laid_net_url_table)] }
def FnPathSlashSaid : Prop := fnPathSlashRow.holds Tryd.pinned (OpenSpec.ofChange fnPathSlashSpec)

/-- ITS FALSE NEIGHBOUR: 'it returns false'. Refute it at one input. -/
def fnPathSlashWrong : ChangeSpec := { name := "fnPathSlash", fn := fun _ => fun
  | [d] => { results := [.lit (.bool false)], args := [d] }
  | _ => none }
def FnPathSlashWrongFalsely : Prop := fnPathSlashRow.holds Tryd.pinned (OpenSpec.ofChange fnPathSlashWrong)

/-- 'laws.FnPathTwice': WHATEVER THE INPUT: true; the input reads as it did. -/
def fnPathTwiceSpec : ChangeSpec := { name := "fnPathTwice", fn := fun _ => fun
  | [d] => { results := [.lit (.bool true)], args := [d] }
  | _ => none }
def fnPathTwiceRow : OpenClaim := { program := "ytlbcnocngbiflaadoor", sum := "cbec87b64668e8288487230886c10d5a246b7bc75a87aeecbe42bec08ffeeb55", func := "loop.example/lib-g03409/laws.FnPathTwice", spec := "fnPathTwice", named := ["net/url.table"], apart := false, laid := [("net/url.table", laid_net_url_table)] }
def FnPathTwiceSaid : Prop := fnPathTwiceRow.holds Tryd.pinned (OpenSpec.ofChange fnPathTwiceSpec)

/-- ITS FALSE NEIGHBOUR: 'it returns false'. Refute it at one input. -/
def fnPathTwiceWrong : ChangeSpec := { name := "fnPathTwice", fn := fun _ => fun
  | [d] => { results := [.lit (.bool false)], args := [d] }
  | _ => none }
def FnPathTwiceWrongFalsely : Prop := fnPathTwiceRow.holds Tryd.pinned (OpenSpec.ofChange fnPathTwiceWrong)

/- THE SECOND FORM. 'bulk': how many values and letters a reading holds, each counted each time it is reached (what is shared counts as often as it is met; a slice's spare places count too). A statement '..UptoSaid' is the law's where the arguments, and the package variables that the reading takes, are together of bulk at most 1048576: NARROWER than '..Said'. Prove '..Said' where nothing that the law and all that it calls make is longer than what came in: it says more and counts as full. Else prove '..UptoSaid'. A law counts once. -/
mutual
def uptoBulk {H : Type} : DataW H → Nat
  | .lit (.string bytes) => bytes.length + 1
  | .lit _ => 1
  | .nil => 1
  | .ptr d => uptoBulk d + 1
  | .slice elems spare => uptoBulkAll elems + uptoBulkAll spare + 1
  | .agg parts => uptoBulkAll parts + 1
  | .iface _ d => uptoBulk d + 1
  | .map entries => uptoBulkEntries entries + 1
  | .held _ => 1
def uptoBulkAll {H : Type} : List (DataW H) → Nat
  | [] => 0
  | d :: r => uptoBulk d + uptoBulkAll r
def uptoBulkEntries {H : Type} : List (Lit × DataW H) → Nat
  | [] => 0
  | x :: r => uptoBulkEntry x + uptoBulkEntries r
def uptoBulkEntry {H : Type} : Lit × DataW H → Nat
  | (.string bytes, d) => bytes.length + uptoBulk d + 1
  | (_, d) => uptoBulk d + 1
 end
def uptoSmall : (H : Type) → List (DataW H) → Bool := fun _ ds => decide (uptoBulkAll ds ≤ 1048576)
def OpenSpec.upto (s : _root_.Go.ChangeSpec) : _root_.Go.OpenSpec := { _root_.Go.OpenSpec.ofChange s with cond := some uptoSmall }

/-- 'laws.FnExactPathEscape', WHERE WHAT IT READS IS OF BULK AT MOST 1048576: true; the input reads as it did. -/
def fnExactPathEscapeUptoRow : OpenClaim := { program := "ytlbcnocngbiflaadoor", sum := "cbec87b64668e8288487230886c10d5a246b7bc75a87aeecbe42bec08ffeeb55", func := "loop.example/lib-g03409/laws.FnExactPathEscape", spec := "fnExactPathEscape", named := ["net/url.table"], apart := false, laid := [("net/url.table", laid_net_url_table)], narrowed := true }
def FnExactPathEscapeUptoSaid : Prop := fnExactPathEscapeUptoRow.holds Tryd.pinned (OpenSpec.upto fnExactPathEscapeSpec)

/-- 'laws.FnExactQueryEscape', WHERE WHAT IT READS IS OF BULK AT MOST 1048576: true; the input reads as it did. -/
def fnExactQueryEscapeUptoRow : OpenClaim := { program := "ytlbcnocngbiflaadoor", sum := "cbec87b64668e8288487230886c10d5a246b7bc75a87aeecbe42bec08ffeeb55", func := "loop.example/lib-g03409/laws.FnExactQueryEscape", spec := "fnExactQueryEscape", named := ["net/url.table"], apart := false, laid := [("net/url.table", laid_net_url_table)], narrowed := true }
def FnExactQueryEscapeUptoSaid : Prop := fnExactQueryEscapeUptoRow.holds Tryd.pinned (OpenSpec.upto fnExactQueryEscapeSpec)

/-- 'laws.FnPathApart', WHERE WHAT IT READS IS OF BULK AT MOST 1048576: true; the input reads as it did. -/
def fnPathApartUptoRow : OpenClaim := { program := "ytlbcnocngbiflaadoor", sum := "cbec87b64668e8288487230886c10d5a246b7bc75a87aeecbe42bec08ffeeb55", func := "loop.example/lib-g03409/laws.FnPathApart", spec := "fnPathApart", named := ["net/url.table"], apart := false, laid := [("net/url.table", laid_net_url_table)], narrowed := true }
def FnPathApartUptoSaid : Prop := fnPathApartUptoRow.holds Tryd.pinned (OpenSpec.upto fnPathApartSpec)

/-- 'laws.FnPathLength', WHERE WHAT IT READS IS OF BULK AT MOST 1048576: true; the input reads as it did. -/
def fnPathLengthUptoRow : OpenClaim := { program := "ytlbcnocngbiflaadoor", sum := "cbec87b64668e8288487230886c10d5a246b7bc75a87aeecbe42bec08ffeeb55", func := "loop.example/lib-g03409/laws.FnPathLength", spec := "fnPathLength", named := ["net/url.table"], apart := false, laid := [("net/url.table", laid_net_url_table)], narrowed := true }
def FnPathLengthUptoSaid : Prop := fnPathLengthUptoRow.holds Tryd.pinned (OpenSpec.upto fnPathLengthSpec)

/-- 'laws.FnPathPieces', WHERE WHAT IT READS IS OF BULK AT MOST 1048576: true; the input reads as it did. -/
def fnPathPiecesUptoRow : OpenClaim := { program := "ytlbcnocngbiflaadoor", sum := "cbec87b64668e8288487230886c10d5a246b7bc75a87aeecbe42bec08ffeeb55", func := "loop.example/lib-g03409/laws.FnPathPieces", spec := "fnPathPieces", named := ["net/url.table"], apart := false, laid := [("net/url.table", laid_net_url_table)], narrowed := true }
def FnPathPiecesUptoSaid : Prop := fnPathPiecesUptoRow.holds Tryd.pinned (OpenSpec.upto fnPathPiecesSpec)

/-- 'laws.FnPathSafe', WHERE WHAT IT READS IS OF BULK AT MOST 1048576: true; the input reads as it did. -/
def fnPathSafeUptoRow : OpenClaim := { program := "ytlbcnocngbiflaadoor", sum := "cbec87b64668e8288487230886c10d5a246b7bc75a87aeecbe42bec08ffeeb55", func := "loop.example/lib-g03409/laws.FnPathSafe", spec := "fnPathSafe", named := ["net/url.table"], apart := false, laid := [("net/url.table", laid_net_url_table)], narrowed := true }
def FnPathSafeUptoSaid : Prop := fnPathSafeUptoRow.holds Tryd.pinned (OpenSpec.upto fnPathSafeSpec)

/-- 'laws.FnPathSlash', WHERE WHAT IT READS IS OF BULK AT MOST 1048576: true; the input reads as it did. -/
def fnPathSlashUptoRow : OpenClaim := { program := "ytlbcnocngbiflaadoor", sum := "cbec87b64668e8288487230886c10d5a246b7bc75a87aeecbe42bec08ffeeb55", func := "loop.example/lib-g03409/laws.FnPathSlash", spec := "fnPathSlash", named := ["net/url.table"], apart := false, laid := [("net/url.table", laid_net_url_table)], narrowed := true }
def FnPathSlashUptoSaid : Prop := fnPathSlashUptoRow.holds Tryd.pinned (OpenSpec.upto fnPathSlashSpec)

/-- 'laws.FnPathTwice', WHERE WHAT IT READS IS OF BULK AT MOST 1048576: true; the input reads as it did. -/
def fnPathTwiceUptoRow : OpenClaim := { program := "ytlbcnocngbiflaadoor", sum := "cbec87b64668e8288487230886c10d5a246b7bc75a87aeecbe42bec08ffeeb55", func := "loop.example/lib-g03409/laws.FnPathTwice", spec := "fnPathTwice", named := ["net/url.table"], apart := false, laid := [("net/url.table", laid_net_url_table)], narrowed := true }
def FnPathTwiceUptoSaid : Prop := fnPathTwiceUptoRow.holds Tryd.pinned (OpenSpec.upto fnPathTwiceSpec)

end Rows
end Go.Proofs.YtlbcnocngbiflaaDoor
