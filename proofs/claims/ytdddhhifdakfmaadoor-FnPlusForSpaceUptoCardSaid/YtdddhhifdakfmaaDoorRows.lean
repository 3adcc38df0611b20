/-
  NARROWER THAN 'FOR EVERY INPUT', by the rows' own cells (each row's printed sentence says how): FnQueryApart: laid · FnQueryLength: laid · FnQueryPieces: laid · FnQuerySafe: laid · FnQueryTwice: laid · FnPlainKept: laid · FnPlusForSpace: laid.
  DERIVED. THE GIVEN ROWS OF THIS SEAT. 7 by the template 'for every input the law returns true; each argument reads behind the call as it read before'; 0 by the template 'total and deterministic' (their statements: YtdddhhifdakfmaaDoorTotals.lean).
  GIVEN WITH THE SEED: the statements are not yours to turn. If you find one false, say at which input.
  Laid BY PROGRAM, IN A SANDBOX (cutbox-rows.mjs): the forced cells as the released guide's own fill.sh prints them over the translation aca6c06d74a3ed45… (all of the seat's roots in one cut). By AI agents, Wed Nov 11 2026. No macro, syntax, notation, axiom, sorry.
-/
import Derived.Test.YtdddhhifdakfmaaDoorChecked
import GoSem.Claim
import GoSem.ClaimJoined
import GoSem.ClaimMapViews
import Derived.JoinedTies
import Derived.KernelRfl
namespace Go.Proofs.YtdddhhifdakfmaaDoor
/- THE CELL 'sum', in the pinned program and in every row, IS THE sha256 OF THE DUMP (.gsa) THAT YtdddhhifdakfmaaDoorProg.lean LOADS. Nothing in Lean hashes anything: it is a label: what it is worth is what the hold of that sum in a sandbox is worth. -/
noncomputable def Tryd.pinned : Pinned := { name := "ytdddhhifdakfmaadoor", sum := "aca6c06d74a3ed452bce5b04483f28bbb6397ce91ba29dd71569d8ba57fafcc2", checked := Tryd.checked }
namespace Rows
def none {H : Type} : Left H := { results := [], args := [] }

/- WHAT THE LISTED PACKAGE-LEVEL VARIABLES READ AS WHEN THE CALL BEGINS. Each datum BY PROGRAM (the guide's laid-datum.mjs) off the statement by which the dump's own 'gosem.cut.vars' lays the variable. In a bare row this is a premise. The card (YtdddhhifdakfmaaDoorCards.lean) ties it to the program's text. -/
def laid_net_url_table {H : Type} : DataW H := .agg [.lit (.int .u8 0), .lit (.int .u8 0), .lit (.int .u8 0), .lit (.int .u8 0), .lit (.int .u8 0), .lit (.int .u8 0), .lit (.int .u8 0), .lit (.int .u8 0), .lit (.int .u8 0), .lit (.int .u8 0), .lit (.int .u8 0), .lit (.int .u8 0), .lit (.int .u8 0), .lit (.int .u8 0), .lit (.int .u8 0), .lit (.int .u8 0), .lit (.int .u8 0), .lit (.int .u8 0), .lit (.int .u8 0), .lit (.int .u8 0), .lit (.int .u8 0), .lit (.int .u8 0), .lit (.int .u8 0), .lit (.int .u8 0), .lit (.int .u8 0), .lit (.int .u8 0), .lit (.int .u8 0), .lit (.int .u8 0), .lit (.int .u8 0), .lit (.int .u8 0), .lit (.int .u8 0), .lit (.int .u8 0), .lit (.int .u8 0), .lit (.int .u8 76), .lit (.int .u8 12), .lit (.int .u8 0), .lit (.int .u8 95), .lit (.int .u8 0), .lit (.int .u8 95), .lit (.int .u8 12), .lit (.int .u8 76), .lit (.int .u8 76), .lit (.int .u8 76), .lit (.int .u8 95), .lit (.int .u8 93), .lit (.int .u8 127), .lit (.int .u8 127), .lit (.int .u8 65), .lit (.int .u8 255), .lit (.int .u8 255), .lit (.int .u8 255), .lit (.int .u8 255), .lit (.int .u8 255), .lit (.int .u8 255), .lit (.int .u8 255), .lit (.int .u8 255), .lit (.int .u8 255), .lit (.int .u8 255), .lit (.int .u8 79), .lit (.int .u8 93), .lit (.int .u8 12), .lit (.int .u8 95), .lit (.int .u8 12), .lit (.int .u8 64), .lit (.int .u8 67), .lit (.int .u8 255), .lit (.int .u8 255), .lit (.int .u8 255), .lit (.int .u8 255), .lit (.int .u8 255), .lit (.int .u8 255), .lit (.int .u8 127), .lit (.int .u8 127), .lit (.int .u8 127), .lit (.int .u8 127), .lit (.int .u8 127), .lit (.int .u8 127), .lit (.int .u8 127), .lit (.int .u8 127), .lit (.int .u8 127), .lit (.int .u8 127), .lit (.int .u8 127), .lit (.int .u8 127), .lit (.int .u8 127), .lit (.int .u8 127), .lit (.int .u8 127), .lit (.int .u8 127), .lit (.int .u8 127), .lit (.int .u8 127), .lit (.int .u8 127), .lit (.int .u8 127), .lit (.int .u8 12), .lit (.int .u8 0), .lit (.int .u8 12), .lit (.int .u8 0), .lit (.int .u8 127), .lit (.int .u8 0), .lit (.int .u8 255), .lit (.int .u8 255), .lit (.int .u8 255), .lit (.int .u8 255), .lit (.int .u8 255), .lit (.int .u8 255), .lit (.int .u8 127), .lit (.int .u8 127), .lit (.int .u8 127), .lit (.int .u8 127), .lit (.int .u8 127), .lit (.int .u8 127), .lit (.int .u8 127), .lit (.int .u8 127), .lit (.int .u8 127), .lit (.int .u8 127), .lit (.int .u8 127), .lit (.int .u8 127), .lit (.int .u8 127), .lit (.int .u8 127), .lit (.int .u8 127), .lit (.int .u8 127), .lit (.int .u8 127), .lit (.int .u8 127), .lit (.int .u8 127), .lit (.int .u8 127), .lit (.int .u8 0), .lit (.int .u8 0), .lit (.int .u8 0), .lit (.int .u8 127), .lit (.int .u8 0), .lit (.int .u8 0), .lit (.int .u8 0), .lit (.int .u8 0), .lit (.int .u8 0), .lit (.int .u8 0), .lit (.int .u8 0), .lit (.int .u8 0), .lit (.int .u8 0), .lit (.int .u8 0), .lit (.int .u8 0), .lit (.int .u8 0), .lit (.int .u8 0), .lit (.int .u8 0), .lit (.int .u8 0), .lit (.int .u8 0), .lit (.int .u8 0), .lit (.int .u8 0), .lit (.int .u8 0), .lit (.int .u8 0), .lit (.int .u8 0), .lit (.int .u8 0), .lit (.int .u8 0), .lit (.int .u8 0), .lit (.int .u8 0), .lit (.int .u8 0), .lit (.int .u8 0), .lit (.int .u8 0), .lit (.int .u8 0), .lit (.int .u8 0), .lit (.int .u8 0), .lit (.int .u8 0), .lit (.int .u8 0), .lit (.int .u8 0), .lit (.int .u8 0), .lit (.int .u8 0), .lit (.int .u8 0), .lit (.int .u8 0), .lit (.int .u8 0), .lit (.int .u8 0), .lit (.int .u8 0), .lit (.int .u8 0), .lit (.int .u8 0), .lit (.int .u8 0), .lit (.int .u8 0), .lit (.int .u8 0), .lit (.int .u8 0), .lit (.int .u8 0), .lit (.int .u8 0), .lit (.int .u8 0), .lit (.int .u8 0), .lit (.int .u8 0), .lit (.int .u8 0), .lit (.int .u8 0), .lit (.int .u8 0), .lit (.int .u8 0), .lit (.int .u8 0), .lit (.int .u8 0), .lit (.int .u8 0), .lit (.int .u8 0), .lit (.int .u8 0), .lit (.int .u8 0), .lit (.int .u8 0), .lit (.int .u8 0), .lit (.int .u8 0), .lit (.int .u8 0), .lit (.int .u8 0), .lit (.int .u8 0), .lit (.int .u8 0), .lit (.int .u8 0), .lit (.int .u8 0), .lit (.int .u8 0), .lit (.int .u8 0), .lit (.int .u8 0), .lit (.int .u8 0), .lit (.int .u8 0), .lit (.int .u8 0), .lit (.int .u8 0), .lit (.int .u8 0), .lit (.int .u8 0), .lit (.int .u8 0), .lit (.int .u8 0), .lit (.int .u8 0), .lit (.int .u8 0), .lit (.int .u8 0), .lit (.int .u8 0), .lit (.int .u8 0), .lit (.int .u8 0), .lit (.int .u8 0), .lit (.int .u8 0), .lit (.int .u8 0), .lit (.int .u8 0), .lit (.int .u8 0), .lit (.int .u8 0), .lit (.int .u8 0), .lit (.int .u8 0), .lit (.int .u8 0), .lit (.int .u8 0), .lit (.int .u8 0), .lit (.int .u8 0), .lit (.int .u8 0), .lit (.int .u8 0), .lit (.int .u8 0), .lit (.int .u8 0), .lit (.int .u8 0), .lit (.int .u8 0), .lit (.int .u8 0), .lit (.int .u8 0), .lit (.int .u8 0), .lit (.int .u8 0), .lit (.int .u8 0), .lit (.int .u8 0), .lit (.int .u8 0), .lit (.int .u8 0), .lit (.int .u8 0), .lit (.int .u8 0), .lit (.int .u8 0), .lit (.int .u8 0), .lit (.int .u8 0), .lit (.int .u8 0), .lit (.int .u8 0), .lit (.int .u8 0), .lit (.int .u8 0), .lit (.int .u8 0), .lit (.int .u8 0), .lit (.int .u8 0), .lit (.int .u8 0), .lit (.int .u8 0), .lit (.int .u8 0)]

/-- 'laws.FnQueryApart': WHATEVER THE INPUT: true; the input reads as it did. -/
def fnQueryApartSpec : ChangeSpec := { name := "fnQueryApart", fn := fun _ => fun
  | [d1, d2] => { results := [.lit (.bool true)], args := [d1, d2] }
  | _ => none }
def fnQueryApartRow : OpenClaim := { program := "ytdddhhifdakfmaadoor", sum := "aca6c06d74a3ed452bce5b04483f28bbb6397ce91ba29dd71569d8ba57fafcc2", func := "loop.example/lib-g03409/laws.FnQueryApart", spec := "fnQueryApart", named := ["net/url.table"], apart := false, laid := [("net/url.table", laid_net_url_table)] }
def FnQueryApartSaid : Prop := fnQueryApartRow.holds Tryd.pinned (OpenSpec.ofChange fnQueryApartSpec)

/-- ITS FALSE NEIGHBOUR: 'it returns false'. Refute it at one input. -/
def fnQueryApartWrong : ChangeSpec := { name := "fnQueryApart", fn := fun _ => fun
  | [d1, d2] => { results := [.lit (.bool false)], args := [d1, d2] }
  | _ => none }
def FnQueryApartWrongFalsely : Prop := fnQueryApartRow.holds Tryd.pinned (OpenSpec.ofChange fnQueryApartWrong)

/-- 'laws.FnQueryLength': WHATEVER THE INPUT: true; the input reads as it did. -/
def fnQueryLengthSpec : ChangeSpec := { name := "fnQueryLength", fn := fun _ => fun
  | [d] => { results := [.lit (.bool true)], args := [d] }
  | _ => none }
def fnQueryLengthRow : OpenClaim := { program := "ytdddhhifdakfmaadoor", sum := "aca6c06d74a3ed452bce5b04483f28bbb6397ce91ba29dd71569d8ba57fafcc2", func := "loop.example/lib-g03409/laws.FnQueryLength", spec := "fnQueryLength", named := ["net/url.table"], apart := false, laid := [("net/url.table", laid_net_url_table)] }
def FnQueryLengthSaid : Prop := fnQueryLengthRow.holds Tryd.pinned (OpenSpec.ofChange fnQueryLengthSpec)

/-- ITS FALSE NEIGHBOUR: 'it returns false'. Refute it at one input. -/
def fnQueryLengthWrong : ChangeSpec := { name := "fnQueryLength", fn := fun _ => fun
  | [d] => { results := [.lit (.bool false)], args := [d] }
  | _ => none }
def FnQueryLengthWrongFalsely : Prop := fnQueryLengthRow.holds Tryd.pinned (OpenSpec.ofChange fnQueryLengthWrong)

/-- 'laws.FnQueryPieces': WHATEVER THE INPUT: true; the input reads as it did. -/
def fnQueryPiecesSpec : ChangeSpec := { name := "fnQueryPieces", fn := fun _ => fun
  | [d1, d2] => { results := [.lit (.bool true)], args := [d1, d2] }
  | _ => none }
def fnQueryPiecesRow : OpenClaim := { program := "ytdddhhifdakfmaadoor", sum := "aca6c06d74a3ed452bce5b04483f28bbb6397ce91ba29dd71569d8ba57fafcc2", func := "loop.example/lib-g03409/laws.FnQueryPieces", spec := "fnQueryPieces", named := ["net/url.table"], apart := false, laid := [("net/url.table", laid_net_url_table)] }
def FnQueryPiecesSaid : Prop := fnQueryPiecesRow.holds Tryd.pinned (OpenSpec.ofChange fnQueryPiecesSpec)

/-- ITS FALSE NEIGHBOUR: 'it returns false'. Refute it at one input. -/
def fnQueryPiecesWrong : ChangeSpec := { name := "fnQueryPieces", fn := fun _ => fun
  | [d1, d2] => { results := [.lit (.bool false)], args := [d1, d2] }
  | _ => none }
def FnQueryPiecesWrongFalsely : Prop := fnQueryPiecesRow.holds Tryd.pinned (OpenSpec.ofChange fnQueryPiecesWrong)

/-- 'laws.FnQuerySafe': WHATEVER THE INPUT: true; the input reads as it did. -/
def fnQuerySafeSpec : ChangeSpec := { name := "fnQuerySafe", fn := fun _ => fun
  | [d] => { results := [.lit (.bool true)], args := [d] }
  | _ => none }
def fnQuerySafeRow : OpenClaim := { program := "ytdddhhifdakfmaadoor", sum := "aca6c06d74a3ed452bce5b04483f28bbb6397ce91ba29dd71569d8ba57fafcc2", func := "loop.example/lib-g03409/laws.FnQuerySafe", spec := "fnQuerySafe", named := ["net/url.table"], apart := false, laid := [("net/url.table", laid_net_url_table)] }
def FnQuerySafeSaid : Prop := fnQuerySafeRow.holds Tryd.pinned (OpenSpec.ofChange fnQuerySafeSpec)

/-- ITS FALSE NEIGHBOUR: 'it returns false'. Refute it at one input. -/
def fnQuerySafeWrong : ChangeSpec := { name := "fnQuerySafe", fn := fun _ => fun
  | [d] => { results := [.lit (.bool false)], args := [d] }
  | _ => none }
def FnQuerySafeWrongFalsely : Prop := fnQuerySafeRow.holds Tryd.pinned (OpenSpec.ofChange fnQuerySafeWrong)

/-- 'laws.FnQueryTwice': WHATEVER THE INPUT: true; the input reads as it did. -/
def fnQueryTwiceSpec : ChangeSpec := { name := "fnQueryTwice", fn := fun _ => fun
  | [d] => { results := [.lit (.bool true)], args := [d] }
  | _ => none }
def fnQueryTwiceRow : OpenClaim := { program := "ytdddhhifdakfmaadoor", sum := "aca6c06d74a3ed452bce5b04483f28bbb6397ce91ba29dd71569d8ba57fafcc2", func := "loop.example/lib-g03409/laws.FnQueryTwice", spec := "fnQueryTwice", named := ["net/url.table"], apart := false, laid := [("net/url.table", laid_net_url_table)] }
def FnQueryTwiceSaid : Prop := fnQueryTwiceRow.holds Tryd.pinned (OpenSpec.ofChange fnQueryTwiceSpec)

/-- ITS FALSE NEIGHBOUR: 'it returns false'. Refute it at one input. -/
def fnQueryTwiceWrong : ChangeSpec := { name := "fnQueryTwice", fn := fun _ => fun
  | [d] => { results := [.lit (.bool false)], args := [d] }
  | _ => none }
def FnQueryTwiceWrongFalsely : Prop := fnQueryTwiceRow.holds Tryd.pinned (OpenSpec.ofChange fnQueryTwiceWrong)

/-- 'laws.FnPlainKept': WHATEVER THE INPUT: true; the input reads as it did. -/
def fnPlainKeptSpec : ChangeSpec := { name := "fnPlainKept", fn := fun _ => fun
  | [d] => { results := [.lit (.bool true)], args := [d] }
  | _ => none }
def fnPlainKeptRow : OpenClaim := { program := "ytdddhhifdakfmaadoor", sum := "aca6c06d74a3ed452bce5b04483f28bbb6397ce91ba29dd71569d8ba57fafcc2", func := "loop.example/lib-g03409/laws.FnPlainKept", spec := "fnPlainKept", named := ["net/url.table"], apart := false, laid := [("net/url.table", laid_net_url_table)] }
def FnPlainKeptSaid : Prop := fnPlainKeptRow.holds Tryd.pinned (OpenSpec.ofChange fnPlainKeptSpec)

/-- ITS FALSE NEIGHBOUR: 'it returns false'. Refute it at one input. -/
def fnPlainKeptWrong : ChangeSpec := { name := "fnPlainKept", fn := fun _ => fun
  | [d] => { results := [.lit (.bool false)], args := [d] }
  | _ => none }
def FnPlainKeptWrongFalsely : Prop := fnPlainKeptRow.holds Tryd.pinned (OpenSpec.ofChange fnPlainKeptWrong)

/-- 'laws.FnPlusForSpace': WHATEVER THE INPUT: true; the input reads as it did. -/
def fnPlusForSpaceSpec : ChangeSpec := { name := "fnPlusForSpace", fn := fun _ => fun
  | [d] => { results := [.lit (.bool true)], args := [d] }
  | _ => none }
def fnPlusForSpaceRow : OpenClaim := { program := "ytdddhhifdakfmaadoor", sum := "aca6c06d74a3ed452bce5b04483f28bbb6397ce91ba29dd71569d8ba57fafcc2", func := "loop.example/lib-g03409/laws.FnPlusForSpace", spec := "fnPlusForSpace", named := ["net/url.table"], apart := false, laid := [("net/url.table", laid_net_url_table)] }
def FnPlusForSpaceSaid : Prop := fnPlusForSpaceRow.holds Tryd.pinned (OpenSpec.ofChange fnPlusForSpaceSpec)

/-- ITS FALSE NEIGHBOUR: 'it returns false'. Refute it at one input. -/
def fnPlusForSpaceWrong : ChangeSpec := { name := "fnPlusForSpace", fn := fun _ => fun
  | [d] => { results := [.lit (.bool false)], args := [d] }
  | _ => none }
def FnPlusForSpaceWrongFalsely : Prop := fnPlusForSpaceRow.holds Tryd.pinned (OpenSpec.ofChange fnPlusForSpaceWrong)

/- THE SECOND FORM. 'bulk': how many values and letters a reading holds, each counted each time it is reached (what is shared counts as often as it is met; a slice's spare places count too). A statement '..UptoSaid' is the law's where the arguments, and the package variables that the reading takes, are together of bulk at most 1048576: NARROWER than '..Said'. Prove '..Said' where nothing that the law and all that it calls make is longer than what came in: it says more and counts as full. Else prove '..UptoSaid'. A law counts once. -/
mutual
def uptoBulk {H : Type} : DataW H → Nat
  | .lit (.string bytes) => bytes.length + 1
  | .lit _ => 1
  | .nil => 1
  | .ptr d => uptoBulk d + 1
  | .slice elems spare => uptoBulkAll elems + uptoBulkAll spare + 1
  | .agg parts => uptoBulkAll parts + 1
  | .iface _ d => uptoBulk d + 1
  | .map entries => uptoBulkEntries entries + 1
  | .held _ => 1
def uptoBulkAll {H : Type} : List (DataW H) → Nat
  | [] => 0
  | d :: r => uptoBulk d + uptoBulkAll r
def uptoBulkEntries {H : Type} : List (Lit × DataW H) → Nat
  | [] => 0
  | x :: r => uptoBulkEntry x + uptoBulkEntries r
def uptoBulkEntry {H : Type} : Lit × DataW H → Nat
  | (.string bytes, d) => bytes.length + uptoBulk d + 1
  | (_, d) => uptoBulk d + 1
 end
def uptoSmall : (H : Type) → List (DataW H) → Bool := fun _ ds => decide (uptoBulkAll ds ≤ 1048576)
def OpenSpec.upto (s : _root_.Go.ChangeSpec) : _root_.Go.OpenSpec := { _root_.Go.OpenSpec.ofChange s with cond := some uptoSmall }

/-- 'laws.FnQueryApart', WHERE WHAT IT READS IS OF BULK AT MOST 1048576: true; the input reads as it did. -/
def fnQueryApartUptoRow : OpenClaim := { program := "ytdddhhifdakfmaadoor", sum := "aca6c06d74a3ed452bce5b04483f28bbb6397ce91ba29dd71569d8ba57fafcc2", func := "loop.example/lib-g03409/laws.FnQueryApart", spec := "fnQueryApart", named := ["net/url.table"], apart := false, laid := [("net/url.table", laid_net_url_table)], narrowed := true }
def FnQueryApartUptoSaid : Prop := fnQueryApartUptoRow.holds Tryd.pinned (OpenSpec.upto fnQueryApartSpec)

/-- 'laws.FnQueryLength', WHERE WHAT IT READS IS OF BULK AT MOST 1048576: true; the input reads as it did. -/
def fnQueryLengthUptoRow : OpenClaim := { program := "ytdddhhifdakfmaadoor", sum := "aca6c06d74a3ed452bce5b04483f28bbb6397ce91ba29dd71569d8ba57fafcc2", func := "loop.example/lib-g03409/laws.FnQueryLength", spec := "fnQueryLength", named := ["net/url.table"], apart := false, laid := [("net/url.table", laid_net_url_table)], narrowed := true }
def FnQueryLengthUptoSaid : Prop := fnQueryLengthUptoRow.holds Tryd.pinned (OpenSpec.upto fnQueryLengthSpec)

/-- 'laws.FnQueryPieces', WHERE WHAT IT READS IS OF BULK AT MOST 1048576: true; the input reads as it did. -/
def fnQueryPiecesUptoRow : OpenClaim := { program := "ytdddhhifdakfmaadoor", sum := "aca6c06d74a3ed452bce5b04483f28bbb6397ce91ba29dd71569d8ba57fafcc2", func := "loop.example/lib-g03409/laws.FnQueryPieces", spec := "fnQueryPieces", named := ["net/url.table"], apart := false, laid := [("net/url.table", laid_net_url_table)], narrowed := true }
def FnQueryPiecesUptoSaid : Prop := fnQueryPiecesUptoRow.holds Tryd.pinned (OpenSpec.upto fnQueryPiecesSpec)

/-- 'laws.FnQuerySafe', WHERE WHAT IT READS IS OF BULK AT MOST 1048576: true; the input reads as it did. -/
def fnQuerySafeUptoRow : OpenClaim := { program := "ytdddhhifdakfmaadoor", sum := "aca6c06d74a3ed452bce5b04483f28bbb6397ce91ba29dd71569d8ba57fafcc2", func := "loop.example/lib-g03409/laws.FnQuerySafe", spec := "fnQuerySafe", named := ["net/url.table"], apart := false, laid := [("net/url.table", laid_net_url_table)], narrowed := true }
def FnQuerySafeUptoSaid : Prop := fnQuerySafeUptoRow.holds Tryd.pinned (OpenSpec.upto fnQuerySafeSpec)

/-- 'laws.FnQueryTwice', WHERE WHAT IT READS IS OF BULK AT MOST 1048576: true; the input reads as it did. -/
def fnQueryTwiceUptoRow : OpenClaim := { program := "ytdddhhifdakfmaadoor", sum := "aca6c06d74a3ed452bce5b04483f28bbb6397ce91ba29dd71569d8ba57fafcc2", func := "loop.example/lib-g03409/laws.FnQueryTwice", spec := "fnQueryTwice", named := ["net/url.table"], apart := false, laid := [("net/url.table", laid_net_url_table)], narrowed := true }
def FnQueryTwiceUptoSaid : Prop := fnQueryTwiceUptoRow.holds Tryd.pinned (OpenSpec.upto fnQueryTwiceSpec)

/-- 'laws.FnPlainKept', WHERE WHAT IT READS IS OF BULK AT MOST 1048576: true; the input reads as it did. -/
def fnPlainKeptUptoRow : OpenClaim := { program := "ytdddhhifdakfmaadoor", sum := "aca6c06d74a3ed452bce5b04483f28bbb6397ce91ba29dd71569d8ba57fafcc2", func := "loop.example/lib-g03409/laws.FnPlainKept", spec := "fnPlainKept", named := ["net/url.table"], apart := false, laid := [("net/url.table", laid_net_url_table)], narrowed := true }
def FnPlainKeptUptoSaid : Prop := fnPlainKeptUptoRow.holds Tryd.pinned (OpenSpec.upto fnPlainKeptSpec)

/-- 'laws.FnPlusForSpace', WHERE WHAT IT READS IS OF BULK AT MOST 1048576: true; the input reads as it did. -/
def fnPlusForSpaceUptoRow : OpenClaim := { program := "ytdddhhifdakfmaadoor", sum := "aca6c06d74a3ed452bce5b04483f28bbb6397ce91ba29dd71569d8ba57fafcc2", func := "loop.example/lib-g03409/laws.FnPlusForSpace", spec := "fnPlusForSpace", named := ["net/url.table"], apart := false, laid := [("net/url.table", laid_net_url_table)], narrowed := true }
def FnPlusForSpaceUptoSaid : Prop := fnPlusForSpaceUptoRow.holds Tryd.pinned (OpenSpec.upto fnPlusForSpaceSpec)

end Rows
end Go.Proofs.YtdddhhifdakfmaaDoor
