/-
  DERIVED. GIVEN WITH THE SEED: THE CARDS: each row of YtdddhhifdakfmaaDoorRows.lean that lists a variable, with what it lists TIED to the program's text (the seventh form; the later family's looks); each row that meets fmt, with fmt's text TOLD by the authors' own Lean function (tested against real Go, not proved from fmt's source: count such statements apart). THE CARD IS WHAT COUNTS. Prove the row's statement (the work); the ties are given (YtdddhhifdakfmaaDoorTie.lean); close each card by the builder's one call (the guide's Derived/Test/ToyasCard.lean, 'card_holds'). Laid BY PROGRAM, IN A SANDBOX (cutbox-door.mjs). By AI agents, Wed Nov 11 2026. No macro, syntax, notation, axiom, sorry.
-/
import Derived.Test.YtdddhhifdakfmaaDoorRows
import GoSem.ClaimSeven
namespace Go.Proofs.YtdddhhifdakfmaaDoor
namespace Rows

/-- THE TIED CARD OF 'laws.FnQueryApart'. -/
def fnQueryApartCard : Claim7 := { stood := { row := fnQueryApartRow, standIns := [], harness := (true, "151f748cbbf81300603ac6abb05e35e9f84d5df26faae157523138aeec6ec595"), looks := false }, kinds := [], alts := [], laidByText := true, laidKinds := [.data], laidTests := true, laidLooks := .later }
def FnQueryApartCardSaid : Prop := Claim7.holds Tryd.pinned (.plain (OpenSpec.ofChange fnQueryApartSpec)) fnQueryApartCard

/-- THE TIED CARD OF 'laws.FnQueryLength'. -/
def fnQueryLengthCard : Claim7 := { stood := { row := fnQueryLengthRow, standIns := [], harness := (true, "151f748cbbf81300603ac6abb05e35e9f84d5df26faae157523138aeec6ec595"), looks := false }, kinds := [], alts := [], laidByText := true, laidKinds := [.data], laidTests := true, laidLooks := .later }
def FnQueryLengthCardSaid : Prop := Claim7.holds Tryd.pinned (.plain (OpenSpec.ofChange fnQueryLengthSpec)) fnQueryLengthCard

/-- THE TIED CARD OF 'laws.FnQueryPieces'. -/
def fnQueryPiecesCard : Claim7 := { stood := { row := fnQueryPiecesRow, standIns := [], harness := (true, "151f748cbbf81300603ac6abb05e35e9f84d5df26faae157523138aeec6ec595"), looks := false }, kinds := [], alts := [], laidByText := true, laidKinds := [.data], laidTests := true, laidLooks := .later }
def FnQueryPiecesCardSaid : Prop := Claim7.holds Tryd.pinned (.plain (OpenSpec.ofChange fnQueryPiecesSpec)) fnQueryPiecesCard

/-- THE TIED CARD OF 'laws.FnQuerySafe'. -/
def fnQuerySafeCard : Claim7 := { stood := { row := fnQuerySafeRow, standIns := [], harness := (true, "151f748cbbf81300603ac6abb05e35e9f84d5df26faae157523138aeec6ec595"), looks := false }, kinds := [], alts := [], laidByText := true, laidKinds := [.data], laidTests := true, laidLooks := .later }
def FnQuerySafeCardSaid : Prop := Claim7.holds Tryd.pinned (.plain (OpenSpec.ofChange fnQuerySafeSpec)) fnQuerySafeCard

/-- THE TIED CARD OF 'laws.FnQueryTwice'. -/
def fnQueryTwiceCard : Claim7 := { stood := { row := fnQueryTwiceRow, standIns := [], harness := (true, "151f748cbbf81300603ac6abb05e35e9f84d5df26faae157523138aeec6ec595"), looks := false }, kinds := [], alts := [], laidByText := true, laidKinds := [.data], laidTests := true, laidLooks := .later }
def FnQueryTwiceCardSaid : Prop := Claim7.holds Tryd.pinned (.plain (OpenSpec.ofChange fnQueryTwiceSpec)) fnQueryTwiceCard

/-- THE TIED CARD OF 'laws.FnPlainKept'. -/
def fnPlainKeptCard : Claim7 := { stood := { row := fnPlainKeptRow, standIns := [], harness := (true, "151f748cbbf81300603ac6abb05e35e9f84d5df26faae157523138aeec6ec595"), looks := false }, kinds := [], alts := [], laidByText := true, laidKinds := [.data], laidTests := true, laidLooks := .later }
def FnPlainKeptCardSaid : Prop := Claim7.holds Tryd.pinned (.plain (OpenSpec.ofChange fnPlainKeptSpec)) fnPlainKeptCard

/-- THE TIED CARD OF 'laws.FnPlusForSpace'. -/
def fnPlusForSpaceCard : Claim7 := { stood := { row := fnPlusForSpaceRow, standIns := [], harness := (true, "151f748cbbf81300603ac6abb05e35e9f84d5df26faae157523138aeec6ec595"), looks := false }, kinds := [], alts := [], laidByText := true, laidKinds := [.data], laidTests := true, laidLooks := .later }
def FnPlusForSpaceCardSaid : Prop := Claim7.holds Tryd.pinned (.plain (OpenSpec.ofChange fnPlusForSpaceSpec)) fnPlusForSpaceCard

/-- THE SECOND FORM's CARD OF 'laws.FnQueryApart'. -/
def fnQueryApartUptoCard : Claim7 := { stood := { row := fnQueryApartUptoRow, standIns := [], harness := (true, "151f748cbbf81300603ac6abb05e35e9f84d5df26faae157523138aeec6ec595"), looks := false }, kinds := [], alts := [], laidByText := true, laidKinds := [.data], laidTests := true, laidLooks := .later }
def FnQueryApartUptoCardSaid : Prop := Claim7.holds Tryd.pinned (.plain (OpenSpec.upto fnQueryApartSpec)) fnQueryApartUptoCard

/-- THE SECOND FORM's CARD OF 'laws.FnQueryLength'. -/
def fnQueryLengthUptoCard : Claim7 := { stood := { row := fnQueryLengthUptoRow, standIns := [], harness := (true, "151f748cbbf81300603ac6abb05e35e9f84d5df26faae157523138aeec6ec595"), looks := false }, kinds := [], alts := [], laidByText := true, laidKinds := [.data], laidTests := true, laidLooks := .later }
def FnQueryLengthUptoCardSaid : Prop := Claim7.holds Tryd.pinned (.plain (OpenSpec.upto fnQueryLengthSpec)) fnQueryLengthUptoCard

/-- THE SECOND FORM's CARD OF 'laws.FnQueryPieces'. -/
def fnQueryPiecesUptoCard : Claim7 := { stood := { row := fnQueryPiecesUptoRow, standIns := [], harness := (true, "151f748cbbf81300603ac6abb05e35e9f84d5df26faae157523138aeec6ec595"), looks := false }, kinds := [], alts := [], laidByText := true, laidKinds := [.data], laidTests := true, laidLooks := .later }
def FnQueryPiecesUptoCardSaid : Prop := Claim7.holds Tryd.pinned (.plain (OpenSpec.upto fnQueryPiecesSpec)) fnQueryPiecesUptoCard

/-- THE SECOND FORM's CARD OF 'laws.FnQuerySafe'. -/
def fnQuerySafeUptoCard : Claim7 := { stood := { row := fnQuerySafeUptoRow, standIns := [], harness := (true, "151f748cbbf81300603ac6abb05e35e9f84d5df26faae157523138aeec6ec595"), looks := false }, kinds := [], alts := [], laidByText := true, laidKinds := [.data], laidTests := true, laidLooks := .later }
def FnQuerySafeUptoCardSaid : Prop := Claim7.holds Tryd.pinned (.plain (OpenSpec.upto fnQuerySafeSpec)) fnQuerySafeUptoCard

/-- THE SECOND FORM's CARD OF 'laws.FnQueryTwice'. -/
def fnQueryTwiceUptoCard : Claim7 := { stood := { row := fnQueryTwiceUptoRow, standIns := [], harness := (true, "151f748cbbf81300603ac6abb05e35e9f84d5df26faae157523138aeec6ec595"), looks := false }, kinds := [], alts := [], laidByText := true, laidKinds := [.data], laidTests := true, laidLooks := .later }
def FnQueryTwiceUptoCardSaid : Prop := Claim7.holds Tryd.pinned (.plain (OpenSpec.upto fnQueryTwiceSpec)) fnQueryTwiceUptoCard

/-- THE SECOND FORM's CARD OF 'laws.FnPlainKept'. -/
def fnPlainKeptUptoCard : Claim7 := { stood := { row := fnPlainKeptUptoRow, standIns := [], harness := (true, "151f748cbbf81300603ac6abb05e35e9f84d5df26faae157523138aeec6ec595"), looks := false }, kinds := [], alts := [], laidByText := true, laidKinds := [.data], laidTests := true, laidLooks := .later }
def FnPlainKeptUptoCardSaid : Prop := Claim7.holds Tryd.pinned (.plain (OpenSpec.upto fnPlainKeptSpec)) fnPlainKeptUptoCard

/-- THE SECOND FORM's CARD OF 'laws.FnPlusForSpace'. -/
def fnPlusForSpaceUptoCard : Claim7 := { stood := { row := fnPlusForSpaceUptoRow, standIns := [], harness := (true, "151f748cbbf81300603ac6abb05e35e9f84d5df26faae157523138aeec6ec595"), looks := false }, kinds := [], alts := [], laidByText := true, laidKinds := [.data], laidTests := true, laidLooks := .later }
def FnPlusForSpaceUptoCardSaid : Prop := Claim7.holds Tryd.pinned (.plain (OpenSpec.upto fnPlusForSpaceSpec)) fnPlusForSpaceUptoCard
end Rows
end Go.Proofs.YtdddhhifdakfmaaDoor
