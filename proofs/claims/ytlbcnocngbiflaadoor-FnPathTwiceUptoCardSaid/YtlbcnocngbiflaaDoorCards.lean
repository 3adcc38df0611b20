/-
  DERIVED. GIVEN WITH THE SEED: THE CARDS: each row of YtlbcnocngbiflaaDoorRows.lean that lists a variable, with what it lists TIED to the program's text (the seventh form; the later family's looks); each row that meets fmt, with fmt's text TOLD by the authors' own Lean function (tested against real Go, not proved from fmt's source: count such statements apart). THE CARD IS WHAT COUNTS. Prove the row's statement (the work); the ties are given (YtlbcnocngbiflaaDoorTie.lean); close each card by the builder's one call (the guide's Derived/Test/ToyasCard.lean, 'card_holds'). Laid BY PROGRAM, IN A SANDBOX (cutbox-door.mjs). By AI agents, Wed Nov 11 2026. No macro, syntax, notation, axiom, sorry.
-/
import Derived.Test.YtlbcnocngbiflaaDoorRows
import GoSem.ClaimSeven
namespace Go.Proofs.YtlbcnocngbiflaaDoor
namespace Rows

/-- THE TIED CARD OF 'laws.FnExactPathEscape'. -/
def fnExactPathEscapeCard : Claim7 := { stood := { row := fnExactPathEscapeRow, standIns := [], harness := (true, "4c2661661605ae7888f07666943de0be2e8ad9902f8ea418cd94cee2612b3f31"), looks := false }, kinds := [], alts := [], laidByText := true, laidKinds := [.data], laidTests := true, laidLooks := .later }
def FnExactPathEscapeCardSaid : Prop := Claim7.holds Tryd.pinned (.plain (OpenSpec.ofChange fnExactPathEscapeSpec)) fnExactPathEscapeCard

/-- THE TIED CARD OF 'laws.FnExactQueryEscape'. -/
def fnExactQueryEscapeCard : Claim7 := { stood := { row := fnExactQueryEscapeRow, standIns := [], harness := (true, "4c2661661605ae7888f07666943de0be2e8ad9902f8ea418cd94cee2612b3f31"), looks := false }, kinds := [], alts := [], laidByText := true, laidKinds := [.data], laidTests := true, laidLooks := .later }
def FnExactQueryEscapeCardSaid : Prop := Claim7.holds Tryd.pinned (.plain (OpenSpec.ofChange fnExactQueryEscapeSpec)) fnExactQueryEscapeCard

/-- THE TIED CARD OF 'laws.FnPathApart'. -/
def fnPathApartCard : Claim7 := { stood := { row := fnPathApartRow, standIns := [], harness := (true, "4c2661661605ae7888f07666943de0be2e8ad9902f8ea418cd94cee2612b3f31"), looks := false }, kinds := [], alts := [], laidByText := true, laidKinds := [.data], laidTests := true, laidLooks := .later }
def FnPathApartCardSaid : Prop := Claim7.holds Tryd.pinned (.plain (OpenSpec.ofChange fnPathApartSpec)) fnPathApartCard

/-- THE TIED CARD OF 'laws.FnPathLength'. -/
def fnPathLengthCard : Claim7 := { stood := { row := fnPathLengthRow, standIns := [], harness := (true, "4c2661661605ae7888f07666943de0be2e8ad9902f8ea418cd94cee2612b3f31"), looks := false }, kinds := [], alts := [], laidByText := true, laidKinds := [.data], laidTests := true, laidLooks := .later }
def FnPathLengthCardSaid : Prop := Claim7.holds Tryd.pinned (.plain (OpenSpec.ofChange fnPathLengthSpec)) fnPathLengthCard

/-- THE TIED CARD OF 'laws.FnPathPieces'. -/
def fnPathPiecesCard : Claim7 := { stood := { row := fnPathPiecesRow, standIns := [], harness := (true, "4c2661661605ae7888f07666943de0be2e8ad9902f8ea418cd94cee2612b3f31"), looks := false }, kinds := [], alts := [], laidByText := true, laidKinds := [.data], laidTests := true, laidLooks := .later }
def FnPathPiecesCardSaid : Prop := Claim7.holds Tryd.pinned (.plain (OpenSpec.ofChange fnPathPiecesSpec)) fnPathPiecesCard

/-- THE TIED CARD OF 'laws.FnPathSafe'. -/
def fnPathSafeCard : Claim7 := { stood := { row := fnPathSafeRow, standIns := [], harness := (true, "4c2661661605ae7888f07666943de0be2e8ad9902f8ea418cd94cee2612b3f31"), looks := false }, kinds := [], alts := [], laidByText := true, laidKinds := [.data], laidTests := true, laidLooks := .later }
def FnPathSafeCardSaid : Prop := Claim7.holds Tryd.pinned (.plain (OpenSpec.ofChange fnPathSafeSpec)) fnPathSafeCard

/-- THE TIED CARD OF 'laws.FnPathSlash'. -/
def fnPathSlashCard : Claim7 := { stood := { row := fnPathSlashRow, standIns := [], harness := (true, "4c2661661605ae7888f07666943de0be2e8ad9902f8ea418cd94cee2612b3f31"), looks := false }, kinds := [], alts := [], laidByText := true, laidKinds := [.data], laidTests := true, laidLooks := .later }
def FnPathSlashCardSaid : Prop := Claim7.holds Tryd.pinned (.plain (OpenSpec.ofChange fnPathSlashSpec)) fnPathSlashCard

/-- THE TIED CARD OF 'laws.FnPathTwice'. -/
def fnPathTwiceCard : Claim7 := { stood := { row := fnPathTwiceRow, standIns := [], harness := (true, "4c2661661605ae7888f07666943de0be2e8ad9902f8ea418cd94cee2612b3f31"), looks := false }, kinds := [], alts := [], laidByText := true, laidKinds := [.data], laidTests := true, laidLooks := .later }
def FnPathTwiceCardSaid : Prop := Claim7.holds Tryd.pinned (.plain (OpenSpec.ofChange fnPathTwiceSpec)) fnPathTwiceCard

/-- THE SECOND FORM's CARD OF 'laws.FnExactPathEscape'. -/
def fnExactPathEscapeUptoCard : Claim7 := { stood := { row := fnExactPathEscapeUptoRow, standIns := [], harness := (true, "4c2661661605ae7888f07666943de0be2e8ad9902f8ea418cd94cee2612b3f31"), looks := false }, kinds := [], alts := [], laidByText := true, laidKinds := [.data], laidTests := true, laidLooks := .later }
def FnExactPathEscapeUptoCardSaid : Prop := Claim7.holds Tryd.pinned (.plain (OpenSpec.upto fnExactPathEscapeSpec)) fnExactPathEscapeUptoCard

/-- THE SECOND FORM's CARD OF 'laws.FnExactQueryEscape'. -/
def fnExactQueryEscapeUptoCard : Claim7 := { stood := { row := fnExactQueryEscapeUptoRow, standIns := [], harness := (true, "4c2661661605ae7888f07666943de0be2e8ad9902f8ea418cd94cee2612b3f31"), looks := false }, kinds := [], alts := [], laidByText := true, laidKinds := [.data], laidTests := true, laidLooks := .later }
def FnExactQueryEscapeUptoCardSaid : Prop := Claim7.holds Tryd.pinned (.plain (OpenSpec.upto fnExactQueryEscapeSpec)) fnExactQueryEscapeUptoCard

/-- THE SECOND FORM's CARD OF 'laws.FnPathApart'. -/
def fnPathApartUptoCard : Claim7 := { stood := { row := fnPathApartUptoRow, standIns := [], harness := (true, "4c2661661605ae7888f07666943de0be2e8ad9902f8ea418cd94cee2612b3f31"), looks := false }, kinds := [], alts := [], laidByText := true, laidKinds := [.data], laidTests := true, laidLooks := .later }
def FnPathApartUptoCardSaid : Prop := Claim7.holds Tryd.pinned (.plain (OpenSpec.upto fnPathApartSpec)) fnPathApartUptoCard

/-- THE SECOND FORM's CARD OF 'laws.FnPathLength'. -/
def fnPathLengthUptoCard : Claim7 := { stood := { row := fnPathLengthUptoRow, standIns := [], harness := (true, "4c2661661605ae7888f07666943de0be2e8ad9902f8ea418cd94cee2612b3f31"), looks := false }, kinds := [], alts := [], laidByText := true, laidKinds := [.data], laidTests := true, laidLooks := .later }
def FnPathLengthUptoCardSaid : Prop := Claim7.holds Tryd.pinned (.plain (OpenSpec.upto fnPathLengthSpec)) fnPathLengthUptoCard

/-- THE SECOND FORM's CARD OF 'laws.FnPathPieces'. -/
def fnPathPiecesUptoCard : Claim7 := { stood := { row := fnPathPiecesUptoRow, standIns := [], harness := (true, "4c2661661605ae7888f07666943de0be2e8ad9902f8ea418cd94cee2612b3f31"), looks := false }, kinds := [], alts := [], laidByText := true, laidKinds := [.data], laidTests := true, laidLooks := .later }
def FnPathPiecesUptoCardSaid : Prop := Claim7.holds Tryd.pinned (.plain (OpenSpec.upto fnPathPiecesSpec)) fnPathPiecesUptoCard

/-- THE SECOND FORM's CARD OF 'laws.FnPathSafe'. -/
def fnPathSafeUptoCard : Claim7 := { stood := { row := fnPathSafeUptoRow, standIns := [], harness := (true, "4c2661661605ae7888f07666943de0be2e8ad9902f8ea418cd94cee2612b3f31"), looks := false }, kinds := [], alts := [], laidByText := true, laidKinds := [.data], laidTests := true, laidLooks := .later }
def FnPathSafeUptoCardSaid : Prop := Claim7.holds Tryd.pinned (.plain (OpenSpec.upto fnPathSafeSpec)) fnPathSafeUptoCard

/-- THE SECOND FORM's CARD OF 'laws.FnPathSlash'. -/
def fnPathSlashUptoCard : Claim7 := { stood := { row := fnPathSlashUptoRow, standIns := [], harness := (true, "4c2661661605ae7888f07666943de0be2e8ad9902f8ea418cd94cee2612b3f31"), looks := false }, kinds := [], alts := [], laidByText := true, laidKinds := [.data], laidTests := true, laidLooks := .later }
def FnPathSlashUptoCardSaid : Prop := Claim7.holds Tryd.pinned (.plain (OpenSpec.upto fnPathSlashSpec)) fnPathSlashUptoCard

/-- THE SECOND FORM's CARD OF 'laws.FnPathTwice'. -/
def fnPathTwiceUptoCard : Claim7 := { stood := { row := fnPathTwiceUptoRow, standIns := [], harness := (true, "4c2661661605ae7888f07666943de0be2e8ad9902f8ea418cd94cee2612b3f31"), looks := false }, kinds := [], alts := [], laidByText := true, laidKinds := [.data], laidTests := true, laidLooks := .later }
def FnPathTwiceUptoCardSaid : Prop := Claim7.holds Tryd.pinned (.plain (OpenSpec.upto fnPathTwiceSpec)) fnPathTwiceUptoCard
end Rows
end Go.Proofs.YtlbcnocngbiflaaDoor
