/-
  DERIVED. GIVEN WITH THE SEED: THE CARDS: each row of YtckdlmbdgjcncaaDoorRows.lean that lists a variable, with what it lists TIED to the program's text (the seventh form; the later family's looks); each row that meets fmt, with fmt's text TOLD by the authors' own Lean function (tested against real Go, not proved from fmt's source: count such statements apart). THE CARD IS WHAT COUNTS. Prove the row's statement (the work); the ties are given (YtckdlmbdgjcncaaDoorTie.lean); close each card by the builder's one call (the guide's Derived/Test/ToyasCard.lean, 'card_holds'). Laid BY PROGRAM, IN A SANDBOX (cutbox-door.mjs). By AI agents, Wed Nov 11 2026. No macro, syntax, notation, axiom, sorry.
-/
import Derived.Test.YtckdlmbdgjcncaaDoorRows
import GoSem.ClaimSeven
namespace Go.Proofs.YtckdlmbdgjcncaaDoor
namespace Rows

/-- THE TIED CARD OF 'laws.FnPathInverse'. -/
def fnPathInverseCard : Claim7 := { stood := { row := fnPathInverseRow, standIns := [], harness := (true, "ffa68909857db67c3cd7f654d9d4ecc57a2f01185b66cbeaf45db93b0db434d2"), looks := false }, kinds := [], alts := [], laidByText := true, laidKinds := [.data], laidTests := true, laidLooks := .later }
def FnPathInverseCardSaid : Prop := Claim7.holds Tryd.pinned (.plain (OpenSpec.ofChange fnPathInverseSpec)) fnPathInverseCard

/-- THE TIED CARD OF 'laws.FnQueryInverse'. -/
def fnQueryInverseCard : Claim7 := { stood := { row := fnQueryInverseRow, standIns := [], harness := (true, "ffa68909857db67c3cd7f654d9d4ecc57a2f01185b66cbeaf45db93b0db434d2"), looks := false }, kinds := [], alts := [], laidByText := true, laidKinds := [.data], laidTests := true, laidLooks := .later }
def FnQueryInverseCardSaid : Prop := Claim7.holds Tryd.pinned (.plain (OpenSpec.ofChange fnQueryInverseSpec)) fnQueryInverseCard

/-- THE TIED CARD OF 'laws.FnOtherRoad'. -/
def fnOtherRoadCard : Claim7 := { stood := { row := fnOtherRoadRow, standIns := [], harness := (true, "ffa68909857db67c3cd7f654d9d4ecc57a2f01185b66cbeaf45db93b0db434d2"), looks := false }, kinds := [], alts := [], laidByText := true, laidKinds := [.data], laidTests := true, laidLooks := .later }
def FnOtherRoadCardSaid : Prop := Claim7.holds Tryd.pinned (.plain (OpenSpec.ofChange fnOtherRoadSpec)) fnOtherRoadCard

/-- THE TIED CARD OF 'laws.FnExactPathUnescape'. -/
def fnExactPathUnescapeCard : Claim7 := { stood := { row := fnExactPathUnescapeRow, standIns := [], harness := (true, "ffa68909857db67c3cd7f654d9d4ecc57a2f01185b66cbeaf45db93b0db434d2"), looks := false }, kinds := [], alts := [], laidByText := true, laidKinds := [.data], laidTests := true, laidLooks := .later }
def FnExactPathUnescapeCardSaid : Prop := Claim7.holds Tryd.pinned (.plain (OpenSpec.ofChange fnExactPathUnescapeSpec)) fnExactPathUnescapeCard

/-- THE TIED CARD OF 'laws.FnExactQueryUnescape'. -/
def fnExactQueryUnescapeCard : Claim7 := { stood := { row := fnExactQueryUnescapeRow, standIns := [], harness := (true, "ffa68909857db67c3cd7f654d9d4ecc57a2f01185b66cbeaf45db93b0db434d2"), looks := false }, kinds := [], alts := [], laidByText := true, laidKinds := [.data], laidTests := true, laidLooks := .later }
def FnExactQueryUnescapeCardSaid : Prop := Claim7.holds Tryd.pinned (.plain (OpenSpec.ofChange fnExactQueryUnescapeSpec)) fnExactQueryUnescapeCard

/-- THE TIED CARD OF 'laws.FnPathCut'. -/
def fnPathCutCard : Claim7 := { stood := { row := fnPathCutRow, standIns := [], harness := (true, "ffa68909857db67c3cd7f654d9d4ecc57a2f01185b66cbeaf45db93b0db434d2"), looks := false }, kinds := [], alts := [], laidByText := true, laidKinds := [.data], laidTests := true, laidLooks := .later }
def FnPathCutCardSaid : Prop := Claim7.holds Tryd.pinned (.plain (OpenSpec.ofChange fnPathCutSpec)) fnPathCutCard

/-- THE TIED CARD OF 'laws.FnQueryCut'. -/
def fnQueryCutCard : Claim7 := { stood := { row := fnQueryCutRow, standIns := [], harness := (true, "ffa68909857db67c3cd7f654d9d4ecc57a2f01185b66cbeaf45db93b0db434d2"), looks := false }, kinds := [], alts := [], laidByText := true, laidKinds := [.data], laidTests := true, laidLooks := .later }
def FnQueryCutCardSaid : Prop := Claim7.holds Tryd.pinned (.plain (OpenSpec.ofChange fnQueryCutSpec)) fnQueryCutCard

/-- THE SECOND FORM's CARD OF 'laws.FnPathInverse'. -/
def fnPathInverseUptoCard : Claim7 := { stood := { row := fnPathInverseUptoRow, standIns := [], harness := (true, "ffa68909857db67c3cd7f654d9d4ecc57a2f01185b66cbeaf45db93b0db434d2"), looks := false }, kinds := [], alts := [], laidByText := true, laidKinds := [.data], laidTests := true, laidLooks := .later }
def FnPathInverseUptoCardSaid : Prop := Claim7.holds Tryd.pinned (.plain (OpenSpec.upto fnPathInverseSpec)) fnPathInverseUptoCard

/-- THE SECOND FORM's CARD OF 'laws.FnQueryInverse'. -/
def fnQueryInverseUptoCard : Claim7 := { stood := { row := fnQueryInverseUptoRow, standIns := [], harness := (true, "ffa68909857db67c3cd7f654d9d4ecc57a2f01185b66cbeaf45db93b0db434d2"), looks := false }, kinds := [], alts := [], laidByText := true, laidKinds := [.data], laidTests := true, laidLooks := .later }
def FnQueryInverseUptoCardSaid : Prop := Claim7.holds Tryd.pinned (.plain (OpenSpec.upto fnQueryInverseSpec)) fnQueryInverseUptoCard

/-- THE SECOND FORM's CARD OF 'laws.FnOtherRoad'. -/
def fnOtherRoadUptoCard : Claim7 := { stood := { row := fnOtherRoadUptoRow, standIns := [], harness := (true, "ffa68909857db67c3cd7f654d9d4ecc57a2f01185b66cbeaf45db93b0db434d2"), looks := false }, kinds := [], alts := [], laidByText := true, laidKinds := [.data], laidTests := true, laidLooks := .later }
def FnOtherRoadUptoCardSaid : Prop := Claim7.holds Tryd.pinned (.plain (OpenSpec.upto fnOtherRoadSpec)) fnOtherRoadUptoCard

/-- THE SECOND FORM's CARD OF 'laws.FnExactPathUnescape'. -/
def fnExactPathUnescapeUptoCard : Claim7 := { stood := { row := fnExactPathUnescapeUptoRow, standIns := [], harness := (true, "ffa68909857db67c3cd7f654d9d4ecc57a2f01185b66cbeaf45db93b0db434d2"), looks := false }, kinds := [], alts := [], laidByText := true, laidKinds := [.data], laidTests := true, laidLooks := .later }
def FnExactPathUnescapeUptoCardSaid : Prop := Claim7.holds Tryd.pinned (.plain (OpenSpec.upto fnExactPathUnescapeSpec)) fnExactPathUnescapeUptoCard

/-- THE SECOND FORM's CARD OF 'laws.FnExactQueryUnescape'. -/
def fnExactQueryUnescapeUptoCard : Claim7 := { stood := { row := fnExactQueryUnescapeUptoRow, standIns := [], harness := (true, "ffa68909857db67c3cd7f654d9d4ecc57a2f01185b66cbeaf45db93b0db434d2"), looks := false }, kinds := [], alts := [], laidByText := true, laidKinds := [.data], laidTests := true, laidLooks := .later }
def FnExactQueryUnescapeUptoCardSaid : Prop := Claim7.holds Tryd.pinned (.plain (OpenSpec.upto fnExactQueryUnescapeSpec)) fnExactQueryUnescapeUptoCard

/-- THE SECOND FORM's CARD OF 'laws.FnPathCut'. -/
def fnPathCutUptoCard : Claim7 := { stood := { row := fnPathCutUptoRow, standIns := [], harness := (true, "ffa68909857db67c3cd7f654d9d4ecc57a2f01185b66cbeaf45db93b0db434d2"), looks := false }, kinds := [], alts := [], laidByText := true, laidKinds := [.data], laidTests := true, laidLooks := .later }
def FnPathCutUptoCardSaid : Prop := Claim7.holds Tryd.pinned (.plain (OpenSpec.upto fnPathCutSpec)) fnPathCutUptoCard

/-- THE SECOND FORM's CARD OF 'laws.FnQueryCut'. -/
def fnQueryCutUptoCard : Claim7 := { stood := { row := fnQueryCutUptoRow, standIns := [], harness := (true, "ffa68909857db67c3cd7f654d9d4ecc57a2f01185b66cbeaf45db93b0db434d2"), looks := false }, kinds := [], alts := [], laidByText := true, laidKinds := [.data], laidTests := true, laidLooks := .later }
def FnQueryCutUptoCardSaid : Prop := Claim7.holds Tryd.pinned (.plain (OpenSpec.upto fnQueryCutSpec)) fnQueryCutUptoCard
end Rows
end Go.Proofs.YtckdlmbdgjcncaaDoor
