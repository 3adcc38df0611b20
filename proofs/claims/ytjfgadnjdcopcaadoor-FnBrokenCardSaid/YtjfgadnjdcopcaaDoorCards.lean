/-
  DERIVED. GIVEN WITH THE SEED: THE CARDS: each row of YtjfgadnjdcopcaaDoorRows.lean that lists a variable, with what it lists TIED to the program's text (the seventh form; the later family's looks); each row that meets fmt, with fmt's text TOLD by the authors' own Lean function (tested against real Go, not proved from fmt's source: count such statements apart). THE CARD IS WHAT COUNTS. Prove the row's statement (the work); the ties are given (YtjfgadnjdcopcaaDoorTie.lean); close each card by the builder's one call (the guide's Derived/Test/ToyasCard.lean, 'card_holds'). Laid BY PROGRAM, IN A SANDBOX (cutbox-door.mjs). By AI agents, Wed Nov 11 2026. No macro, syntax, notation, axiom, sorry.
-/
import Derived.Test.YtjfgadnjdcopcaaDoorRows
import GoSem.ClaimSeven
namespace Go.Proofs.YtjfgadnjdcopcaaDoor
namespace Rows

/-- THE TIED CARD OF 'laws.FnBroken'. -/
def fnBrokenCard : Claim7 := { stood := { row := fnBrokenRow, standIns := [], harness := (true, "6101ff1e599882e205962a963aa4373c4c2840dc071e7b4447b1a6a35d836d5a"), looks := false }, kinds := [], alts := [], laidByText := true, laidKinds := [.data], laidTests := true, laidLooks := .later }
def FnBrokenCardSaid : Prop := Claim7.holds Tryd.pinned (.plain (OpenSpec.ofChange fnBrokenSpec)) fnBrokenCard

/-- THE TIED CARD OF 'laws.FnEveryEscape'. -/
def fnEveryEscapeCard : Claim7 := { stood := { row := fnEveryEscapeRow, standIns := [], harness := (true, "6101ff1e599882e205962a963aa4373c4c2840dc071e7b4447b1a6a35d836d5a"), looks := false }, kinds := [], alts := [], laidByText := true, laidKinds := [.data], laidTests := true, laidLooks := .later }
def FnEveryEscapeCardSaid : Prop := Claim7.holds Tryd.pinned (.plain (OpenSpec.ofChange fnEveryEscapeSpec)) fnEveryEscapeCard

/-- THE TIED CARD OF 'laws.FnRoadsAgree'. -/
def fnRoadsAgreeCard : Claim7 := { stood := { row := fnRoadsAgreeRow, standIns := [], harness := (true, "6101ff1e599882e205962a963aa4373c4c2840dc071e7b4447b1a6a35d836d5a"), looks := false }, kinds := [], alts := [], laidByText := true, laidKinds := [.data], laidTests := true, laidLooks := .later }
def FnRoadsAgreeCardSaid : Prop := Claim7.holds Tryd.pinned (.plain (OpenSpec.ofChange fnRoadsAgreeSpec)) fnRoadsAgreeCard

/-- THE TIED CARD OF 'laws.FnSmallLetters'. -/
def fnSmallLettersCard : Claim7 := { stood := { row := fnSmallLettersRow, standIns := [], harness := (true, "6101ff1e599882e205962a963aa4373c4c2840dc071e7b4447b1a6a35d836d5a"), looks := false }, kinds := [], alts := [], laidByText := true, laidKinds := [.data], laidTests := true, laidLooks := .later }
def FnSmallLettersCardSaid : Prop := Claim7.holds Tryd.pinned (.plain (OpenSpec.ofChange fnSmallLettersSpec)) fnSmallLettersCard

/-- THE TIED CARD OF 'laws.FnUnescapeKept'. -/
def fnUnescapeKeptCard : Claim7 := { stood := { row := fnUnescapeKeptRow, standIns := [], harness := (true, "6101ff1e599882e205962a963aa4373c4c2840dc071e7b4447b1a6a35d836d5a"), looks := false }, kinds := [], alts := [], laidByText := true, laidKinds := [.data], laidTests := true, laidLooks := .later }
def FnUnescapeKeptCardSaid : Prop := Claim7.holds Tryd.pinned (.plain (OpenSpec.ofChange fnUnescapeKeptSpec)) fnUnescapeKeptCard

/-- THE TIED CARD OF 'laws.FnUnescapeLength'. -/
def fnUnescapeLengthCard : Claim7 := { stood := { row := fnUnescapeLengthRow, standIns := [], harness := (true, "6101ff1e599882e205962a963aa4373c4c2840dc071e7b4447b1a6a35d836d5a"), looks := false }, kinds := [], alts := [], laidByText := true, laidKinds := [.data], laidTests := true, laidLooks := .later }
def FnUnescapeLengthCardSaid : Prop := Claim7.holds Tryd.pinned (.plain (OpenSpec.ofChange fnUnescapeLengthSpec)) fnUnescapeLengthCard

/-- THE TIED CARD OF 'laws.FnUnescapeTwice'. -/
def fnUnescapeTwiceCard : Claim7 := { stood := { row := fnUnescapeTwiceRow, standIns := [], harness := (true, "6101ff1e599882e205962a963aa4373c4c2840dc071e7b4447b1a6a35d836d5a"), looks := false }, kinds := [], alts := [], laidByText := true, laidKinds := [.data], laidTests := true, laidLooks := .later }
def FnUnescapeTwiceCardSaid : Prop := Claim7.holds Tryd.pinned (.plain (OpenSpec.ofChange fnUnescapeTwiceSpec)) fnUnescapeTwiceCard

/-- THE SECOND FORM's CARD OF 'laws.FnBroken'. -/
def fnBrokenUptoCard : Claim7 := { stood := { row := fnBrokenUptoRow, standIns := [], harness := (true, "6101ff1e599882e205962a963aa4373c4c2840dc071e7b4447b1a6a35d836d5a"), looks := false }, kinds := [], alts := [], laidByText := true, laidKinds := [.data], laidTests := true, laidLooks := .later }
def FnBrokenUptoCardSaid : Prop := Claim7.holds Tryd.pinned (.plain (OpenSpec.upto fnBrokenSpec)) fnBrokenUptoCard

/-- THE SECOND FORM's CARD OF 'laws.FnEveryEscape'. -/
def fnEveryEscapeUptoCard : Claim7 := { stood := { row := fnEveryEscapeUptoRow, standIns := [], harness := (true, "6101ff1e599882e205962a963aa4373c4c2840dc071e7b4447b1a6a35d836d5a"), looks := false }, kinds := [], alts := [], laidByText := true, laidKinds := [.data], laidTests := true, laidLooks := .later }
def FnEveryEscapeUptoCardSaid : Prop := Claim7.holds Tryd.pinned (.plain (OpenSpec.upto fnEveryEscapeSpec)) fnEveryEscapeUptoCard

/-- THE SECOND FORM's CARD OF 'laws.FnRoadsAgree'. -/
def fnRoadsAgreeUptoCard : Claim7 := { stood := { row := fnRoadsAgreeUptoRow, standIns := [], harness := (true, "6101ff1e599882e205962a963aa4373c4c2840dc071e7b4447b1a6a35d836d5a"), looks := false }, kinds := [], alts := [], laidByText := true, laidKinds := [.data], laidTests := true, laidLooks := .later }
def FnRoadsAgreeUptoCardSaid : Prop := Claim7.holds Tryd.pinned (.plain (OpenSpec.upto fnRoadsAgreeSpec)) fnRoadsAgreeUptoCard

/-- THE SECOND FORM's CARD OF 'laws.FnSmallLetters'. -/
def fnSmallLettersUptoCard : Claim7 := { stood := { row := fnSmallLettersUptoRow, standIns := [], harness := (true, "6101ff1e599882e205962a963aa4373c4c2840dc071e7b4447b1a6a35d836d5a"), looks := false }, kinds := [], alts := [], laidByText := true, laidKinds := [.data], laidTests := true, laidLooks := .later }
def FnSmallLettersUptoCardSaid : Prop := Claim7.holds Tryd.pinned (.plain (OpenSpec.upto fnSmallLettersSpec)) fnSmallLettersUptoCard

/-- THE SECOND FORM's CARD OF 'laws.FnUnescapeKept'. -/
def fnUnescapeKeptUptoCard : Claim7 := { stood := { row := fnUnescapeKeptUptoRow, standIns := [], harness := (true, "6101ff1e599882e205962a963aa4373c4c2840dc071e7b4447b1a6a35d836d5a"), looks := false }, kinds := [], alts := [], laidByText := true, laidKinds := [.data], laidTests := true, laidLooks := .later }
def FnUnescapeKeptUptoCardSaid : Prop := Claim7.holds Tryd.pinned (.plain (OpenSpec.upto fnUnescapeKeptSpec)) fnUnescapeKeptUptoCard

/-- THE SECOND FORM's CARD OF 'laws.FnUnescapeLength'. -/
def fnUnescapeLengthUptoCard : Claim7 := { stood := { row := fnUnescapeLengthUptoRow, standIns := [], harness := (true, "6101ff1e599882e205962a963aa4373c4c2840dc071e7b4447b1a6a35d836d5a"), looks := false }, kinds := [], alts := [], laidByText := true, laidKinds := [.data], laidTests := true, laidLooks := .later }
def FnUnescapeLengthUptoCardSaid : Prop := Claim7.holds Tryd.pinned (.plain (OpenSpec.upto fnUnescapeLengthSpec)) fnUnescapeLengthUptoCard

/-- THE SECOND FORM's CARD OF 'laws.FnUnescapeTwice'. -/
def fnUnescapeTwiceUptoCard : Claim7 := { stood := { row := fnUnescapeTwiceUptoRow, standIns := [], harness := (true, "6101ff1e599882e205962a963aa4373c4c2840dc071e7b4447b1a6a35d836d5a"), looks := false }, kinds := [], alts := [], laidByText := true, laidKinds := [.data], laidTests := true, laidLooks := .later }
def FnUnescapeTwiceUptoCardSaid : Prop := Claim7.holds Tryd.pinned (.plain (OpenSpec.upto fnUnescapeTwiceSpec)) fnUnescapeTwiceUptoCard
end Rows
end Go.Proofs.YtjfgadnjdcopcaaDoor
