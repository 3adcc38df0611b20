/-
  DERIVED. GIVEN WITH THE SEED: THE PROGRAM's TIES (one call each: nine closed facts by the kernel) AND EACH ROW's TIE, after the 31st guide's Derived/Test/Toyas{Tie, Card}.lean. No idea stands in it: it is a product of the set-up. Laid BY PROGRAM, IN A SANDBOX (cutbox-door.mjs). By AI agents, Wed Nov 11 2026. No macro, syntax, notation, axiom, sorry.
-/
import Derived.Test.YtjfgadnjdcopcaaDoorRows
import Derived.LaidByTextLater
import Derived.SevenTiedAt
import Derived.LaidSub
import Derived.LaidOnce
namespace Go.Proofs.YtjfgadnjdcopcaaDoor
open Go
set_option maxRecDepth 100000
theorem seatTie1 : Tryd.prog.laidByTextLater [("net/url.table", Rows.laid_net_url_table)] [.data] true :=
  Program.laidByTextLater_by_one 14 8 257 (by kernel_rfl) (by kernel_rfl) (by kernel_rfl) (by kernel_rfl) (by kernel_rfl) (by kernel_rfl) (fun _ _ => by kernel_rfl)
theorem noOwnUnsafe : Tryd.pinned.checked.prog.headLifts.contains "ownunsafe" = false := by kernel_rfl
theorem tie : Tryd.prog.laidByTextLater [("net/url.table", Rows.laid_net_url_table)] [.data] true :=
  Program.laidByTextLater.sub seatTie1 ["net/url.table"] (by kernel_rfl) (by kernel_rfl)
theorem fnBroken_row_tie : Rows.fnBrokenRow.laidByTextAt .later Tryd.pinned [.data] true :=
  OpenClaim.laidByTextAt_later rfl rfl tie noOwnUnsafe
theorem fnEveryEscape_row_tie : Rows.fnEveryEscapeRow.laidByTextAt .later Tryd.pinned [.data] true :=
  OpenClaim.laidByTextAt_later rfl rfl tie noOwnUnsafe
theorem fnRoadsAgree_row_tie : Rows.fnRoadsAgreeRow.laidByTextAt .later Tryd.pinned [.data] true :=
  OpenClaim.laidByTextAt_later rfl rfl tie noOwnUnsafe
theorem fnSmallLetters_row_tie : Rows.fnSmallLettersRow.laidByTextAt .later Tryd.pinned [.data] true :=
  OpenClaim.laidByTextAt_later rfl rfl tie noOwnUnsafe
theorem fnUnescapeKept_row_tie : Rows.fnUnescapeKeptRow.laidByTextAt .later Tryd.pinned [.data] true :=
  OpenClaim.laidByTextAt_later rfl rfl tie noOwnUnsafe
theorem fnUnescapeLength_row_tie : Rows.fnUnescapeLengthRow.laidByTextAt .later Tryd.pinned [.data] true :=
  OpenClaim.laidByTextAt_later rfl rfl tie noOwnUnsafe
theorem fnUnescapeTwice_row_tie : Rows.fnUnescapeTwiceRow.laidByTextAt .later Tryd.pinned [.data] true :=
  OpenClaim.laidByTextAt_later rfl rfl tie noOwnUnsafe
theorem fnBrokenUpto_row_tie : Rows.fnBrokenUptoRow.laidByTextAt .later Tryd.pinned [.data] true :=
  OpenClaim.laidByTextAt_later rfl rfl tie noOwnUnsafe
theorem fnEveryEscapeUpto_row_tie : Rows.fnEveryEscapeUptoRow.laidByTextAt .later Tryd.pinned [.data] true :=
  OpenClaim.laidByTextAt_later rfl rfl tie noOwnUnsafe
theorem fnRoadsAgreeUpto_row_tie : Rows.fnRoadsAgreeUptoRow.laidByTextAt .later Tryd.pinned [.data] true :=
  OpenClaim.laidByTextAt_later rfl rfl tie noOwnUnsafe
theorem fnSmallLettersUpto_row_tie : Rows.fnSmallLettersUptoRow.laidByTextAt .later Tryd.pinned [.data] true :=
  OpenClaim.laidByTextAt_later rfl rfl tie noOwnUnsafe
theorem fnUnescapeKeptUpto_row_tie : Rows.fnUnescapeKeptUptoRow.laidByTextAt .later Tryd.pinned [.data] true :=
  OpenClaim.laidByTextAt_later rfl rfl tie noOwnUnsafe
theorem fnUnescapeLengthUpto_row_tie : Rows.fnUnescapeLengthUptoRow.laidByTextAt .later Tryd.pinned [.data] true :=
  OpenClaim.laidByTextAt_later rfl rfl tie noOwnUnsafe
theorem fnUnescapeTwiceUpto_row_tie : Rows.fnUnescapeTwiceUptoRow.laidByTextAt .later Tryd.pinned [.data] true :=
  OpenClaim.laidByTextAt_later rfl rfl tie noOwnUnsafe
end Go.Proofs.YtjfgadnjdcopcaaDoor
