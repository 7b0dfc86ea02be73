/-
  DERIVED. GIVEN WITH THE SEED: THE PROGRAM's TIES (one call each: nine closed facts by the kernel) AND EACH ROW's TIE, after the 31st guide's Derived/Test/Toyas{Tie, Card}.lean. No idea stands in it: it is a product of the set-up. Laid BY PROGRAM, IN A SANDBOX (cutbox-door.mjs). By AI agents, Wed Nov 11 2026. No macro, syntax, notation, axiom, sorry.
-/
import Derived.Test.YtejpjabbdkpmiaaDoorRows
import Derived.LaidByTextLater
import Derived.SevenTiedAt
import Derived.LaidSub
import Derived.LaidOnce
namespace Go.Proofs.YtejpjabbdkpmiaaDoor
open Go
set_option maxRecDepth 100000
theorem seatTie1 : Tryd.prog.laidByTextLater [("unicode.White_Space", Rows.laid_unicode_White_Space), ("strings.asciiSpace", Rows.laid_strings_asciiSpace)] [.listed, .data] true :=
  Program.laidByTextLater_by_one 33 8 257 (by kernel_rfl) (by kernel_rfl) (by kernel_rfl) (by kernel_rfl) (by kernel_rfl) (by kernel_rfl) (fun _ _ => by kernel_rfl)
theorem noOwnUnsafe : Tryd.pinned.checked.prog.headLifts.contains "ownunsafe" = false := by kernel_rfl
theorem tie : Tryd.prog.laidByTextLater [("unicode.White_Space", Rows.laid_unicode_White_Space), ("strings.asciiSpace", Rows.laid_strings_asciiSpace)] [.listed, .data] true :=
  Program.laidByTextLater.sub seatTie1 ["unicode.White_Space", "strings.asciiSpace"] (by kernel_rfl) (by kernel_rfl)
theorem stackScopes_row_tie : Rows.stackScopesRow.laidByTextAt .later Tryd.pinned [.listed, .data] true :=
  OpenClaim.laidByTextAt_later rfl rfl tie noOwnUnsafe
theorem stackClears_row_tie : Rows.stackClearsRow.laidByTextAt .later Tryd.pinned [.listed, .data] true :=
  OpenClaim.laidByTextAt_later rfl rfl tie noOwnUnsafe
theorem stackNests_row_tie : Rows.stackNestsRow.laidByTextAt .later Tryd.pinned [.listed, .data] true :=
  OpenClaim.laidByTextAt_later rfl rfl tie noOwnUnsafe
theorem stackSpecials_row_tie : Rows.stackSpecialsRow.laidByTextAt .later Tryd.pinned [.listed, .data] true :=
  OpenClaim.laidByTextAt_later rfl rfl tie noOwnUnsafe
theorem stackReads_row_tie : Rows.stackReadsRow.laidByTextAt .later Tryd.pinned [.listed, .data] true :=
  OpenClaim.laidByTextAt_later rfl rfl tie noOwnUnsafe
theorem stackBreaks_row_tie : Rows.stackBreaksRow.laidByTextAt .later Tryd.pinned [.listed, .data] true :=
  OpenClaim.laidByTextAt_later rfl rfl tie noOwnUnsafe
theorem stackNames_row_tie : Rows.stackNamesRow.laidByTextAt .later Tryd.pinned [.listed, .data] true :=
  OpenClaim.laidByTextAt_later rfl rfl tie noOwnUnsafe
theorem stackApart_row_tie : Rows.stackApartRow.laidByTextAt .later Tryd.pinned [.listed, .data] true :=
  OpenClaim.laidByTextAt_later rfl rfl tie noOwnUnsafe
theorem stackUndoes_row_tie : Rows.stackUndoesRow.laidByTextAt .later Tryd.pinned [.listed, .data] true :=
  OpenClaim.laidByTextAt_later rfl rfl tie noOwnUnsafe
theorem stackOwn_row_tie : Rows.stackOwnRow.laidByTextAt .later Tryd.pinned [.listed, .data] true :=
  OpenClaim.laidByTextAt_later rfl rfl tie noOwnUnsafe
theorem stackQuirks_row_tie : Rows.stackQuirksRow.laidByTextAt .later Tryd.pinned [.listed, .data] true :=
  OpenClaim.laidByTextAt_later rfl rfl tie noOwnUnsafe
theorem stackLists_row_tie : Rows.stackListsRow.laidByTextAt .later Tryd.pinned [.listed, .data] true :=
  OpenClaim.laidByTextAt_later rfl rfl tie noOwnUnsafe
theorem stackThree_row_tie : Rows.stackThreeRow.laidByTextAt .later Tryd.pinned [.listed, .data] true :=
  OpenClaim.laidByTextAt_later rfl rfl tie noOwnUnsafe
theorem stackAdjusts_row_tie : Rows.stackAdjustsRow.laidByTextAt .later Tryd.pinned [.listed, .data] true :=
  OpenClaim.laidByTextAt_later rfl rfl tie noOwnUnsafe
theorem stackValues_row_tie : Rows.stackValuesRow.laidByTextAt .later Tryd.pinned [.listed, .data] true :=
  OpenClaim.laidByTextAt_later rfl rfl tie noOwnUnsafe
theorem stackPlays_row_tie : Rows.stackPlaysRow.laidByTextAt .later Tryd.pinned [.listed, .data] true :=
  OpenClaim.laidByTextAt_later rfl rfl tie noOwnUnsafe
theorem stackFirst_row_tie : Rows.stackFirstRow.laidByTextAt .later Tryd.pinned [.listed, .data] true :=
  OpenClaim.laidByTextAt_later rfl rfl tie noOwnUnsafe
theorem stackNil_row_tie : Rows.stackNilRow.laidByTextAt .later Tryd.pinned [.listed, .data] true :=
  OpenClaim.laidByTextAt_later rfl rfl tie noOwnUnsafe
theorem stackScopesUpto_row_tie : Rows.stackScopesUptoRow.laidByTextAt .later Tryd.pinned [.listed, .data] true :=
  OpenClaim.laidByTextAt_later rfl rfl tie noOwnUnsafe
theorem stackClearsUpto_row_tie : Rows.stackClearsUptoRow.laidByTextAt .later Tryd.pinned [.listed, .data] true :=
  OpenClaim.laidByTextAt_later rfl rfl tie noOwnUnsafe
theorem stackNestsUpto_row_tie : Rows.stackNestsUptoRow.laidByTextAt .later Tryd.pinned [.listed, .data] true :=
  OpenClaim.laidByTextAt_later rfl rfl tie noOwnUnsafe
theorem stackSpecialsUpto_row_tie : Rows.stackSpecialsUptoRow.laidByTextAt .later Tryd.pinned [.listed, .data] true :=
  OpenClaim.laidByTextAt_later rfl rfl tie noOwnUnsafe
theorem stackReadsUpto_row_tie : Rows.stackReadsUptoRow.laidByTextAt .later Tryd.pinned [.listed, .data] true :=
  OpenClaim.laidByTextAt_later rfl rfl tie noOwnUnsafe
theorem stackBreaksUpto_row_tie : Rows.stackBreaksUptoRow.laidByTextAt .later Tryd.pinned [.listed, .data] true :=
  OpenClaim.laidByTextAt_later rfl rfl tie noOwnUnsafe
theorem stackNamesUpto_row_tie : Rows.stackNamesUptoRow.laidByTextAt .later Tryd.pinned [.listed, .data] true :=
  OpenClaim.laidByTextAt_later rfl rfl tie noOwnUnsafe
theorem stackApartUpto_row_tie : Rows.stackApartUptoRow.laidByTextAt .later Tryd.pinned [.listed, .data] true :=
  OpenClaim.laidByTextAt_later rfl rfl tie noOwnUnsafe
theorem stackUndoesUpto_row_tie : Rows.stackUndoesUptoRow.laidByTextAt .later Tryd.pinned [.listed, .data] true :=
  OpenClaim.laidByTextAt_later rfl rfl tie noOwnUnsafe
theorem stackOwnUpto_row_tie : Rows.stackOwnUptoRow.laidByTextAt .later Tryd.pinned [.listed, .data] true :=
  OpenClaim.laidByTextAt_later rfl rfl tie noOwnUnsafe
theorem stackQuirksUpto_row_tie : Rows.stackQuirksUptoRow.laidByTextAt .later Tryd.pinned [.listed, .data] true :=
  OpenClaim.laidByTextAt_later rfl rfl tie noOwnUnsafe
theorem stackListsUpto_row_tie : Rows.stackListsUptoRow.laidByTextAt .later Tryd.pinned [.listed, .data] true :=
  OpenClaim.laidByTextAt_later rfl rfl tie noOwnUnsafe
theorem stackThreeUpto_row_tie : Rows.stackThreeUptoRow.laidByTextAt .later Tryd.pinned [.listed, .data] true :=
  OpenClaim.laidByTextAt_later rfl rfl tie noOwnUnsafe
theorem stackAdjustsUpto_row_tie : Rows.stackAdjustsUptoRow.laidByTextAt .later Tryd.pinned [.listed, .data] true :=
  OpenClaim.laidByTextAt_later rfl rfl tie noOwnUnsafe
theorem stackValuesUpto_row_tie : Rows.stackValuesUptoRow.laidByTextAt .later Tryd.pinned [.listed, .data] true :=
  OpenClaim.laidByTextAt_later rfl rfl tie noOwnUnsafe
theorem stackPlaysUpto_row_tie : Rows.stackPlaysUptoRow.laidByTextAt .later Tryd.pinned [.listed, .data] true :=
  OpenClaim.laidByTextAt_later rfl rfl tie noOwnUnsafe
theorem stackFirstUpto_row_tie : Rows.stackFirstUptoRow.laidByTextAt .later Tryd.pinned [.listed, .data] true :=
  OpenClaim.laidByTextAt_later rfl rfl tie noOwnUnsafe
theorem stackNilUpto_row_tie : Rows.stackNilUptoRow.laidByTextAt .later Tryd.pinned [.listed, .data] true :=
  OpenClaim.laidByTextAt_later rfl rfl tie noOwnUnsafe
end Go.Proofs.YtejpjabbdkpmiaaDoor
