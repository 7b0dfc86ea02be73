/-
  DERIVED. GIVEN WITH THE SEED: THE PROGRAM's TIES (one call each: nine closed facts by the kernel) AND EACH ROW's TIE, after the 31st guide's Derived/Test/Toyas{Tie, Card}.lean. No idea stands in it: it is a product of the set-up. Laid BY PROGRAM, IN A SANDBOX (cutbox-door.mjs). By AI agents, Wed Nov 11 2026. No macro, syntax, notation, axiom, sorry.
-/
import Derived.Test.YtbicpeplenomhaaGreatDoorRows
import Derived.LaidByTextLater
import Derived.SevenTiedAt
import Derived.LaidSub
import Derived.LaidOnce
namespace Go.Proofs.YtbicpeplenomhaaGreatDoor
open Go
set_option maxRecDepth 100000
theorem seatTie1 : Tryz.prog.laidByTextLater [("math/bits.deBruijn32tab", Rows.laid_math_bits_deBruijn32tab), ("math/bits.deBruijn64tab", Rows.laid_math_bits_deBruijn64tab), ("internal/strconv.uint64pow10", Rows.laid_internal_strconv_uint64pow10), ("unicode.White_Space", Rows.laid_unicode_White_Space), ("strings.asciiSpace", Rows.laid_strings_asciiSpace)] [.data, .data, .data, .listed, .data] true :=
  Program.laidByTextLater_by_one 48 8 257 (by kernel_rfl) (by kernel_rfl) (by kernel_rfl) (by kernel_rfl) (by kernel_rfl) (by kernel_rfl) (fun _ _ => by kernel_rfl)
theorem noOwnUnsafe : Tryz.pinned.checked.prog.headLifts.contains "ownunsafe" = false := by kernel_rfl
theorem tie : Tryz.prog.laidByTextLater [("math/bits.deBruijn32tab", Rows.laid_math_bits_deBruijn32tab), ("math/bits.deBruijn64tab", Rows.laid_math_bits_deBruijn64tab), ("internal/strconv.uint64pow10", Rows.laid_internal_strconv_uint64pow10), ("unicode.White_Space", Rows.laid_unicode_White_Space), ("strings.asciiSpace", Rows.laid_strings_asciiSpace)] [.data, .data, .data, .listed, .data] true :=
  Program.laidByTextLater.sub seatTie1 ["math/bits.deBruijn32tab", "math/bits.deBruijn64tab", "internal/strconv.uint64pow10", "unicode.White_Space", "strings.asciiSpace"] (by kernel_rfl) (by kernel_rfl)
theorem builderMerges_row_tie : Rows.builderMergesRow.laidByTextAt .later Tryz.pinned [.data, .data, .data, .listed, .data] true :=
  OpenClaim.laidByTextAt_later rfl rfl tie noOwnUnsafe
theorem builderTemplates_row_tie : Rows.builderTemplatesRow.laidByTextAt .later Tryz.pinned [.data, .data, .data, .listed, .data] true :=
  OpenClaim.laidByTextAt_later rfl rfl tie noOwnUnsafe
theorem builderBounds_row_tie : Rows.builderBoundsRow.laidByTextAt .later Tryz.pinned [.data, .data, .data, .listed, .data] true :=
  OpenClaim.laidByTextAt_later rfl rfl tie noOwnUnsafe
theorem builderCloses_row_tie : Rows.builderClosesRow.laidByTextAt .later Tryz.pinned [.data, .data, .data, .listed, .data] true :=
  OpenClaim.laidByTextAt_later rfl rfl tie noOwnUnsafe
theorem builderFosters_row_tie : Rows.builderFostersRow.laidByTextAt .later Tryz.pinned [.data, .data, .data, .listed, .data] true :=
  OpenClaim.laidByTextAt_later rfl rfl tie noOwnUnsafe
theorem builderRebuilds_row_tie : Rows.builderRebuildsRow.laidByTextAt .later Tryz.pinned [.data, .data, .data, .listed, .data] true :=
  OpenClaim.laidByTextAt_later rfl rfl tie noOwnUnsafe
theorem builderTexts_row_tie : Rows.builderTextsRow.laidByTextAt .later Tryz.pinned [.data, .data, .data, .listed, .data] true :=
  OpenClaim.laidByTextAt_later rfl rfl tie noOwnUnsafe
theorem builderSound_row_tie : Rows.builderSoundRow.laidByTextAt .later Tryz.pinned [.data, .data, .data, .listed, .data] true :=
  OpenClaim.laidByTextAt_later rfl rfl tie noOwnUnsafe
theorem builderMergesUpto_row_tie : Rows.builderMergesUptoRow.laidByTextAt .later Tryz.pinned [.data, .data, .data, .listed, .data] true :=
  OpenClaim.laidByTextAt_later rfl rfl tie noOwnUnsafe
theorem builderTemplatesUpto_row_tie : Rows.builderTemplatesUptoRow.laidByTextAt .later Tryz.pinned [.data, .data, .data, .listed, .data] true :=
  OpenClaim.laidByTextAt_later rfl rfl tie noOwnUnsafe
theorem builderBoundsUpto_row_tie : Rows.builderBoundsUptoRow.laidByTextAt .later Tryz.pinned [.data, .data, .data, .listed, .data] true :=
  OpenClaim.laidByTextAt_later rfl rfl tie noOwnUnsafe
theorem builderClosesUpto_row_tie : Rows.builderClosesUptoRow.laidByTextAt .later Tryz.pinned [.data, .data, .data, .listed, .data] true :=
  OpenClaim.laidByTextAt_later rfl rfl tie noOwnUnsafe
theorem builderFostersUpto_row_tie : Rows.builderFostersUptoRow.laidByTextAt .later Tryz.pinned [.data, .data, .data, .listed, .data] true :=
  OpenClaim.laidByTextAt_later rfl rfl tie noOwnUnsafe
theorem builderRebuildsUpto_row_tie : Rows.builderRebuildsUptoRow.laidByTextAt .later Tryz.pinned [.data, .data, .data, .listed, .data] true :=
  OpenClaim.laidByTextAt_later rfl rfl tie noOwnUnsafe
theorem builderTextsUpto_row_tie : Rows.builderTextsUptoRow.laidByTextAt .later Tryz.pinned [.data, .data, .data, .listed, .data] true :=
  OpenClaim.laidByTextAt_later rfl rfl tie noOwnUnsafe
theorem builderSoundUpto_row_tie : Rows.builderSoundUptoRow.laidByTextAt .later Tryz.pinned [.data, .data, .data, .listed, .data] true :=
  OpenClaim.laidByTextAt_later rfl rfl tie noOwnUnsafe
end Go.Proofs.YtbicpeplenomhaaGreatDoor
