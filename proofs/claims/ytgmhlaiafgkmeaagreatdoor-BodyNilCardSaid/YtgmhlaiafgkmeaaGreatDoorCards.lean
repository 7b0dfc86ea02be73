/-
  DERIVED. GIVEN WITH THE SEED: THE CARDS: each row of YtgmhlaiafgkmeaaGreatDoorRows.lean that lists a variable, with what it lists TIED to the program's text (the seventh form; the later family's looks); each row that meets fmt, with fmt's text TOLD by the authors' own Lean function (tested against real Go, not proved from fmt's source: count such statements apart). THE CARD IS WHAT COUNTS. Prove the row's statement (the work); the ties are given (YtgmhlaiafgkmeaaGreatDoorTie.lean); close each card by the builder's one call (the guide's Derived/Test/ToyasCard.lean, 'card_holds'). Laid BY PROGRAM, IN A SANDBOX (cutbox-door.mjs). By AI agents, Wed Nov 11 2026. No macro, syntax, notation, axiom, sorry.
-/
import Derived.Test.YtgmhlaiafgkmeaaGreatDoorRows
import GoSem.ClaimSeven
namespace Go.Proofs.YtgmhlaiafgkmeaaGreatDoor
namespace Rows

/-- THE TIED CARD OF 'thicketlaw08.BodySettles'. -/
def bodySettlesCard : Claim7 := { stood := { row := bodySettlesRow, standIns := [], harness := (true, "94ca3cb7c1db783b6f6f76422b58bee0f81699cd87c88dc3c7e72f4c829d765a"), looks := true }, kinds := [], alts := [], laidByText := true, laidKinds := [.data, .data, .data, .listed, .data], laidTests := true, laidLooks := .later }
def BodySettlesCardSaid : Prop := Claim7.holds Tryz.pinned (.plain (OpenSpec.ofChange bodySettlesSpec)) bodySettlesCard

/-- THE TIED CARD OF 'thicketlaw08.BodySkeleton'. -/
def bodySkeletonCard : Claim7 := { stood := { row := bodySkeletonRow, standIns := [], harness := (true, "94ca3cb7c1db783b6f6f76422b58bee0f81699cd87c88dc3c7e72f4c829d765a"), looks := true }, kinds := [], alts := [], laidByText := true, laidKinds := [.data, .data, .data, .listed, .data], laidTests := true, laidLooks := .later }
def BodySkeletonCardSaid : Prop := Claim7.holds Tryz.pinned (.plain (OpenSpec.ofChange bodySkeletonSpec)) bodySkeletonCard

/-- THE TIED CARD OF 'thicketlaw08.BodyParagraphs'. -/
def bodyParagraphsCard : Claim7 := { stood := { row := bodyParagraphsRow, standIns := [], harness := (true, "94ca3cb7c1db783b6f6f76422b58bee0f81699cd87c88dc3c7e72f4c829d765a"), looks := true }, kinds := [], alts := [], laidByText := true, laidKinds := [.data, .data, .data, .listed, .data], laidTests := true, laidLooks := .later }
def BodyParagraphsCardSaid : Prop := Claim7.holds Tryz.pinned (.plain (OpenSpec.ofChange bodyParagraphsSpec)) bodyParagraphsCard

/-- THE TIED CARD OF 'thicketlaw08.BodyText'. -/
def bodyTextCard : Claim7 := { stood := { row := bodyTextRow, standIns := [], harness := (true, "94ca3cb7c1db783b6f6f76422b58bee0f81699cd87c88dc3c7e72f4c829d765a"), looks := true }, kinds := [], alts := [], laidByText := true, laidKinds := [.data, .data, .data, .listed, .data], laidTests := true, laidLooks := .later }
def BodyTextCardSaid : Prop := Claim7.holds Tryz.pinned (.plain (OpenSpec.ofChange bodyTextSpec)) bodyTextCard

/-- THE TIED CARD OF 'thicketlaw08.BodyNil'. -/
def bodyNilCard : Claim7 := { stood := { row := bodyNilRow, standIns := [], harness := (true, "94ca3cb7c1db783b6f6f76422b58bee0f81699cd87c88dc3c7e72f4c829d765a"), looks := true }, kinds := [], alts := [], laidByText := true, laidKinds := [.data, .data, .data, .listed, .data], laidTests := true, laidLooks := .later }
def BodyNilCardSaid : Prop := Claim7.holds Tryz.pinned (.plain (OpenSpec.ofChange bodyNilSpec)) bodyNilCard

/-- THE TIED CARD OF 'thicketlaw08.BodyLeaves'. -/
def bodyLeavesCard : Claim7 := { stood := { row := bodyLeavesRow, standIns := [], harness := (true, "94ca3cb7c1db783b6f6f76422b58bee0f81699cd87c88dc3c7e72f4c829d765a"), looks := true }, kinds := [], alts := [], laidByText := true, laidKinds := [.data, .data, .data, .listed, .data], laidTests := true, laidLooks := .later }
def BodyLeavesCardSaid : Prop := Claim7.holds Tryz.pinned (.plain (OpenSpec.ofChange bodyLeavesSpec)) bodyLeavesCard

/-- THE TIED CARD OF 'thicketlaw08.BodyVoids'. -/
def bodyVoidsCard : Claim7 := { stood := { row := bodyVoidsRow, standIns := [], harness := (true, "94ca3cb7c1db783b6f6f76422b58bee0f81699cd87c88dc3c7e72f4c829d765a"), looks := true }, kinds := [], alts := [], laidByText := true, laidKinds := [.data, .data, .data, .listed, .data], laidTests := true, laidLooks := .later }
def BodyVoidsCardSaid : Prop := Claim7.holds Tryz.pinned (.plain (OpenSpec.ofChange bodyVoidsSpec)) bodyVoidsCard

/-- THE TIED CARD OF 'thicketlaw08.BodySound'. -/
def bodySoundCard : Claim7 := { stood := { row := bodySoundRow, standIns := [], harness := (true, "94ca3cb7c1db783b6f6f76422b58bee0f81699cd87c88dc3c7e72f4c829d765a"), looks := true }, kinds := [], alts := [], laidByText := true, laidKinds := [.data, .data, .data, .listed, .data], laidTests := true, laidLooks := .later }
def BodySoundCardSaid : Prop := Claim7.holds Tryz.pinned (.plain (OpenSpec.ofChange bodySoundSpec)) bodySoundCard

/-- THE TIED CARD OF 'thicketlaw08.BodyApplies'. -/
def bodyAppliesCard : Claim7 := { stood := { row := bodyAppliesRow, standIns := [], harness := (true, "94ca3cb7c1db783b6f6f76422b58bee0f81699cd87c88dc3c7e72f4c829d765a"), looks := true }, kinds := [], alts := [], laidByText := true, laidKinds := [.data, .data, .data, .listed, .data], laidTests := true, laidLooks := .later }
def BodyAppliesCardSaid : Prop := Claim7.holds Tryz.pinned (.plain (OpenSpec.ofChange bodyAppliesSpec)) bodyAppliesCard

/-- THE TIED CARD OF 'thicketlaw08.BodyIgnores'. -/
def bodyIgnoresCard : Claim7 := { stood := { row := bodyIgnoresRow, standIns := [], harness := (true, "94ca3cb7c1db783b6f6f76422b58bee0f81699cd87c88dc3c7e72f4c829d765a"), looks := true }, kinds := [], alts := [], laidByText := true, laidKinds := [.data, .data, .data, .listed, .data], laidTests := true, laidLooks := .later }
def BodyIgnoresCardSaid : Prop := Claim7.holds Tryz.pinned (.plain (OpenSpec.ofChange bodyIgnoresSpec)) bodyIgnoresCard

/-- THE TIED CARD OF 'thicketlaw08.BodyNames'. -/
def bodyNamesCard : Claim7 := { stood := { row := bodyNamesRow, standIns := [], harness := (true, "94ca3cb7c1db783b6f6f76422b58bee0f81699cd87c88dc3c7e72f4c829d765a"), looks := true }, kinds := [], alts := [], laidByText := true, laidKinds := [.data, .data, .data, .listed, .data], laidTests := true, laidLooks := .later }
def BodyNamesCardSaid : Prop := Claim7.holds Tryz.pinned (.plain (OpenSpec.ofChange bodyNamesSpec)) bodyNamesCard

/-- THE SECOND FORM's CARD OF 'thicketlaw08.BodySettles'. -/
def bodySettlesUptoCard : Claim7 := { stood := { row := bodySettlesUptoRow, standIns := [], harness := (true, "94ca3cb7c1db783b6f6f76422b58bee0f81699cd87c88dc3c7e72f4c829d765a"), looks := true }, kinds := [], alts := [], laidByText := true, laidKinds := [.data, .data, .data, .listed, .data], laidTests := true, laidLooks := .later }
def BodySettlesUptoCardSaid : Prop := Claim7.holds Tryz.pinned (.plain (OpenSpec.upto bodySettlesSpec)) bodySettlesUptoCard

/-- THE SECOND FORM's CARD OF 'thicketlaw08.BodySkeleton'. -/
def bodySkeletonUptoCard : Claim7 := { stood := { row := bodySkeletonUptoRow, standIns := [], harness := (true, "94ca3cb7c1db783b6f6f76422b58bee0f81699cd87c88dc3c7e72f4c829d765a"), looks := true }, kinds := [], alts := [], laidByText := true, laidKinds := [.data, .data, .data, .listed, .data], laidTests := true, laidLooks := .later }
def BodySkeletonUptoCardSaid : Prop := Claim7.holds Tryz.pinned (.plain (OpenSpec.upto bodySkeletonSpec)) bodySkeletonUptoCard

/-- THE SECOND FORM's CARD OF 'thicketlaw08.BodyParagraphs'. -/
def bodyParagraphsUptoCard : Claim7 := { stood := { row := bodyParagraphsUptoRow, standIns := [], harness := (true, "94ca3cb7c1db783b6f6f76422b58bee0f81699cd87c88dc3c7e72f4c829d765a"), looks := true }, kinds := [], alts := [], laidByText := true, laidKinds := [.data, .data, .data, .listed, .data], laidTests := true, laidLooks := .later }
def BodyParagraphsUptoCardSaid : Prop := Claim7.holds Tryz.pinned (.plain (OpenSpec.upto bodyParagraphsSpec)) bodyParagraphsUptoCard

/-- THE SECOND FORM's CARD OF 'thicketlaw08.BodyText'. -/
def bodyTextUptoCard : Claim7 := { stood := { row := bodyTextUptoRow, standIns := [], harness := (true, "94ca3cb7c1db783b6f6f76422b58bee0f81699cd87c88dc3c7e72f4c829d765a"), looks := true }, kinds := [], alts := [], laidByText := true, laidKinds := [.data, .data, .data, .listed, .data], laidTests := true, laidLooks := .later }
def BodyTextUptoCardSaid : Prop := Claim7.holds Tryz.pinned (.plain (OpenSpec.upto bodyTextSpec)) bodyTextUptoCard

/-- THE SECOND FORM's CARD OF 'thicketlaw08.BodyNil'. -/
def bodyNilUptoCard : Claim7 := { stood := { row := bodyNilUptoRow, standIns := [], harness := (true, "94ca3cb7c1db783b6f6f76422b58bee0f81699cd87c88dc3c7e72f4c829d765a"), looks := true }, kinds := [], alts := [], laidByText := true, laidKinds := [.data, .data, .data, .listed, .data], laidTests := true, laidLooks := .later }
def BodyNilUptoCardSaid : Prop := Claim7.holds Tryz.pinned (.plain (OpenSpec.upto bodyNilSpec)) bodyNilUptoCard

/-- THE SECOND FORM's CARD OF 'thicketlaw08.BodyLeaves'. -/
def bodyLeavesUptoCard : Claim7 := { stood := { row := bodyLeavesUptoRow, standIns := [], harness := (true, "94ca3cb7c1db783b6f6f76422b58bee0f81699cd87c88dc3c7e72f4c829d765a"), looks := true }, kinds := [], alts := [], laidByText := true, laidKinds := [.data, .data, .data, .listed, .data], laidTests := true, laidLooks := .later }
def BodyLeavesUptoCardSaid : Prop := Claim7.holds Tryz.pinned (.plain (OpenSpec.upto bodyLeavesSpec)) bodyLeavesUptoCard

/-- THE SECOND FORM's CARD OF 'thicketlaw08.BodyVoids'. -/
def bodyVoidsUptoCard : Claim7 := { stood := { row := bodyVoidsUptoRow, standIns := [], harness := (true, "94ca3cb7c1db783b6f6f76422b58bee0f81699cd87c88dc3c7e72f4c829d765a"), looks := true }, kinds := [], alts := [], laidByText := true, laidKinds := [.data, .data, .data, .listed, .data], laidTests := true, laidLooks := .later }
def BodyVoidsUptoCardSaid : Prop := Claim7.holds Tryz.pinned (.plain (OpenSpec.upto bodyVoidsSpec)) bodyVoidsUptoCard

/-- THE SECOND FORM's CARD OF 'thicketlaw08.BodySound'. -/
def bodySoundUptoCard : Claim7 := { stood := { row := bodySoundUptoRow, standIns := [], harness := (true, "94ca3cb7c1db783b6f6f76422b58bee0f81699cd87c88dc3c7e72f4c829d765a"), looks := true }, kinds := [], alts := [], laidByText := true, laidKinds := [.data, .data, .data, .listed, .data], laidTests := true, laidLooks := .later }
def BodySoundUptoCardSaid : Prop := Claim7.holds Tryz.pinned (.plain (OpenSpec.upto bodySoundSpec)) bodySoundUptoCard

/-- THE SECOND FORM's CARD OF 'thicketlaw08.BodyApplies'. -/
def bodyAppliesUptoCard : Claim7 := { stood := { row := bodyAppliesUptoRow, standIns := [], harness := (true, "94ca3cb7c1db783b6f6f76422b58bee0f81699cd87c88dc3c7e72f4c829d765a"), looks := true }, kinds := [], alts := [], laidByText := true, laidKinds := [.data, .data, .data, .listed, .data], laidTests := true, laidLooks := .later }
def BodyAppliesUptoCardSaid : Prop := Claim7.holds Tryz.pinned (.plain (OpenSpec.upto bodyAppliesSpec)) bodyAppliesUptoCard

/-- THE SECOND FORM's CARD OF 'thicketlaw08.BodyIgnores'. -/
def bodyIgnoresUptoCard : Claim7 := { stood := { row := bodyIgnoresUptoRow, standIns := [], harness := (true, "94ca3cb7c1db783b6f6f76422b58bee0f81699cd87c88dc3c7e72f4c829d765a"), looks := true }, kinds := [], alts := [], laidByText := true, laidKinds := [.data, .data, .data, .listed, .data], laidTests := true, laidLooks := .later }
def BodyIgnoresUptoCardSaid : Prop := Claim7.holds Tryz.pinned (.plain (OpenSpec.upto bodyIgnoresSpec)) bodyIgnoresUptoCard

/-- THE SECOND FORM's CARD OF 'thicketlaw08.BodyNames'. -/
def bodyNamesUptoCard : Claim7 := { stood := { row := bodyNamesUptoRow, standIns := [], harness := (true, "94ca3cb7c1db783b6f6f76422b58bee0f81699cd87c88dc3c7e72f4c829d765a"), looks := true }, kinds := [], alts := [], laidByText := true, laidKinds := [.data, .data, .data, .listed, .data], laidTests := true, laidLooks := .later }
def BodyNamesUptoCardSaid : Prop := Claim7.holds Tryz.pinned (.plain (OpenSpec.upto bodyNamesSpec)) bodyNamesUptoCard
end Rows
end Go.Proofs.YtgmhlaiafgkmeaaGreatDoor
