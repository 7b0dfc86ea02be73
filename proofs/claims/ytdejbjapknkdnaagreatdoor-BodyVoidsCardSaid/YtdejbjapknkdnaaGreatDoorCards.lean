/-
  DERIVED. GIVEN WITH THE SEED: THE CARDS: each row of YtdejbjapknkdnaaGreatDoorRows.lean that lists a variable, with what it lists TIED to the program's text (the seventh form; the later family's looks); each row that meets fmt, with fmt's text TOLD by the authors' own Lean function (tested against real Go, not proved from fmt's source: count such statements apart). THE CARD IS WHAT COUNTS. Prove the row's statement (the work); the ties are given (YtdejbjapknkdnaaGreatDoorTie.lean); close each card by the builder's one call (the guide's Derived/Test/ToyasCard.lean, 'card_holds'). Laid BY PROGRAM, IN A SANDBOX (cutbox-door.mjs). By AI agents, Wed Nov 11 2026. No macro, syntax, notation, axiom, sorry.
-/
import Derived.Test.YtdejbjapknkdnaaGreatDoorRows
import GoSem.ClaimSeven
namespace Go.Proofs.YtdejbjapknkdnaaGreatDoor
namespace Rows

/-- THE TIED CARD OF 'thicketlaw08.BodySettles'. -/
def bodySettlesCard : Claim7 := { stood := { row := bodySettlesRow, standIns := [], harness := (true, "7d8bcc05ccfca7c8f32753e06eec88347a11d26bf9a6d87e2e81e8970ff8fea8"), looks := true }, kinds := [], alts := [], laidByText := true, laidKinds := [.data, .data, .data, .listed, .data], laidTests := true, laidLooks := .later }
def BodySettlesCardSaid : Prop := Claim7.holds Tryz.pinned (.plain (OpenSpec.ofChange bodySettlesSpec)) bodySettlesCard

/-- THE TIED CARD OF 'thicketlaw08.BodyParagraphs'. -/
def bodyParagraphsCard : Claim7 := { stood := { row := bodyParagraphsRow, standIns := [], harness := (true, "7d8bcc05ccfca7c8f32753e06eec88347a11d26bf9a6d87e2e81e8970ff8fea8"), looks := true }, kinds := [], alts := [], laidByText := true, laidKinds := [.data, .data, .data, .listed, .data], laidTests := true, laidLooks := .later }
def BodyParagraphsCardSaid : Prop := Claim7.holds Tryz.pinned (.plain (OpenSpec.ofChange bodyParagraphsSpec)) bodyParagraphsCard

/-- THE TIED CARD OF 'thicketlaw08.BodyLeaves'. -/
def bodyLeavesCard : Claim7 := { stood := { row := bodyLeavesRow, standIns := [], harness := (true, "7d8bcc05ccfca7c8f32753e06eec88347a11d26bf9a6d87e2e81e8970ff8fea8"), looks := true }, kinds := [], alts := [], laidByText := true, laidKinds := [.data, .data, .data, .listed, .data], laidTests := true, laidLooks := .later }
def BodyLeavesCardSaid : Prop := Claim7.holds Tryz.pinned (.plain (OpenSpec.ofChange bodyLeavesSpec)) bodyLeavesCard

/-- THE TIED CARD OF 'thicketlaw08.BodyVoids'. -/
def bodyVoidsCard : Claim7 := { stood := { row := bodyVoidsRow, standIns := [], harness := (true, "7d8bcc05ccfca7c8f32753e06eec88347a11d26bf9a6d87e2e81e8970ff8fea8"), looks := true }, kinds := [], alts := [], laidByText := true, laidKinds := [.data, .data, .data, .listed, .data], laidTests := true, laidLooks := .later }
def BodyVoidsCardSaid : Prop := Claim7.holds Tryz.pinned (.plain (OpenSpec.ofChange bodyVoidsSpec)) bodyVoidsCard

/-- THE SECOND FORM's CARD OF 'thicketlaw08.BodySettles'. -/
def bodySettlesUptoCard : Claim7 := { stood := { row := bodySettlesUptoRow, standIns := [], harness := (true, "7d8bcc05ccfca7c8f32753e06eec88347a11d26bf9a6d87e2e81e8970ff8fea8"), looks := true }, kinds := [], alts := [], laidByText := true, laidKinds := [.data, .data, .data, .listed, .data], laidTests := true, laidLooks := .later }
def BodySettlesUptoCardSaid : Prop := Claim7.holds Tryz.pinned (.plain (OpenSpec.upto bodySettlesSpec)) bodySettlesUptoCard

/-- THE SECOND FORM's CARD OF 'thicketlaw08.BodyParagraphs'. -/
def bodyParagraphsUptoCard : Claim7 := { stood := { row := bodyParagraphsUptoRow, standIns := [], harness := (true, "7d8bcc05ccfca7c8f32753e06eec88347a11d26bf9a6d87e2e81e8970ff8fea8"), looks := true }, kinds := [], alts := [], laidByText := true, laidKinds := [.data, .data, .data, .listed, .data], laidTests := true, laidLooks := .later }
def BodyParagraphsUptoCardSaid : Prop := Claim7.holds Tryz.pinned (.plain (OpenSpec.upto bodyParagraphsSpec)) bodyParagraphsUptoCard

/-- THE SECOND FORM's CARD OF 'thicketlaw08.BodyLeaves'. -/
def bodyLeavesUptoCard : Claim7 := { stood := { row := bodyLeavesUptoRow, standIns := [], harness := (true, "7d8bcc05ccfca7c8f32753e06eec88347a11d26bf9a6d87e2e81e8970ff8fea8"), looks := true }, kinds := [], alts := [], laidByText := true, laidKinds := [.data, .data, .data, .listed, .data], laidTests := true, laidLooks := .later }
def BodyLeavesUptoCardSaid : Prop := Claim7.holds Tryz.pinned (.plain (OpenSpec.upto bodyLeavesSpec)) bodyLeavesUptoCard

/-- THE SECOND FORM's CARD OF 'thicketlaw08.BodyVoids'. -/
def bodyVoidsUptoCard : Claim7 := { stood := { row := bodyVoidsUptoRow, standIns := [], harness := (true, "7d8bcc05ccfca7c8f32753e06eec88347a11d26bf9a6d87e2e81e8970ff8fea8"), looks := true }, kinds := [], alts := [], laidByText := true, laidKinds := [.data, .data, .data, .listed, .data], laidTests := true, laidLooks := .later }
def BodyVoidsUptoCardSaid : Prop := Claim7.holds Tryz.pinned (.plain (OpenSpec.upto bodyVoidsSpec)) bodyVoidsUptoCard
end Rows
end Go.Proofs.YtdejbjapknkdnaaGreatDoor
