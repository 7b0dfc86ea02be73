/-
  DERIVED. GIVEN WITH THE SEED: THE CARDS: each row of YtglbboamemndeaaGreatDoorRows.lean that lists a variable, with what it lists TIED to the program's text (the seventh form; the later family's looks); each row that meets fmt, with fmt's text TOLD by the authors' own Lean function (tested against real Go, not proved from fmt's source: count such statements apart). THE CARD IS WHAT COUNTS. Prove the row's statement (the work); the ties are given (YtglbboamemndeaaGreatDoorTie.lean); close each card by the builder's one call (the guide's Derived/Test/ToyasCard.lean, 'card_holds'). Laid BY PROGRAM, IN A SANDBOX (cutbox-door.mjs). By AI agents, Wed Nov 11 2026. No macro, syntax, notation, axiom, sorry.
-/
import Derived.Test.YtglbboamemndeaaGreatDoorRows
import GoSem.ClaimSeven
namespace Go.Proofs.YtglbboamemndeaaGreatDoor
namespace Rows

/-- THE TIED CARD OF 'thicketlaw08.BodySound'. -/
def bodySoundCard : Claim7 := { stood := { row := bodySoundRow, standIns := [], harness := (true, "bceae1d0b49fbdf9c4a5d0b7ac54a5dd2231764f93e7099646a406f9d0f229c7"), looks := true }, kinds := [], alts := [], laidByText := true, laidKinds := [.data, .data, .data, .listed, .data], laidTests := true, laidLooks := .later }
def BodySoundCardSaid : Prop := Claim7.holds Tryz.pinned (.plain (OpenSpec.ofChange bodySoundSpec)) bodySoundCard

/-- THE SECOND FORM's CARD OF 'thicketlaw08.BodySound'. -/
def bodySoundUptoCard : Claim7 := { stood := { row := bodySoundUptoRow, standIns := [], harness := (true, "bceae1d0b49fbdf9c4a5d0b7ac54a5dd2231764f93e7099646a406f9d0f229c7"), looks := true }, kinds := [], alts := [], laidByText := true, laidKinds := [.data, .data, .data, .listed, .data], laidTests := true, laidLooks := .later }
def BodySoundUptoCardSaid : Prop := Claim7.holds Tryz.pinned (.plain (OpenSpec.upto bodySoundSpec)) bodySoundUptoCard
end Rows
end Go.Proofs.YtglbboamemndeaaGreatDoor
