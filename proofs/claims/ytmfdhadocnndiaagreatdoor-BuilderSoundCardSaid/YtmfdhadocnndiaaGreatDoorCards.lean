/-
  DERIVED. GIVEN WITH THE SEED: THE CARDS: each row of YtmfdhadocnndiaaGreatDoorRows.lean that lists a variable, with what it lists TIED to the program's text (the seventh form; the later family's looks); each row that meets fmt, with fmt's text TOLD by the authors' own Lean function (tested against real Go, not proved from fmt's source: count such statements apart). THE CARD IS WHAT COUNTS. Prove the row's statement (the work); the ties are given (YtmfdhadocnndiaaGreatDoorTie.lean); close each card by the builder's one call (the guide's Derived/Test/ToyasCard.lean, 'card_holds'). Laid BY PROGRAM, IN A SANDBOX (cutbox-door.mjs). By AI agents, Wed Nov 11 2026. No macro, syntax, notation, axiom, sorry.
-/
import Derived.Test.YtmfdhadocnndiaaGreatDoorRows
import GoSem.ClaimSeven
namespace Go.Proofs.YtmfdhadocnndiaaGreatDoor
namespace Rows

/-- THE TIED CARD OF 'thicketlaw07.BuilderSound'. -/
def builderSoundCard : Claim7 := { stood := { row := builderSoundRow, standIns := [], harness := (true, "199d4bb53dfa56d3c3b01af7cd0e86bff3f33cd0501998c9822bfab0dc9b9fc9"), looks := true }, kinds := [], alts := [], laidByText := true, laidKinds := [.data, .data, .data, .listed, .data], laidTests := true, laidLooks := .later }
def BuilderSoundCardSaid : Prop := Claim7.holds Tryz.pinned (.plain (OpenSpec.ofChange builderSoundSpec)) builderSoundCard

/-- THE SECOND FORM's CARD OF 'thicketlaw07.BuilderSound'. -/
def builderSoundUptoCard : Claim7 := { stood := { row := builderSoundUptoRow, standIns := [], harness := (true, "199d4bb53dfa56d3c3b01af7cd0e86bff3f33cd0501998c9822bfab0dc9b9fc9"), looks := true }, kinds := [], alts := [], laidByText := true, laidKinds := [.data, .data, .data, .listed, .data], laidTests := true, laidLooks := .later }
def BuilderSoundUptoCardSaid : Prop := Claim7.holds Tryz.pinned (.plain (OpenSpec.upto builderSoundSpec)) builderSoundUptoCard
end Rows
end Go.Proofs.YtmfdhadocnndiaaGreatDoor
