/-
  DERIVED. GIVEN WITH THE SEED: THE CARDS: each row of YtbkijlifflhdiaaGreatDoorRows.lean that lists a variable, with what it lists TIED to the program's text (the seventh form; the later family's looks); each row that meets fmt, with fmt's text TOLD by the authors' own Lean function (tested against real Go, not proved from fmt's source: count such statements apart). THE CARD IS WHAT COUNTS. Prove the row's statement (the work); the ties are given (YtbkijlifflhdiaaGreatDoorTie.lean); close each card by the builder's one call (the guide's Derived/Test/ToyasCard.lean, 'card_holds'). Laid BY PROGRAM, IN A SANDBOX (cutbox-door.mjs). By AI agents, Wed Nov 11 2026. No macro, syntax, notation, axiom, sorry.
-/
import Derived.Test.YtbkijlifflhdiaaGreatDoorRows
import GoSem.ClaimSeven
namespace Go.Proofs.YtbkijlifflhdiaaGreatDoor
namespace Rows

/-- THE TIED CARD OF 'thickettop.TopBuilt'. -/
def topBuiltCard : Claim7 := { stood := { row := topBuiltRow, standIns := [], harness := (true, "2e97415c8a6caf2102d560640834ef3abd5526586a890d48256258ef23910ce5"), looks := true }, kinds := [], alts := [], laidByText := true, laidKinds := [.data, .data, .data, .listed, .data], laidTests := true, laidLooks := .later }
def TopBuiltCardSaid : Prop := Claim7.holds Tryz.pinned (.plain (OpenSpec.ofChange topBuiltSpec)) topBuiltCard

/-- THE TIED CARD OF 'thickettop.TopJoined'. -/
def topJoinedCard : Claim7 := { stood := { row := topJoinedRow, standIns := [], harness := (true, "2e97415c8a6caf2102d560640834ef3abd5526586a890d48256258ef23910ce5"), looks := true }, kinds := [], alts := [], laidByText := true, laidKinds := [.data, .data, .data, .listed, .data], laidTests := true, laidLooks := .later }
def TopJoinedCardSaid : Prop := Claim7.holds Tryz.pinned (.plain (OpenSpec.ofChange topJoinedSpec)) topJoinedCard

/-- THE SECOND FORM's CARD OF 'thickettop.TopBuilt'. -/
def topBuiltUptoCard : Claim7 := { stood := { row := topBuiltUptoRow, standIns := [], harness := (true, "2e97415c8a6caf2102d560640834ef3abd5526586a890d48256258ef23910ce5"), looks := true }, kinds := [], alts := [], laidByText := true, laidKinds := [.data, .data, .data, .listed, .data], laidTests := true, laidLooks := .later }
def TopBuiltUptoCardSaid : Prop := Claim7.holds Tryz.pinned (.plain (OpenSpec.upto topBuiltSpec)) topBuiltUptoCard

/-- THE SECOND FORM's CARD OF 'thickettop.TopJoined'. -/
def topJoinedUptoCard : Claim7 := { stood := { row := topJoinedUptoRow, standIns := [], harness := (true, "2e97415c8a6caf2102d560640834ef3abd5526586a890d48256258ef23910ce5"), looks := true }, kinds := [], alts := [], laidByText := true, laidKinds := [.data, .data, .data, .listed, .data], laidTests := true, laidLooks := .later }
def TopJoinedUptoCardSaid : Prop := Claim7.holds Tryz.pinned (.plain (OpenSpec.upto topJoinedSpec)) topJoinedUptoCard
end Rows
end Go.Proofs.YtbkijlifflhdiaaGreatDoor
