/-
  DERIVED. GIVEN WITH THE SEED: THE CARDS: each row of YtemolpggcmbieaaGreatDoorRows.lean that lists a variable, with what it lists TIED to the program's text (the seventh form; the later family's looks); each row that meets fmt, with fmt's text TOLD by the authors' own Lean function (tested against real Go, not proved from fmt's source: count such statements apart). THE CARD IS WHAT COUNTS. Prove the row's statement (the work); the ties are given (YtemolpggcmbieaaGreatDoorTie.lean); close each card by the builder's one call (the guide's Derived/Test/ToyasCard.lean, 'card_holds'). Laid BY PROGRAM, IN A SANDBOX (cutbox-door.mjs). By AI agents, Wed Nov 11 2026. No macro, syntax, notation, axiom, sorry.
-/
import Derived.Test.YtemolpggcmbieaaGreatDoorRows
import GoSem.ClaimSeven
namespace Go.Proofs.YtemolpggcmbieaaGreatDoor
namespace Rows

/-- THE TIED CARD OF 'thicketlaw08.BodyApplies'. -/
def bodyAppliesCard : Claim7 := { stood := { row := bodyAppliesRow, standIns := [], harness := (true, "de6d417210d3157bd9eb66e1035b8398845816aaee67a2b232c6665654762e14"), looks := true }, kinds := [], alts := [], laidByText := true, laidKinds := [.data, .data, .data, .listed, .data], laidTests := true, laidLooks := .later }
def BodyAppliesCardSaid : Prop := Claim7.holds Tryz.pinned (.plain (OpenSpec.ofChange bodyAppliesSpec)) bodyAppliesCard

/-- THE SECOND FORM's CARD OF 'thicketlaw08.BodyApplies'. -/
def bodyAppliesUptoCard : Claim7 := { stood := { row := bodyAppliesUptoRow, standIns := [], harness := (true, "de6d417210d3157bd9eb66e1035b8398845816aaee67a2b232c6665654762e14"), looks := true }, kinds := [], alts := [], laidByText := true, laidKinds := [.data, .data, .data, .listed, .data], laidTests := true, laidLooks := .later }
def BodyAppliesUptoCardSaid : Prop := Claim7.holds Tryz.pinned (.plain (OpenSpec.upto bodyAppliesSpec)) bodyAppliesUptoCard
end Rows
end Go.Proofs.YtemolpggcmbieaaGreatDoor
