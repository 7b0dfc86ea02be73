/-
  DERIVED. GIVEN WITH THE SEED: THE CARDS: each row of YtdbnpiefklklhaaGreatDoorRows.lean that lists a variable, with what it lists TIED to the program's text (the seventh form; the later family's looks); each row that meets fmt, with fmt's text TOLD by the authors' own Lean function (tested against real Go, not proved from fmt's source: count such statements apart). THE CARD IS WHAT COUNTS. Prove the row's statement (the work); the ties are given (YtdbnpiefklklhaaGreatDoorTie.lean); close each card by the builder's one call (the guide's Derived/Test/ToyasCard.lean, 'card_holds'). Laid BY PROGRAM, IN A SANDBOX (cutbox-door.mjs). By AI agents, Wed Nov 11 2026. No macro, syntax, notation, axiom, sorry.
-/
import Derived.Test.YtdbnpiefklklhaaGreatDoorRows
import GoSem.ClaimSeven
namespace Go.Proofs.YtdbnpiefklklhaaGreatDoor
namespace Rows

/-- THE TIED CARD OF 'thicketlaw08.BodyIgnores'. -/
def bodyIgnoresCard : Claim7 := { stood := { row := bodyIgnoresRow, standIns := [], harness := (true, "40d5135bddef46e7df7647b05c84a792e187dfaa025d240a07ebcf5b6ed73274"), looks := true }, kinds := [], alts := [], laidByText := true, laidKinds := [.data, .data, .data, .listed, .data], laidTests := true, laidLooks := .later }
def BodyIgnoresCardSaid : Prop := Claim7.holds Tryz.pinned (.plain (OpenSpec.ofChange bodyIgnoresSpec)) bodyIgnoresCard

/-- THE TIED CARD OF 'thicketlaw08.BodyNames'. -/
def bodyNamesCard : Claim7 := { stood := { row := bodyNamesRow, standIns := [], harness := (true, "40d5135bddef46e7df7647b05c84a792e187dfaa025d240a07ebcf5b6ed73274"), looks := true }, kinds := [], alts := [], laidByText := true, laidKinds := [.data, .data, .data, .listed, .data], laidTests := true, laidLooks := .later }
def BodyNamesCardSaid : Prop := Claim7.holds Tryz.pinned (.plain (OpenSpec.ofChange bodyNamesSpec)) bodyNamesCard

/-- THE SECOND FORM's CARD OF 'thicketlaw08.BodyIgnores'. -/
def bodyIgnoresUptoCard : Claim7 := { stood := { row := bodyIgnoresUptoRow, standIns := [], harness := (true, "40d5135bddef46e7df7647b05c84a792e187dfaa025d240a07ebcf5b6ed73274"), looks := true }, kinds := [], alts := [], laidByText := true, laidKinds := [.data, .data, .data, .listed, .data], laidTests := true, laidLooks := .later }
def BodyIgnoresUptoCardSaid : Prop := Claim7.holds Tryz.pinned (.plain (OpenSpec.upto bodyIgnoresSpec)) bodyIgnoresUptoCard

/-- THE SECOND FORM's CARD OF 'thicketlaw08.BodyNames'. -/
def bodyNamesUptoCard : Claim7 := { stood := { row := bodyNamesUptoRow, standIns := [], harness := (true, "40d5135bddef46e7df7647b05c84a792e187dfaa025d240a07ebcf5b6ed73274"), looks := true }, kinds := [], alts := [], laidByText := true, laidKinds := [.data, .data, .data, .listed, .data], laidTests := true, laidLooks := .later }
def BodyNamesUptoCardSaid : Prop := Claim7.holds Tryz.pinned (.plain (OpenSpec.upto bodyNamesSpec)) bodyNamesUptoCard
end Rows
end Go.Proofs.YtdbnpiefklklhaaGreatDoor
