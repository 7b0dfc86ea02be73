/-
  DERIVED. GIVEN WITH THE SEED: THE CARDS: each row of YtjbidlnjecppfaaGreatDoorRows.lean that lists a variable, with what it lists TIED to the program's text (the seventh form; the later family's looks); each row that meets fmt, with fmt's text TOLD by the authors' own Lean function (tested against real Go, not proved from fmt's source: count such statements apart). THE CARD IS WHAT COUNTS. Prove the row's statement (the work); the ties are given (YtjbidlnjecppfaaGreatDoorTie.lean); close each card by the builder's one call (the guide's Derived/Test/ToyasCard.lean, 'card_holds'). Laid BY PROGRAM, IN A SANDBOX (cutbox-door.mjs). By AI agents, Wed Nov 11 2026. No macro, syntax, notation, axiom, sorry.
-/
import Derived.Test.YtjbidlnjecppfaaGreatDoorRows
import GoSem.ClaimSeven
namespace Go.Proofs.YtjbidlnjecppfaaGreatDoor
namespace Rows

/-- THE TIED CARD OF 'thicketlaw08.BodyPlays'. -/
def bodyPlaysCard : Claim7 := { stood := { row := bodyPlaysRow, standIns := [], harness := (true, "5e0b9e3884827bd2c476f2b8ffadbda0000ad55c7c636023fea5a8a5c08968ee"), looks := true }, kinds := [], alts := [], laidByText := true, laidKinds := [.data, .data, .data, .listed, .data], laidTests := true, laidLooks := .later }
def BodyPlaysCardSaid : Prop := Claim7.holds Tryz.pinned (.plain (OpenSpec.ofChange bodyPlaysSpec)) bodyPlaysCard

/-- THE SECOND FORM's CARD OF 'thicketlaw08.BodyPlays'. -/
def bodyPlaysUptoCard : Claim7 := { stood := { row := bodyPlaysUptoRow, standIns := [], harness := (true, "5e0b9e3884827bd2c476f2b8ffadbda0000ad55c7c636023fea5a8a5c08968ee"), looks := true }, kinds := [], alts := [], laidByText := true, laidKinds := [.data, .data, .data, .listed, .data], laidTests := true, laidLooks := .later }
def BodyPlaysUptoCardSaid : Prop := Claim7.holds Tryz.pinned (.plain (OpenSpec.upto bodyPlaysSpec)) bodyPlaysUptoCard
end Rows
end Go.Proofs.YtjbidlnjecppfaaGreatDoor
