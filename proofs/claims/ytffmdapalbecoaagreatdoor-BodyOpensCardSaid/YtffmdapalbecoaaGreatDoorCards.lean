/-
  DERIVED. GIVEN WITH THE SEED: THE CARDS: each row of YtffmdapalbecoaaGreatDoorRows.lean that lists a variable, with what it lists TIED to the program's text (the seventh form; the later family's looks); each row that meets fmt, with fmt's text TOLD by the authors' own Lean function (tested against real Go, not proved from fmt's source: count such statements apart). THE CARD IS WHAT COUNTS. Prove the row's statement (the work); the ties are given (YtffmdapalbecoaaGreatDoorTie.lean); close each card by the builder's one call (the guide's Derived/Test/ToyasCard.lean, 'card_holds'). Laid BY PROGRAM, IN A SANDBOX (cutbox-door.mjs). By AI agents, Wed Nov 11 2026. No macro, syntax, notation, axiom, sorry.
-/
import Derived.Test.YtffmdapalbecoaaGreatDoorRows
import GoSem.ClaimSeven
namespace Go.Proofs.YtffmdapalbecoaaGreatDoor
namespace Rows

/-- THE TIED CARD OF 'thicketlaw08.BodyOpens'. -/
def bodyOpensCard : Claim7 := { stood := { row := bodyOpensRow, standIns := [], harness := (true, "2456a42108ac285b87ab405572608e619670931e9c7be32b796aab25a694d386"), looks := true }, kinds := [], alts := [], laidByText := true, laidKinds := [.data, .data, .data, .listed, .data], laidTests := true, laidLooks := .later }
def BodyOpensCardSaid : Prop := Claim7.holds Tryz.pinned (.plain (OpenSpec.ofChange bodyOpensSpec)) bodyOpensCard

/-- THE SECOND FORM's CARD OF 'thicketlaw08.BodyOpens'. -/
def bodyOpensUptoCard : Claim7 := { stood := { row := bodyOpensUptoRow, standIns := [], harness := (true, "2456a42108ac285b87ab405572608e619670931e9c7be32b796aab25a694d386"), looks := true }, kinds := [], alts := [], laidByText := true, laidKinds := [.data, .data, .data, .listed, .data], laidTests := true, laidLooks := .later }
def BodyOpensUptoCardSaid : Prop := Claim7.holds Tryz.pinned (.plain (OpenSpec.upto bodyOpensSpec)) bodyOpensUptoCard
end Rows
end Go.Proofs.YtffmdapalbecoaaGreatDoor
