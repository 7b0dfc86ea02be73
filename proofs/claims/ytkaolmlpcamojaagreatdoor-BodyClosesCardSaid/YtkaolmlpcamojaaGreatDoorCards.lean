/-
  DERIVED. GIVEN WITH THE SEED: THE CARDS: each row of YtkaolmlpcamojaaGreatDoorRows.lean that lists a variable, with what it lists TIED to the program's text (the seventh form; the later family's looks); each row that meets fmt, with fmt's text TOLD by the authors' own Lean function (tested against real Go, not proved from fmt's source: count such statements apart). THE CARD IS WHAT COUNTS. Prove the row's statement (the work); the ties are given (YtkaolmlpcamojaaGreatDoorTie.lean); close each card by the builder's one call (the guide's Derived/Test/ToyasCard.lean, 'card_holds'). Laid BY PROGRAM, IN A SANDBOX (cutbox-door.mjs). By AI agents, Wed Nov 11 2026. No macro, syntax, notation, axiom, sorry.
-/
import Derived.Test.YtkaolmlpcamojaaGreatDoorRows
import GoSem.ClaimSeven
namespace Go.Proofs.YtkaolmlpcamojaaGreatDoor
namespace Rows

/-- THE TIED CARD OF 'thicketlaw08.BodyHeads'. -/
def bodyHeadsCard : Claim7 := { stood := { row := bodyHeadsRow, standIns := [], harness := (true, "0ae96d1d5906b038454306227770cc50c0da3ed179dc0580e49eaa984782ad64"), looks := true }, kinds := [], alts := [], laidByText := true, laidKinds := [.data, .data, .data, .listed, .data], laidTests := true, laidLooks := .later }
def BodyHeadsCardSaid : Prop := Claim7.holds Tryz.pinned (.plain (OpenSpec.ofChange bodyHeadsSpec)) bodyHeadsCard

/-- THE TIED CARD OF 'thicketlaw08.BodyCloses'. -/
def bodyClosesCard : Claim7 := { stood := { row := bodyClosesRow, standIns := [], harness := (true, "0ae96d1d5906b038454306227770cc50c0da3ed179dc0580e49eaa984782ad64"), looks := true }, kinds := [], alts := [], laidByText := true, laidKinds := [.data, .data, .data, .listed, .data], laidTests := true, laidLooks := .later }
def BodyClosesCardSaid : Prop := Claim7.holds Tryz.pinned (.plain (OpenSpec.ofChange bodyClosesSpec)) bodyClosesCard

/-- THE SECOND FORM's CARD OF 'thicketlaw08.BodyHeads'. -/
def bodyHeadsUptoCard : Claim7 := { stood := { row := bodyHeadsUptoRow, standIns := [], harness := (true, "0ae96d1d5906b038454306227770cc50c0da3ed179dc0580e49eaa984782ad64"), looks := true }, kinds := [], alts := [], laidByText := true, laidKinds := [.data, .data, .data, .listed, .data], laidTests := true, laidLooks := .later }
def BodyHeadsUptoCardSaid : Prop := Claim7.holds Tryz.pinned (.plain (OpenSpec.upto bodyHeadsSpec)) bodyHeadsUptoCard

/-- THE SECOND FORM's CARD OF 'thicketlaw08.BodyCloses'. -/
def bodyClosesUptoCard : Claim7 := { stood := { row := bodyClosesUptoRow, standIns := [], harness := (true, "0ae96d1d5906b038454306227770cc50c0da3ed179dc0580e49eaa984782ad64"), looks := true }, kinds := [], alts := [], laidByText := true, laidKinds := [.data, .data, .data, .listed, .data], laidTests := true, laidLooks := .later }
def BodyClosesUptoCardSaid : Prop := Claim7.holds Tryz.pinned (.plain (OpenSpec.upto bodyClosesSpec)) bodyClosesUptoCard
end Rows
end Go.Proofs.YtkaolmlpcamojaaGreatDoor
