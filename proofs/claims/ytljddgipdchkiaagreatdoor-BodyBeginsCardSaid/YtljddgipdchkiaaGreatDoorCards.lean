/-
  DERIVED. GIVEN WITH THE SEED: THE CARDS: each row of YtljddgipdchkiaaGreatDoorRows.lean that lists a variable, with what it lists TIED to the program's text (the seventh form; the later family's looks); each row that meets fmt, with fmt's text TOLD by the authors' own Lean function (tested against real Go, not proved from fmt's source: count such statements apart). THE CARD IS WHAT COUNTS. Prove the row's statement (the work); the ties are given (YtljddgipdchkiaaGreatDoorTie.lean); close each card by the builder's one call (the guide's Derived/Test/ToyasCard.lean, 'card_holds'). Laid BY PROGRAM, IN A SANDBOX (cutbox-door.mjs). By AI agents, Wed Nov 11 2026. No macro, syntax, notation, axiom, sorry.
-/
import Derived.Test.YtljddgipdchkiaaGreatDoorRows
import GoSem.ClaimSeven
namespace Go.Proofs.YtljddgipdchkiaaGreatDoor
namespace Rows

/-- THE TIED CARD OF 'thicketlaw08.BodyBegins'. -/
def bodyBeginsCard : Claim7 := { stood := { row := bodyBeginsRow, standIns := [], harness := (true, "7cf3eef137d27709809c68134b4ba088c3bfb814e888854740905f636086f381"), looks := true }, kinds := [], alts := [], laidByText := true, laidKinds := [.data, .data, .data, .listed, .data], laidTests := true, laidLooks := .later }
def BodyBeginsCardSaid : Prop := Claim7.holds Tryz.pinned (.plain (OpenSpec.ofChange bodyBeginsSpec)) bodyBeginsCard

/-- THE TIED CARD OF 'thicketlaw08.BodyRaw'. -/
def bodyRawCard : Claim7 := { stood := { row := bodyRawRow, standIns := [], harness := (true, "7cf3eef137d27709809c68134b4ba088c3bfb814e888854740905f636086f381"), looks := true }, kinds := [], alts := [], laidByText := true, laidKinds := [.data, .data, .data, .listed, .data], laidTests := true, laidLooks := .later }
def BodyRawCardSaid : Prop := Claim7.holds Tryz.pinned (.plain (OpenSpec.ofChange bodyRawSpec)) bodyRawCard

/-- THE SECOND FORM's CARD OF 'thicketlaw08.BodyBegins'. -/
def bodyBeginsUptoCard : Claim7 := { stood := { row := bodyBeginsUptoRow, standIns := [], harness := (true, "7cf3eef137d27709809c68134b4ba088c3bfb814e888854740905f636086f381"), looks := true }, kinds := [], alts := [], laidByText := true, laidKinds := [.data, .data, .data, .listed, .data], laidTests := true, laidLooks := .later }
def BodyBeginsUptoCardSaid : Prop := Claim7.holds Tryz.pinned (.plain (OpenSpec.upto bodyBeginsSpec)) bodyBeginsUptoCard

/-- THE SECOND FORM's CARD OF 'thicketlaw08.BodyRaw'. -/
def bodyRawUptoCard : Claim7 := { stood := { row := bodyRawUptoRow, standIns := [], harness := (true, "7cf3eef137d27709809c68134b4ba088c3bfb814e888854740905f636086f381"), looks := true }, kinds := [], alts := [], laidByText := true, laidKinds := [.data, .data, .data, .listed, .data], laidTests := true, laidLooks := .later }
def BodyRawUptoCardSaid : Prop := Claim7.holds Tryz.pinned (.plain (OpenSpec.upto bodyRawSpec)) bodyRawUptoCard
end Rows
end Go.Proofs.YtljddgipdchkiaaGreatDoor
