/-
  DERIVED. GIVEN WITH THE SEED: THE CARDS: each row of YtjjnhgoknielgaaGreatDoorRows.lean that lists a variable, with what it lists TIED to the program's text (the seventh form; the later family's looks); each row that meets fmt, with fmt's text TOLD by the authors' own Lean function (tested against real Go, not proved from fmt's source: count such statements apart). THE CARD IS WHAT COUNTS. Prove the row's statement (the work); the ties are given (YtjjnhgoknielgaaGreatDoorTie.lean); close each card by the builder's one call (the guide's Derived/Test/ToyasCard.lean, 'card_holds'). Laid BY PROGRAM, IN A SANDBOX (cutbox-door.mjs). By AI agents, Wed Nov 11 2026. No macro, syntax, notation, axiom, sorry.
-/
import Derived.Test.YtjjnhgoknielgaaGreatDoorRows
import GoSem.ClaimSeven
namespace Go.Proofs.YtjjnhgoknielgaaGreatDoor
namespace Rows

/-- THE TIED CARD OF 'thicketlaw08.BodySkeleton'. -/
def bodySkeletonCard : Claim7 := { stood := { row := bodySkeletonRow, standIns := [], harness := (true, "801b4339e62c1384151aed02197faeccfe654cac623715224d37114d8a3db0dc"), looks := true }, kinds := [], alts := [], laidByText := true, laidKinds := [.data, .data, .data, .listed, .data], laidTests := true, laidLooks := .later }
def BodySkeletonCardSaid : Prop := Claim7.holds Tryz.pinned (.plain (OpenSpec.ofChange bodySkeletonSpec)) bodySkeletonCard

/-- THE TIED CARD OF 'thicketlaw08.BodyText'. -/
def bodyTextCard : Claim7 := { stood := { row := bodyTextRow, standIns := [], harness := (true, "801b4339e62c1384151aed02197faeccfe654cac623715224d37114d8a3db0dc"), looks := true }, kinds := [], alts := [], laidByText := true, laidKinds := [.data, .data, .data, .listed, .data], laidTests := true, laidLooks := .later }
def BodyTextCardSaid : Prop := Claim7.holds Tryz.pinned (.plain (OpenSpec.ofChange bodyTextSpec)) bodyTextCard

/-- THE SECOND FORM's CARD OF 'thicketlaw08.BodySkeleton'. -/
def bodySkeletonUptoCard : Claim7 := { stood := { row := bodySkeletonUptoRow, standIns := [], harness := (true, "801b4339e62c1384151aed02197faeccfe654cac623715224d37114d8a3db0dc"), looks := true }, kinds := [], alts := [], laidByText := true, laidKinds := [.data, .data, .data, .listed, .data], laidTests := true, laidLooks := .later }
def BodySkeletonUptoCardSaid : Prop := Claim7.holds Tryz.pinned (.plain (OpenSpec.upto bodySkeletonSpec)) bodySkeletonUptoCard

/-- THE SECOND FORM's CARD OF 'thicketlaw08.BodyText'. -/
def bodyTextUptoCard : Claim7 := { stood := { row := bodyTextUptoRow, standIns := [], harness := (true, "801b4339e62c1384151aed02197faeccfe654cac623715224d37114d8a3db0dc"), looks := true }, kinds := [], alts := [], laidByText := true, laidKinds := [.data, .data, .data, .listed, .data], laidTests := true, laidLooks := .later }
def BodyTextUptoCardSaid : Prop := Claim7.holds Tryz.pinned (.plain (OpenSpec.upto bodyTextSpec)) bodyTextUptoCard
end Rows
end Go.Proofs.YtjjnhgoknielgaaGreatDoor
