/-
  DERIVED. GIVEN WITH THE SEED: THE CARDS: each row of YtjboelmdplaenaaGreatDoorRows.lean that lists a variable, with what it lists TIED to the program's text (the seventh form; the later family's looks); each row that meets fmt, with fmt's text TOLD by the authors' own Lean function (tested against real Go, not proved from fmt's source: count such statements apart). THE CARD IS WHAT COUNTS. Prove the row's statement (the work); the ties are given (YtjboelmdplaenaaGreatDoorTie.lean); close each card by the builder's one call (the guide's Derived/Test/ToyasCard.lean, 'card_holds'). Laid BY PROGRAM, IN A SANDBOX (cutbox-door.mjs). By AI agents, Wed Nov 11 2026. No macro, syntax, notation, axiom, sorry.
-/
import Derived.Test.YtjboelmdplaenaaGreatDoorRows
import GoSem.ClaimSeven
namespace Go.Proofs.YtjboelmdplaenaaGreatDoor
namespace Rows

/-- THE TIED CARD OF 'thickettop.TopCopied'. -/
def topCopiedCard : Claim7 := { stood := { row := topCopiedRow, standIns := [], harness := (true, "2e19443660c815e08d44c84fa483e94191320b598baf71a5c0f70c77a66cbdd7"), looks := true }, kinds := [], alts := [], laidByText := true, laidKinds := [.data, .data, .data], laidTests := true, laidLooks := .later }
def TopCopiedCardSaid : Prop := Claim7.holds Tryz.pinned (.plain (OpenSpec.ofChange topCopiedSpec)) topCopiedCard

/-- THE SECOND FORM's CARD OF 'thickettop.TopCopied'. -/
def topCopiedUptoCard : Claim7 := { stood := { row := topCopiedUptoRow, standIns := [], harness := (true, "2e19443660c815e08d44c84fa483e94191320b598baf71a5c0f70c77a66cbdd7"), looks := true }, kinds := [], alts := [], laidByText := true, laidKinds := [.data, .data, .data], laidTests := true, laidLooks := .later }
def TopCopiedUptoCardSaid : Prop := Claim7.holds Tryz.pinned (.plain (OpenSpec.upto topCopiedSpec)) topCopiedUptoCard
end Rows
end Go.Proofs.YtjboelmdplaenaaGreatDoor
