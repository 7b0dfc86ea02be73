/-
  DERIVED. GIVEN WITH THE SEED: THE CARDS: each row of YtbnogamdhadfcaaGreatDoorRows.lean that lists a variable, with what it lists TIED to the program's text (the seventh form; the later family's looks); each row that meets fmt, with fmt's text TOLD by the authors' own Lean function (tested against real Go, not proved from fmt's source: count such statements apart). THE CARD IS WHAT COUNTS. Prove the row's statement (the work); the ties are given (YtbnogamdhadfcaaGreatDoorTie.lean); close each card by the builder's one call (the guide's Derived/Test/ToyasCard.lean, 'card_holds'). Laid BY PROGRAM, IN A SANDBOX (cutbox-door.mjs). By AI agents, Wed Nov 11 2026. No macro, syntax, notation, axiom, sorry.
-/
import Derived.Test.YtbnogamdhadfcaaGreatDoorRows
import GoSem.ClaimSeven
namespace Go.Proofs.YtbnogamdhadfcaaGreatDoor
namespace Rows

/-- THE TIED CARD OF 'thicketlaw07.BuilderBegins'. -/
def builderBeginsCard : Claim7 := { stood := { row := builderBeginsRow, standIns := [], harness := (true, "587cd4c9f1952dce14fc3a06021702b95aaefd0f4863567ee8285993e6f44096"), looks := true }, kinds := [], alts := [], laidByText := true, laidKinds := [.data, .data, .data, .listed, .data], laidTests := true, laidLooks := .later }
def BuilderBeginsCardSaid : Prop := Claim7.holds Tryz.pinned (.plain (OpenSpec.ofChange builderBeginsSpec)) builderBeginsCard

/-- THE TIED CARD OF 'thicketlaw07.BuilderOwn'. -/
def builderOwnCard : Claim7 := { stood := { row := builderOwnRow, standIns := [], harness := (true, "587cd4c9f1952dce14fc3a06021702b95aaefd0f4863567ee8285993e6f44096"), looks := true }, kinds := [], alts := [], laidByText := true, laidKinds := [.data, .data, .data, .listed, .data], laidTests := true, laidLooks := .later }
def BuilderOwnCardSaid : Prop := Claim7.holds Tryz.pinned (.plain (OpenSpec.ofChange builderOwnSpec)) builderOwnCard

/-- THE TIED CARD OF 'thicketlaw07.BuilderSound'. -/
def builderSoundCard : Claim7 := { stood := { row := builderSoundRow, standIns := [], harness := (true, "587cd4c9f1952dce14fc3a06021702b95aaefd0f4863567ee8285993e6f44096"), looks := true }, kinds := [], alts := [], laidByText := true, laidKinds := [.data, .data, .data, .listed, .data], laidTests := true, laidLooks := .later }
def BuilderSoundCardSaid : Prop := Claim7.holds Tryz.pinned (.plain (OpenSpec.ofChange builderSoundSpec)) builderSoundCard

/-- THE SECOND FORM's CARD OF 'thicketlaw07.BuilderBegins'. -/
def builderBeginsUptoCard : Claim7 := { stood := { row := builderBeginsUptoRow, standIns := [], harness := (true, "587cd4c9f1952dce14fc3a06021702b95aaefd0f4863567ee8285993e6f44096"), looks := true }, kinds := [], alts := [], laidByText := true, laidKinds := [.data, .data, .data, .listed, .data], laidTests := true, laidLooks := .later }
def BuilderBeginsUptoCardSaid : Prop := Claim7.holds Tryz.pinned (.plain (OpenSpec.upto builderBeginsSpec)) builderBeginsUptoCard

/-- THE SECOND FORM's CARD OF 'thicketlaw07.BuilderOwn'. -/
def builderOwnUptoCard : Claim7 := { stood := { row := builderOwnUptoRow, standIns := [], harness := (true, "587cd4c9f1952dce14fc3a06021702b95aaefd0f4863567ee8285993e6f44096"), looks := true }, kinds := [], alts := [], laidByText := true, laidKinds := [.data, .data, .data, .listed, .data], laidTests := true, laidLooks := .later }
def BuilderOwnUptoCardSaid : Prop := Claim7.holds Tryz.pinned (.plain (OpenSpec.upto builderOwnSpec)) builderOwnUptoCard

/-- THE SECOND FORM's CARD OF 'thicketlaw07.BuilderSound'. -/
def builderSoundUptoCard : Claim7 := { stood := { row := builderSoundUptoRow, standIns := [], harness := (true, "587cd4c9f1952dce14fc3a06021702b95aaefd0f4863567ee8285993e6f44096"), looks := true }, kinds := [], alts := [], laidByText := true, laidKinds := [.data, .data, .data, .listed, .data], laidTests := true, laidLooks := .later }
def BuilderSoundUptoCardSaid : Prop := Claim7.holds Tryz.pinned (.plain (OpenSpec.upto builderSoundSpec)) builderSoundUptoCard
end Rows
end Go.Proofs.YtbnogamdhadfcaaGreatDoor
