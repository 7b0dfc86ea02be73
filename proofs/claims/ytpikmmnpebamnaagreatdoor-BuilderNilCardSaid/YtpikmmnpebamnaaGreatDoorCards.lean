/-
  DERIVED. GIVEN WITH THE SEED: THE CARDS: each row of YtpikmmnpebamnaaGreatDoorRows.lean that lists a variable, with what it lists TIED to the program's text (the seventh form; the later family's looks); each row that meets fmt, with fmt's text TOLD by the authors' own Lean function (tested against real Go, not proved from fmt's source: count such statements apart). THE CARD IS WHAT COUNTS. Prove the row's statement (the work); the ties are given (YtpikmmnpebamnaaGreatDoorTie.lean); close each card by the builder's one call (the guide's Derived/Test/ToyasCard.lean, 'card_holds'). Laid BY PROGRAM, IN A SANDBOX (cutbox-door.mjs). By AI agents, Wed Nov 11 2026. No macro, syntax, notation, axiom, sorry.
-/
import Derived.Test.YtpikmmnpebamnaaGreatDoorRows
import GoSem.ClaimSeven
namespace Go.Proofs.YtpikmmnpebamnaaGreatDoor
namespace Rows

/-- THE TIED CARD OF 'thicketlaw07.BuilderBegins'. -/
def builderBeginsCard : Claim7 := { stood := { row := builderBeginsRow, standIns := [], harness := (true, "c92ad53f2812ee3574a5bc0580faeab605da10c3d2122a73a21c8d3e60628e7f"), looks := true }, kinds := [], alts := [], laidByText := true, laidKinds := [.data, .data, .data, .listed, .data], laidTests := true, laidLooks := .later }
def BuilderBeginsCardSaid : Prop := Claim7.holds Tryz.pinned (.plain (OpenSpec.ofChange builderBeginsSpec)) builderBeginsCard

/-- THE TIED CARD OF 'thicketlaw07.BuilderMerges'. -/
def builderMergesCard : Claim7 := { stood := { row := builderMergesRow, standIns := [], harness := (true, "c92ad53f2812ee3574a5bc0580faeab605da10c3d2122a73a21c8d3e60628e7f"), looks := true }, kinds := [], alts := [], laidByText := true, laidKinds := [.data, .data, .data, .listed, .data], laidTests := true, laidLooks := .later }
def BuilderMergesCardSaid : Prop := Claim7.holds Tryz.pinned (.plain (OpenSpec.ofChange builderMergesSpec)) builderMergesCard

/-- THE TIED CARD OF 'thicketlaw07.BuilderNil'. -/
def builderNilCard : Claim7 := { stood := { row := builderNilRow, standIns := [], harness := (true, "c92ad53f2812ee3574a5bc0580faeab605da10c3d2122a73a21c8d3e60628e7f"), looks := true }, kinds := [], alts := [], laidByText := true, laidKinds := [.data, .data, .data, .listed, .data], laidTests := true, laidLooks := .later }
def BuilderNilCardSaid : Prop := Claim7.holds Tryz.pinned (.plain (OpenSpec.ofChange builderNilSpec)) builderNilCard

/-- THE SECOND FORM's CARD OF 'thicketlaw07.BuilderBegins'. -/
def builderBeginsUptoCard : Claim7 := { stood := { row := builderBeginsUptoRow, standIns := [], harness := (true, "c92ad53f2812ee3574a5bc0580faeab605da10c3d2122a73a21c8d3e60628e7f"), looks := true }, kinds := [], alts := [], laidByText := true, laidKinds := [.data, .data, .data, .listed, .data], laidTests := true, laidLooks := .later }
def BuilderBeginsUptoCardSaid : Prop := Claim7.holds Tryz.pinned (.plain (OpenSpec.upto builderBeginsSpec)) builderBeginsUptoCard

/-- THE SECOND FORM's CARD OF 'thicketlaw07.BuilderMerges'. -/
def builderMergesUptoCard : Claim7 := { stood := { row := builderMergesUptoRow, standIns := [], harness := (true, "c92ad53f2812ee3574a5bc0580faeab605da10c3d2122a73a21c8d3e60628e7f"), looks := true }, kinds := [], alts := [], laidByText := true, laidKinds := [.data, .data, .data, .listed, .data], laidTests := true, laidLooks := .later }
def BuilderMergesUptoCardSaid : Prop := Claim7.holds Tryz.pinned (.plain (OpenSpec.upto builderMergesSpec)) builderMergesUptoCard

/-- THE SECOND FORM's CARD OF 'thicketlaw07.BuilderNil'. -/
def builderNilUptoCard : Claim7 := { stood := { row := builderNilUptoRow, standIns := [], harness := (true, "c92ad53f2812ee3574a5bc0580faeab605da10c3d2122a73a21c8d3e60628e7f"), looks := true }, kinds := [], alts := [], laidByText := true, laidKinds := [.data, .data, .data, .listed, .data], laidTests := true, laidLooks := .later }
def BuilderNilUptoCardSaid : Prop := Claim7.holds Tryz.pinned (.plain (OpenSpec.upto builderNilSpec)) builderNilUptoCard
end Rows
end Go.Proofs.YtpikmmnpebamnaaGreatDoor
