/-
  DERIVED. GIVEN WITH THE SEED: THE CARDS: each row of YtefjamneieebhaaGreatDoorRows.lean that lists a variable, with what it lists TIED to the program's text (the seventh form; the later family's looks); each row that meets fmt, with fmt's text TOLD by the authors' own Lean function (tested against real Go, not proved from fmt's source: count such statements apart). THE CARD IS WHAT COUNTS. Prove the row's statement (the work); the ties are given (YtefjamneieebhaaGreatDoorTie.lean); close each card by the builder's one call (the guide's Derived/Test/ToyasCard.lean, 'card_holds'). Laid BY PROGRAM, IN A SANDBOX (cutbox-door.mjs). By AI agents, Wed Nov 11 2026. No macro, syntax, notation, axiom, sorry.
-/
import Derived.Test.YtefjamneieebhaaGreatDoorRows
import GoSem.ClaimSeven
namespace Go.Proofs.YtefjamneieebhaaGreatDoor
namespace Rows

/-- THE TIED CARD OF 'thicketlaw07.BuilderResets'. -/
def builderResetsCard : Claim7 := { stood := { row := builderResetsRow, standIns := [], harness := (true, "0df00f7bcb1dd0a8bcba53ce744227f92549ab49846cc4d7ad9c818ef5347c24"), looks := true }, kinds := [], alts := [], laidByText := true, laidKinds := [.data, .data, .data, .listed, .data], laidTests := true, laidLooks := .later }
def BuilderResetsCardSaid : Prop := Claim7.holds Tryz.pinned (.plain (OpenSpec.ofChange builderResetsSpec)) builderResetsCard

/-- THE TIED CARD OF 'thicketlaw07.BuilderPlays'. -/
def builderPlaysCard : Claim7 := { stood := { row := builderPlaysRow, standIns := [], harness := (true, "0df00f7bcb1dd0a8bcba53ce744227f92549ab49846cc4d7ad9c818ef5347c24"), looks := true }, kinds := [], alts := [], laidByText := true, laidKinds := [.data, .data, .data, .listed, .data], laidTests := true, laidLooks := .later }
def BuilderPlaysCardSaid : Prop := Claim7.holds Tryz.pinned (.plain (OpenSpec.ofChange builderPlaysSpec)) builderPlaysCard

/-- THE TIED CARD OF 'thicketlaw07.BuilderAdopts'. -/
def builderAdoptsCard : Claim7 := { stood := { row := builderAdoptsRow, standIns := [], harness := (true, "0df00f7bcb1dd0a8bcba53ce744227f92549ab49846cc4d7ad9c818ef5347c24"), looks := true }, kinds := [], alts := [], laidByText := true, laidKinds := [.data, .data, .data, .listed, .data], laidTests := true, laidLooks := .later }
def BuilderAdoptsCardSaid : Prop := Claim7.holds Tryz.pinned (.plain (OpenSpec.ofChange builderAdoptsSpec)) builderAdoptsCard

/-- THE TIED CARD OF 'thicketlaw07.BuilderPlaces'. -/
def builderPlacesCard : Claim7 := { stood := { row := builderPlacesRow, standIns := [], harness := (true, "0df00f7bcb1dd0a8bcba53ce744227f92549ab49846cc4d7ad9c818ef5347c24"), looks := true }, kinds := [], alts := [], laidByText := true, laidKinds := [.data, .data, .data, .listed, .data], laidTests := true, laidLooks := .later }
def BuilderPlacesCardSaid : Prop := Claim7.holds Tryz.pinned (.plain (OpenSpec.ofChange builderPlacesSpec)) builderPlacesCard

/-- THE SECOND FORM's CARD OF 'thicketlaw07.BuilderResets'. -/
def builderResetsUptoCard : Claim7 := { stood := { row := builderResetsUptoRow, standIns := [], harness := (true, "0df00f7bcb1dd0a8bcba53ce744227f92549ab49846cc4d7ad9c818ef5347c24"), looks := true }, kinds := [], alts := [], laidByText := true, laidKinds := [.data, .data, .data, .listed, .data], laidTests := true, laidLooks := .later }
def BuilderResetsUptoCardSaid : Prop := Claim7.holds Tryz.pinned (.plain (OpenSpec.upto builderResetsSpec)) builderResetsUptoCard

/-- THE SECOND FORM's CARD OF 'thicketlaw07.BuilderPlays'. -/
def builderPlaysUptoCard : Claim7 := { stood := { row := builderPlaysUptoRow, standIns := [], harness := (true, "0df00f7bcb1dd0a8bcba53ce744227f92549ab49846cc4d7ad9c818ef5347c24"), looks := true }, kinds := [], alts := [], laidByText := true, laidKinds := [.data, .data, .data, .listed, .data], laidTests := true, laidLooks := .later }
def BuilderPlaysUptoCardSaid : Prop := Claim7.holds Tryz.pinned (.plain (OpenSpec.upto builderPlaysSpec)) builderPlaysUptoCard

/-- THE SECOND FORM's CARD OF 'thicketlaw07.BuilderAdopts'. -/
def builderAdoptsUptoCard : Claim7 := { stood := { row := builderAdoptsUptoRow, standIns := [], harness := (true, "0df00f7bcb1dd0a8bcba53ce744227f92549ab49846cc4d7ad9c818ef5347c24"), looks := true }, kinds := [], alts := [], laidByText := true, laidKinds := [.data, .data, .data, .listed, .data], laidTests := true, laidLooks := .later }
def BuilderAdoptsUptoCardSaid : Prop := Claim7.holds Tryz.pinned (.plain (OpenSpec.upto builderAdoptsSpec)) builderAdoptsUptoCard

/-- THE SECOND FORM's CARD OF 'thicketlaw07.BuilderPlaces'. -/
def builderPlacesUptoCard : Claim7 := { stood := { row := builderPlacesUptoRow, standIns := [], harness := (true, "0df00f7bcb1dd0a8bcba53ce744227f92549ab49846cc4d7ad9c818ef5347c24"), looks := true }, kinds := [], alts := [], laidByText := true, laidKinds := [.data, .data, .data, .listed, .data], laidTests := true, laidLooks := .later }
def BuilderPlacesUptoCardSaid : Prop := Claim7.holds Tryz.pinned (.plain (OpenSpec.upto builderPlacesSpec)) builderPlacesUptoCard
end Rows
end Go.Proofs.YtefjamneieebhaaGreatDoor
