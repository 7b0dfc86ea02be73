/-
  DERIVED. GIVEN WITH THE SEED: THE CARDS: each row of YtbicpeplenomhaaGreatDoorRows.lean that lists a variable, with what it lists TIED to the program's text (the seventh form; the later family's looks); each row that meets fmt, with fmt's text TOLD by the authors' own Lean function (tested against real Go, not proved from fmt's source: count such statements apart). THE CARD IS WHAT COUNTS. Prove the row's statement (the work); the ties are given (YtbicpeplenomhaaGreatDoorTie.lean); close each card by the builder's one call (the guide's Derived/Test/ToyasCard.lean, 'card_holds'). Laid BY PROGRAM, IN A SANDBOX (cutbox-door.mjs). By AI agents, Wed Nov 11 2026. No macro, syntax, notation, axiom, sorry.
-/
import Derived.Test.YtbicpeplenomhaaGreatDoorRows
import GoSem.ClaimSeven
namespace Go.Proofs.YtbicpeplenomhaaGreatDoor
namespace Rows

/-- THE TIED CARD OF 'thicketlaw07.BuilderMerges'. -/
def builderMergesCard : Claim7 := { stood := { row := builderMergesRow, standIns := [], harness := (true, "4540025f571375b9c321df9021b9cb28dc67f6f58824be3103625b8844263875"), looks := true }, kinds := [], alts := [], laidByText := true, laidKinds := [.data, .data, .data, .listed, .data], laidTests := true, laidLooks := .later }
def BuilderMergesCardSaid : Prop := Claim7.holds Tryz.pinned (.plain (OpenSpec.ofChange builderMergesSpec)) builderMergesCard

/-- THE TIED CARD OF 'thicketlaw07.BuilderTemplates'. -/
def builderTemplatesCard : Claim7 := { stood := { row := builderTemplatesRow, standIns := [], harness := (true, "4540025f571375b9c321df9021b9cb28dc67f6f58824be3103625b8844263875"), looks := true }, kinds := [], alts := [], laidByText := true, laidKinds := [.data, .data, .data, .listed, .data], laidTests := true, laidLooks := .later }
def BuilderTemplatesCardSaid : Prop := Claim7.holds Tryz.pinned (.plain (OpenSpec.ofChange builderTemplatesSpec)) builderTemplatesCard

/-- THE TIED CARD OF 'thicketlaw07.BuilderBounds'. -/
def builderBoundsCard : Claim7 := { stood := { row := builderBoundsRow, standIns := [], harness := (true, "4540025f571375b9c321df9021b9cb28dc67f6f58824be3103625b8844263875"), looks := true }, kinds := [], alts := [], laidByText := true, laidKinds := [.data, .data, .data, .listed, .data], laidTests := true, laidLooks := .later }
def BuilderBoundsCardSaid : Prop := Claim7.holds Tryz.pinned (.plain (OpenSpec.ofChange builderBoundsSpec)) builderBoundsCard

/-- THE TIED CARD OF 'thicketlaw07.BuilderCloses'. -/
def builderClosesCard : Claim7 := { stood := { row := builderClosesRow, standIns := [], harness := (true, "4540025f571375b9c321df9021b9cb28dc67f6f58824be3103625b8844263875"), looks := true }, kinds := [], alts := [], laidByText := true, laidKinds := [.data, .data, .data, .listed, .data], laidTests := true, laidLooks := .later }
def BuilderClosesCardSaid : Prop := Claim7.holds Tryz.pinned (.plain (OpenSpec.ofChange builderClosesSpec)) builderClosesCard

/-- THE TIED CARD OF 'thicketlaw07.BuilderFosters'. -/
def builderFostersCard : Claim7 := { stood := { row := builderFostersRow, standIns := [], harness := (true, "4540025f571375b9c321df9021b9cb28dc67f6f58824be3103625b8844263875"), looks := true }, kinds := [], alts := [], laidByText := true, laidKinds := [.data, .data, .data, .listed, .data], laidTests := true, laidLooks := .later }
def BuilderFostersCardSaid : Prop := Claim7.holds Tryz.pinned (.plain (OpenSpec.ofChange builderFostersSpec)) builderFostersCard

/-- THE TIED CARD OF 'thicketlaw07.BuilderRebuilds'. -/
def builderRebuildsCard : Claim7 := { stood := { row := builderRebuildsRow, standIns := [], harness := (true, "4540025f571375b9c321df9021b9cb28dc67f6f58824be3103625b8844263875"), looks := true }, kinds := [], alts := [], laidByText := true, laidKinds := [.data, .data, .data, .listed, .data], laidTests := true, laidLooks := .later }
def BuilderRebuildsCardSaid : Prop := Claim7.holds Tryz.pinned (.plain (OpenSpec.ofChange builderRebuildsSpec)) builderRebuildsCard

/-- THE TIED CARD OF 'thicketlaw07.BuilderTexts'. -/
def builderTextsCard : Claim7 := { stood := { row := builderTextsRow, standIns := [], harness := (true, "4540025f571375b9c321df9021b9cb28dc67f6f58824be3103625b8844263875"), looks := true }, kinds := [], alts := [], laidByText := true, laidKinds := [.data, .data, .data, .listed, .data], laidTests := true, laidLooks := .later }
def BuilderTextsCardSaid : Prop := Claim7.holds Tryz.pinned (.plain (OpenSpec.ofChange builderTextsSpec)) builderTextsCard

/-- THE TIED CARD OF 'thicketlaw07.BuilderSound'. -/
def builderSoundCard : Claim7 := { stood := { row := builderSoundRow, standIns := [], harness := (true, "4540025f571375b9c321df9021b9cb28dc67f6f58824be3103625b8844263875"), looks := true }, kinds := [], alts := [], laidByText := true, laidKinds := [.data, .data, .data, .listed, .data], laidTests := true, laidLooks := .later }
def BuilderSoundCardSaid : Prop := Claim7.holds Tryz.pinned (.plain (OpenSpec.ofChange builderSoundSpec)) builderSoundCard

/-- THE SECOND FORM's CARD OF 'thicketlaw07.BuilderMerges'. -/
def builderMergesUptoCard : Claim7 := { stood := { row := builderMergesUptoRow, standIns := [], harness := (true, "4540025f571375b9c321df9021b9cb28dc67f6f58824be3103625b8844263875"), looks := true }, kinds := [], alts := [], laidByText := true, laidKinds := [.data, .data, .data, .listed, .data], laidTests := true, laidLooks := .later }
def BuilderMergesUptoCardSaid : Prop := Claim7.holds Tryz.pinned (.plain (OpenSpec.upto builderMergesSpec)) builderMergesUptoCard

/-- THE SECOND FORM's CARD OF 'thicketlaw07.BuilderTemplates'. -/
def builderTemplatesUptoCard : Claim7 := { stood := { row := builderTemplatesUptoRow, standIns := [], harness := (true, "4540025f571375b9c321df9021b9cb28dc67f6f58824be3103625b8844263875"), looks := true }, kinds := [], alts := [], laidByText := true, laidKinds := [.data, .data, .data, .listed, .data], laidTests := true, laidLooks := .later }
def BuilderTemplatesUptoCardSaid : Prop := Claim7.holds Tryz.pinned (.plain (OpenSpec.upto builderTemplatesSpec)) builderTemplatesUptoCard

/-- THE SECOND FORM's CARD OF 'thicketlaw07.BuilderBounds'. -/
def builderBoundsUptoCard : Claim7 := { stood := { row := builderBoundsUptoRow, standIns := [], harness := (true, "4540025f571375b9c321df9021b9cb28dc67f6f58824be3103625b8844263875"), looks := true }, kinds := [], alts := [], laidByText := true, laidKinds := [.data, .data, .data, .listed, .data], laidTests := true, laidLooks := .later }
def BuilderBoundsUptoCardSaid : Prop := Claim7.holds Tryz.pinned (.plain (OpenSpec.upto builderBoundsSpec)) builderBoundsUptoCard

/-- THE SECOND FORM's CARD OF 'thicketlaw07.BuilderCloses'. -/
def builderClosesUptoCard : Claim7 := { stood := { row := builderClosesUptoRow, standIns := [], harness := (true, "4540025f571375b9c321df9021b9cb28dc67f6f58824be3103625b8844263875"), looks := true }, kinds := [], alts := [], laidByText := true, laidKinds := [.data, .data, .data, .listed, .data], laidTests := true, laidLooks := .later }
def BuilderClosesUptoCardSaid : Prop := Claim7.holds Tryz.pinned (.plain (OpenSpec.upto builderClosesSpec)) builderClosesUptoCard

/-- THE SECOND FORM's CARD OF 'thicketlaw07.BuilderFosters'. -/
def builderFostersUptoCard : Claim7 := { stood := { row := builderFostersUptoRow, standIns := [], harness := (true, "4540025f571375b9c321df9021b9cb28dc67f6f58824be3103625b8844263875"), looks := true }, kinds := [], alts := [], laidByText := true, laidKinds := [.data, .data, .data, .listed, .data], laidTests := true, laidLooks := .later }
def BuilderFostersUptoCardSaid : Prop := Claim7.holds Tryz.pinned (.plain (OpenSpec.upto builderFostersSpec)) builderFostersUptoCard

/-- THE SECOND FORM's CARD OF 'thicketlaw07.BuilderRebuilds'. -/
def builderRebuildsUptoCard : Claim7 := { stood := { row := builderRebuildsUptoRow, standIns := [], harness := (true, "4540025f571375b9c321df9021b9cb28dc67f6f58824be3103625b8844263875"), looks := true }, kinds := [], alts := [], laidByText := true, laidKinds := [.data, .data, .data, .listed, .data], laidTests := true, laidLooks := .later }
def BuilderRebuildsUptoCardSaid : Prop := Claim7.holds Tryz.pinned (.plain (OpenSpec.upto builderRebuildsSpec)) builderRebuildsUptoCard

/-- THE SECOND FORM's CARD OF 'thicketlaw07.BuilderTexts'. -/
def builderTextsUptoCard : Claim7 := { stood := { row := builderTextsUptoRow, standIns := [], harness := (true, "4540025f571375b9c321df9021b9cb28dc67f6f58824be3103625b8844263875"), looks := true }, kinds := [], alts := [], laidByText := true, laidKinds := [.data, .data, .data, .listed, .data], laidTests := true, laidLooks := .later }
def BuilderTextsUptoCardSaid : Prop := Claim7.holds Tryz.pinned (.plain (OpenSpec.upto builderTextsSpec)) builderTextsUptoCard

/-- THE SECOND FORM's CARD OF 'thicketlaw07.BuilderSound'. -/
def builderSoundUptoCard : Claim7 := { stood := { row := builderSoundUptoRow, standIns := [], harness := (true, "4540025f571375b9c321df9021b9cb28dc67f6f58824be3103625b8844263875"), looks := true }, kinds := [], alts := [], laidByText := true, laidKinds := [.data, .data, .data, .listed, .data], laidTests := true, laidLooks := .later }
def BuilderSoundUptoCardSaid : Prop := Claim7.holds Tryz.pinned (.plain (OpenSpec.upto builderSoundSpec)) builderSoundUptoCard
end Rows
end Go.Proofs.YtbicpeplenomhaaGreatDoor
