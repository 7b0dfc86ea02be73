/-
  DERIVED. GIVEN WITH THE SEED: THE CARDS: each row of YtejpjabbdkpmiaaDoorRows.lean that lists a variable, with what it lists TIED to the program's text (the seventh form; the later family's looks); each row that meets fmt, with fmt's text TOLD by the authors' own Lean function (tested against real Go, not proved from fmt's source: count such statements apart). THE CARD IS WHAT COUNTS. Prove the row's statement (the work); the ties are given (YtejpjabbdkpmiaaDoorTie.lean); close each card by the builder's one call (the guide's Derived/Test/ToyasCard.lean, 'card_holds'). Laid BY PROGRAM, IN A SANDBOX (cutbox-door.mjs). By AI agents, Wed Nov 11 2026. No macro, syntax, notation, axiom, sorry.
-/
import Derived.Test.YtejpjabbdkpmiaaDoorRows
import GoSem.ClaimSeven
namespace Go.Proofs.YtejpjabbdkpmiaaDoor
namespace Rows

/-- THE TIED CARD OF 'thicketlaw06.StackScopes'. -/
def stackScopesCard : Claim7 := { stood := { row := stackScopesRow, standIns := [], harness := (true, "4c8546e956b90a611382336efba55048e081cb7566463887c73fa48f253d6fd8"), looks := false }, kinds := [], alts := [], laidByText := true, laidKinds := [.listed, .data], laidTests := true, laidLooks := .later }
def StackScopesCardSaid : Prop := Claim7.holds Tryd.pinned (.plain (OpenSpec.ofChange stackScopesSpec)) stackScopesCard

/-- THE TIED CARD OF 'thicketlaw06.StackClears'. -/
def stackClearsCard : Claim7 := { stood := { row := stackClearsRow, standIns := [], harness := (true, "4c8546e956b90a611382336efba55048e081cb7566463887c73fa48f253d6fd8"), looks := false }, kinds := [], alts := [], laidByText := true, laidKinds := [.listed, .data], laidTests := true, laidLooks := .later }
def StackClearsCardSaid : Prop := Claim7.holds Tryd.pinned (.plain (OpenSpec.ofChange stackClearsSpec)) stackClearsCard

/-- THE TIED CARD OF 'thicketlaw06.StackNests'. -/
def stackNestsCard : Claim7 := { stood := { row := stackNestsRow, standIns := [], harness := (true, "4c8546e956b90a611382336efba55048e081cb7566463887c73fa48f253d6fd8"), looks := false }, kinds := [], alts := [], laidByText := true, laidKinds := [.listed, .data], laidTests := true, laidLooks := .later }
def StackNestsCardSaid : Prop := Claim7.holds Tryd.pinned (.plain (OpenSpec.ofChange stackNestsSpec)) stackNestsCard

/-- THE TIED CARD OF 'thicketlaw06.StackSpecials'. -/
def stackSpecialsCard : Claim7 := { stood := { row := stackSpecialsRow, standIns := [], harness := (true, "4c8546e956b90a611382336efba55048e081cb7566463887c73fa48f253d6fd8"), looks := false }, kinds := [], alts := [], laidByText := true, laidKinds := [.listed, .data], laidTests := true, laidLooks := .later }
def StackSpecialsCardSaid : Prop := Claim7.holds Tryd.pinned (.plain (OpenSpec.ofChange stackSpecialsSpec)) stackSpecialsCard

/-- THE TIED CARD OF 'thicketlaw06.StackReads'. -/
def stackReadsCard : Claim7 := { stood := { row := stackReadsRow, standIns := [], harness := (true, "4c8546e956b90a611382336efba55048e081cb7566463887c73fa48f253d6fd8"), looks := false }, kinds := [], alts := [], laidByText := true, laidKinds := [.listed, .data], laidTests := true, laidLooks := .later }
def StackReadsCardSaid : Prop := Claim7.holds Tryd.pinned (.plain (OpenSpec.ofChange stackReadsSpec)) stackReadsCard

/-- THE TIED CARD OF 'thicketlaw06.StackBreaks'. -/
def stackBreaksCard : Claim7 := { stood := { row := stackBreaksRow, standIns := [], harness := (true, "4c8546e956b90a611382336efba55048e081cb7566463887c73fa48f253d6fd8"), looks := false }, kinds := [], alts := [], laidByText := true, laidKinds := [.listed, .data], laidTests := true, laidLooks := .later }
def StackBreaksCardSaid : Prop := Claim7.holds Tryd.pinned (.plain (OpenSpec.ofChange stackBreaksSpec)) stackBreaksCard

/-- THE TIED CARD OF 'thicketlaw06.StackNames'. -/
def stackNamesCard : Claim7 := { stood := { row := stackNamesRow, standIns := [], harness := (true, "4c8546e956b90a611382336efba55048e081cb7566463887c73fa48f253d6fd8"), looks := false }, kinds := [], alts := [], laidByText := true, laidKinds := [.listed, .data], laidTests := true, laidLooks := .later }
def StackNamesCardSaid : Prop := Claim7.holds Tryd.pinned (.plain (OpenSpec.ofChange stackNamesSpec)) stackNamesCard

/-- THE TIED CARD OF 'thicketlaw06.StackApart'. -/
def stackApartCard : Claim7 := { stood := { row := stackApartRow, standIns := [], harness := (true, "4c8546e956b90a611382336efba55048e081cb7566463887c73fa48f253d6fd8"), looks := false }, kinds := [], alts := [], laidByText := true, laidKinds := [.listed, .data], laidTests := true, laidLooks := .later }
def StackApartCardSaid : Prop := Claim7.holds Tryd.pinned (.plain (OpenSpec.ofChange stackApartSpec)) stackApartCard

/-- THE TIED CARD OF 'thicketlaw06.StackUndoes'. -/
def stackUndoesCard : Claim7 := { stood := { row := stackUndoesRow, standIns := [], harness := (true, "4c8546e956b90a611382336efba55048e081cb7566463887c73fa48f253d6fd8"), looks := false }, kinds := [], alts := [], laidByText := true, laidKinds := [.listed, .data], laidTests := true, laidLooks := .later }
def StackUndoesCardSaid : Prop := Claim7.holds Tryd.pinned (.plain (OpenSpec.ofChange stackUndoesSpec)) stackUndoesCard

/-- THE TIED CARD OF 'thicketlaw06.StackOwn'. -/
def stackOwnCard : Claim7 := { stood := { row := stackOwnRow, standIns := [], harness := (true, "4c8546e956b90a611382336efba55048e081cb7566463887c73fa48f253d6fd8"), looks := false }, kinds := [], alts := [], laidByText := true, laidKinds := [.listed, .data], laidTests := true, laidLooks := .later }
def StackOwnCardSaid : Prop := Claim7.holds Tryd.pinned (.plain (OpenSpec.ofChange stackOwnSpec)) stackOwnCard

/-- THE TIED CARD OF 'thicketlaw06.StackQuirks'. -/
def stackQuirksCard : Claim7 := { stood := { row := stackQuirksRow, standIns := [], harness := (true, "4c8546e956b90a611382336efba55048e081cb7566463887c73fa48f253d6fd8"), looks := false }, kinds := [], alts := [], laidByText := true, laidKinds := [.listed, .data], laidTests := true, laidLooks := .later }
def StackQuirksCardSaid : Prop := Claim7.holds Tryd.pinned (.plain (OpenSpec.ofChange stackQuirksSpec)) stackQuirksCard

/-- THE TIED CARD OF 'thicketlaw06.StackLists'. -/
def stackListsCard : Claim7 := { stood := { row := stackListsRow, standIns := [], harness := (true, "4c8546e956b90a611382336efba55048e081cb7566463887c73fa48f253d6fd8"), looks := false }, kinds := [], alts := [], laidByText := true, laidKinds := [.listed, .data], laidTests := true, laidLooks := .later }
def StackListsCardSaid : Prop := Claim7.holds Tryd.pinned (.plain (OpenSpec.ofChange stackListsSpec)) stackListsCard

/-- THE TIED CARD OF 'thicketlaw06.StackThree'. -/
def stackThreeCard : Claim7 := { stood := { row := stackThreeRow, standIns := [], harness := (true, "4c8546e956b90a611382336efba55048e081cb7566463887c73fa48f253d6fd8"), looks := false }, kinds := [], alts := [], laidByText := true, laidKinds := [.listed, .data], laidTests := true, laidLooks := .later }
def StackThreeCardSaid : Prop := Claim7.holds Tryd.pinned (.plain (OpenSpec.ofChange stackThreeSpec)) stackThreeCard

/-- THE TIED CARD OF 'thicketlaw06.StackAdjusts'. -/
def stackAdjustsCard : Claim7 := { stood := { row := stackAdjustsRow, standIns := [], harness := (true, "4c8546e956b90a611382336efba55048e081cb7566463887c73fa48f253d6fd8"), looks := false }, kinds := [], alts := [], laidByText := true, laidKinds := [.listed, .data], laidTests := true, laidLooks := .later }
def StackAdjustsCardSaid : Prop := Claim7.holds Tryd.pinned (.plain (OpenSpec.ofChange stackAdjustsSpec)) stackAdjustsCard

/-- THE TIED CARD OF 'thicketlaw06.StackValues'. -/
def stackValuesCard : Claim7 := { stood := { row := stackValuesRow, standIns := [], harness := (true, "4c8546e956b90a611382336efba55048e081cb7566463887c73fa48f253d6fd8"), looks := false }, kinds := [], alts := [], laidByText := true, laidKinds := [.listed, .data], laidTests := true, laidLooks := .later }
def StackValuesCardSaid : Prop := Claim7.holds Tryd.pinned (.plain (OpenSpec.ofChange stackValuesSpec)) stackValuesCard

/-- THE TIED CARD OF 'thicketlaw06.StackPlays'. -/
def stackPlaysCard : Claim7 := { stood := { row := stackPlaysRow, standIns := [], harness := (true, "4c8546e956b90a611382336efba55048e081cb7566463887c73fa48f253d6fd8"), looks := false }, kinds := [], alts := [], laidByText := true, laidKinds := [.listed, .data], laidTests := true, laidLooks := .later }
def StackPlaysCardSaid : Prop := Claim7.holds Tryd.pinned (.plain (OpenSpec.ofChange stackPlaysSpec)) stackPlaysCard

/-- THE TIED CARD OF 'thicketlaw06.StackFirst'. -/
def stackFirstCard : Claim7 := { stood := { row := stackFirstRow, standIns := [], harness := (true, "4c8546e956b90a611382336efba55048e081cb7566463887c73fa48f253d6fd8"), looks := false }, kinds := [], alts := [], laidByText := true, laidKinds := [.listed, .data], laidTests := true, laidLooks := .later }
def StackFirstCardSaid : Prop := Claim7.holds Tryd.pinned (.plain (OpenSpec.ofChange stackFirstSpec)) stackFirstCard

/-- THE TIED CARD OF 'thicketlaw06.StackNil'. -/
def stackNilCard : Claim7 := { stood := { row := stackNilRow, standIns := [], harness := (true, "4c8546e956b90a611382336efba55048e081cb7566463887c73fa48f253d6fd8"), looks := false }, kinds := [], alts := [], laidByText := true, laidKinds := [.listed, .data], laidTests := true, laidLooks := .later }
def StackNilCardSaid : Prop := Claim7.holds Tryd.pinned (.plain (OpenSpec.ofChange stackNilSpec)) stackNilCard

/-- THE SECOND FORM's CARD OF 'thicketlaw06.StackScopes'. -/
def stackScopesUptoCard : Claim7 := { stood := { row := stackScopesUptoRow, standIns := [], harness := (true, "4c8546e956b90a611382336efba55048e081cb7566463887c73fa48f253d6fd8"), looks := false }, kinds := [], alts := [], laidByText := true, laidKinds := [.listed, .data], laidTests := true, laidLooks := .later }
def StackScopesUptoCardSaid : Prop := Claim7.holds Tryd.pinned (.plain (OpenSpec.upto stackScopesSpec)) stackScopesUptoCard

/-- THE SECOND FORM's CARD OF 'thicketlaw06.StackClears'. -/
def stackClearsUptoCard : Claim7 := { stood := { row := stackClearsUptoRow, standIns := [], harness := (true, "4c8546e956b90a611382336efba55048e081cb7566463887c73fa48f253d6fd8"), looks := false }, kinds := [], alts := [], laidByText := true, laidKinds := [.listed, .data], laidTests := true, laidLooks := .later }
def StackClearsUptoCardSaid : Prop := Claim7.holds Tryd.pinned (.plain (OpenSpec.upto stackClearsSpec)) stackClearsUptoCard

/-- THE SECOND FORM's CARD OF 'thicketlaw06.StackNests'. -/
def stackNestsUptoCard : Claim7 := { stood := { row := stackNestsUptoRow, standIns := [], harness := (true, "4c8546e956b90a611382336efba55048e081cb7566463887c73fa48f253d6fd8"), looks := false }, kinds := [], alts := [], laidByText := true, laidKinds := [.listed, .data], laidTests := true, laidLooks := .later }
def StackNestsUptoCardSaid : Prop := Claim7.holds Tryd.pinned (.plain (OpenSpec.upto stackNestsSpec)) stackNestsUptoCard

/-- THE SECOND FORM's CARD OF 'thicketlaw06.StackSpecials'. -/
def stackSpecialsUptoCard : Claim7 := { stood := { row := stackSpecialsUptoRow, standIns := [], harness := (true, "4c8546e956b90a611382336efba55048e081cb7566463887c73fa48f253d6fd8"), looks := false }, kinds := [], alts := [], laidByText := true, laidKinds := [.listed, .data], laidTests := true, laidLooks := .later }
def StackSpecialsUptoCardSaid : Prop := Claim7.holds Tryd.pinned (.plain (OpenSpec.upto stackSpecialsSpec)) stackSpecialsUptoCard

/-- THE SECOND FORM's CARD OF 'thicketlaw06.StackReads'. -/
def stackReadsUptoCard : Claim7 := { stood := { row := stackReadsUptoRow, standIns := [], harness := (true, "4c8546e956b90a611382336efba55048e081cb7566463887c73fa48f253d6fd8"), looks := false }, kinds := [], alts := [], laidByText := true, laidKinds := [.listed, .data], laidTests := true, laidLooks := .later }
def StackReadsUptoCardSaid : Prop := Claim7.holds Tryd.pinned (.plain (OpenSpec.upto stackReadsSpec)) stackReadsUptoCard

/-- THE SECOND FORM's CARD OF 'thicketlaw06.StackBreaks'. -/
def stackBreaksUptoCard : Claim7 := { stood := { row := stackBreaksUptoRow, standIns := [], harness := (true, "4c8546e956b90a611382336efba55048e081cb7566463887c73fa48f253d6fd8"), looks := false }, kinds := [], alts := [], laidByText := true, laidKinds := [.listed, .data], laidTests := true, laidLooks := .later }
def StackBreaksUptoCardSaid : Prop := Claim7.holds Tryd.pinned (.plain (OpenSpec.upto stackBreaksSpec)) stackBreaksUptoCard

/-- THE SECOND FORM's CARD OF 'thicketlaw06.StackNames'. -/
def stackNamesUptoCard : Claim7 := { stood := { row := stackNamesUptoRow, standIns := [], harness := (true, "4c8546e956b90a611382336efba55048e081cb7566463887c73fa48f253d6fd8"), looks := false }, kinds := [], alts := [], laidByText := true, laidKinds := [.listed, .data], laidTests := true, laidLooks := .later }
def StackNamesUptoCardSaid : Prop := Claim7.holds Tryd.pinned (.plain (OpenSpec.upto stackNamesSpec)) stackNamesUptoCard

/-- THE SECOND FORM's CARD OF 'thicketlaw06.StackApart'. -/
def stackApartUptoCard : Claim7 := { stood := { row := stackApartUptoRow, standIns := [], harness := (true, "4c8546e956b90a611382336efba55048e081cb7566463887c73fa48f253d6fd8"), looks := false }, kinds := [], alts := [], laidByText := true, laidKinds := [.listed, .data], laidTests := true, laidLooks := .later }
def StackApartUptoCardSaid : Prop := Claim7.holds Tryd.pinned (.plain (OpenSpec.upto stackApartSpec)) stackApartUptoCard

/-- THE SECOND FORM's CARD OF 'thicketlaw06.StackUndoes'. -/
def stackUndoesUptoCard : Claim7 := { stood := { row := stackUndoesUptoRow, standIns := [], harness := (true, "4c8546e956b90a611382336efba55048e081cb7566463887c73fa48f253d6fd8"), looks := false }, kinds := [], alts := [], laidByText := true, laidKinds := [.listed, .data], laidTests := true, laidLooks := .later }
def StackUndoesUptoCardSaid : Prop := Claim7.holds Tryd.pinned (.plain (OpenSpec.upto stackUndoesSpec)) stackUndoesUptoCard

/-- THE SECOND FORM's CARD OF 'thicketlaw06.StackOwn'. -/
def stackOwnUptoCard : Claim7 := { stood := { row := stackOwnUptoRow, standIns := [], harness := (true, "4c8546e956b90a611382336efba55048e081cb7566463887c73fa48f253d6fd8"), looks := false }, kinds := [], alts := [], laidByText := true, laidKinds := [.listed, .data], laidTests := true, laidLooks := .later }
def StackOwnUptoCardSaid : Prop := Claim7.holds Tryd.pinned (.plain (OpenSpec.upto stackOwnSpec)) stackOwnUptoCard

/-- THE SECOND FORM's CARD OF 'thicketlaw06.StackQuirks'. -/
def stackQuirksUptoCard : Claim7 := { stood := { row := stackQuirksUptoRow, standIns := [], harness := (true, "4c8546e956b90a611382336efba55048e081cb7566463887c73fa48f253d6fd8"), looks := false }, kinds := [], alts := [], laidByText := true, laidKinds := [.listed, .data], laidTests := true, laidLooks := .later }
def StackQuirksUptoCardSaid : Prop := Claim7.holds Tryd.pinned (.plain (OpenSpec.upto stackQuirksSpec)) stackQuirksUptoCard

/-- THE SECOND FORM's CARD OF 'thicketlaw06.StackLists'. -/
def stackListsUptoCard : Claim7 := { stood := { row := stackListsUptoRow, standIns := [], harness := (true, "4c8546e956b90a611382336efba55048e081cb7566463887c73fa48f253d6fd8"), looks := false }, kinds := [], alts := [], laidByText := true, laidKinds := [.listed, .data], laidTests := true, laidLooks := .later }
def StackListsUptoCardSaid : Prop := Claim7.holds Tryd.pinned (.plain (OpenSpec.upto stackListsSpec)) stackListsUptoCard

/-- THE SECOND FORM's CARD OF 'thicketlaw06.StackThree'. -/
def stackThreeUptoCard : Claim7 := { stood := { row := stackThreeUptoRow, standIns := [], harness := (true, "4c8546e956b90a611382336efba55048e081cb7566463887c73fa48f253d6fd8"), looks := false }, kinds := [], alts := [], laidByText := true, laidKinds := [.listed, .data], laidTests := true, laidLooks := .later }
def StackThreeUptoCardSaid : Prop := Claim7.holds Tryd.pinned (.plain (OpenSpec.upto stackThreeSpec)) stackThreeUptoCard

/-- THE SECOND FORM's CARD OF 'thicketlaw06.StackAdjusts'. -/
def stackAdjustsUptoCard : Claim7 := { stood := { row := stackAdjustsUptoRow, standIns := [], harness := (true, "4c8546e956b90a611382336efba55048e081cb7566463887c73fa48f253d6fd8"), looks := false }, kinds := [], alts := [], laidByText := true, laidKinds := [.listed, .data], laidTests := true, laidLooks := .later }
def StackAdjustsUptoCardSaid : Prop := Claim7.holds Tryd.pinned (.plain (OpenSpec.upto stackAdjustsSpec)) stackAdjustsUptoCard

/-- THE SECOND FORM's CARD OF 'thicketlaw06.StackValues'. -/
def stackValuesUptoCard : Claim7 := { stood := { row := stackValuesUptoRow, standIns := [], harness := (true, "4c8546e956b90a611382336efba55048e081cb7566463887c73fa48f253d6fd8"), looks := false }, kinds := [], alts := [], laidByText := true, laidKinds := [.listed, .data], laidTests := true, laidLooks := .later }
def StackValuesUptoCardSaid : Prop := Claim7.holds Tryd.pinned (.plain (OpenSpec.upto stackValuesSpec)) stackValuesUptoCard

/-- THE SECOND FORM's CARD OF 'thicketlaw06.StackPlays'. -/
def stackPlaysUptoCard : Claim7 := { stood := { row := stackPlaysUptoRow, standIns := [], harness := (true, "4c8546e956b90a611382336efba55048e081cb7566463887c73fa48f253d6fd8"), looks := false }, kinds := [], alts := [], laidByText := true, laidKinds := [.listed, .data], laidTests := true, laidLooks := .later }
def StackPlaysUptoCardSaid : Prop := Claim7.holds Tryd.pinned (.plain (OpenSpec.upto stackPlaysSpec)) stackPlaysUptoCard

/-- THE SECOND FORM's CARD OF 'thicketlaw06.StackFirst'. -/
def stackFirstUptoCard : Claim7 := { stood := { row := stackFirstUptoRow, standIns := [], harness := (true, "4c8546e956b90a611382336efba55048e081cb7566463887c73fa48f253d6fd8"), looks := false }, kinds := [], alts := [], laidByText := true, laidKinds := [.listed, .data], laidTests := true, laidLooks := .later }
def StackFirstUptoCardSaid : Prop := Claim7.holds Tryd.pinned (.plain (OpenSpec.upto stackFirstSpec)) stackFirstUptoCard

/-- THE SECOND FORM's CARD OF 'thicketlaw06.StackNil'. -/
def stackNilUptoCard : Claim7 := { stood := { row := stackNilUptoRow, standIns := [], harness := (true, "4c8546e956b90a611382336efba55048e081cb7566463887c73fa48f253d6fd8"), looks := false }, kinds := [], alts := [], laidByText := true, laidKinds := [.listed, .data], laidTests := true, laidLooks := .later }
def StackNilUptoCardSaid : Prop := Claim7.holds Tryd.pinned (.plain (OpenSpec.upto stackNilSpec)) stackNilUptoCard
end Rows
end Go.Proofs.YtejpjabbdkpmiaaDoor
