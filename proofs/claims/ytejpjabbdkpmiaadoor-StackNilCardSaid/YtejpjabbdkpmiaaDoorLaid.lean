/-
  What a row's list of variables gives, and a world for the witness: the variables that the rows list hold what their initialisers lay. No law is claimed here.
-/
import Derived.Test.YtejpjabbdkpmiaaDoorAm30
import Derived.Test.YtejpjabbdkpmiaaDoorCtx
import Derived.Test.YtejpjabbdkpmiaaDoorCards
import Derived.Test.YtejpjabbdkpmiaaDoorTie
import Derived.WalkKit
import Derived.ProofKit
import Derived.OpenShut
import Derived.Deep.DeepHandedRow
import Derived.Deep.DeepWitnessRowRef
import Derived.Lib.LaidTab
import Derived.Lib.LaidU8
set_option linter.unusedSimpArgs false
set_option linter.unusedVariables false
namespace Go.Proofs.YtejpjabbdkpmiaaDoor.Laid
open Go Go.ChangeShapes Go.WideShapes Go.ChangeAt Go.RowKit Go.Am

theorem own : ownKnob Tryd.prog.godebug = none := by kernel_rfl
theorem laidOut : laidOutB Tryd.prog = true := by kernel_rfl
theorem mixed : Tryd.prog.follows .mixedOrders = true := by kernel_rfl
theorem gTab : Tryd.prog.globalNamed "strings.asciiSpace" = some 0 := by kernel_rfl
theorem gTabType : (Tryd.prog.globals[0]?).map (·.type) = some 162 := by kernel_rfl
theorem cells162 : Tryd.prog.cellsOf 162 = 256 := by kernel_rfl
theorem cells5 : Tryd.prog.cellsOf 5 = 1 := by kernel_rfl

abbrev laid : List (String × DataW Unit) := [("unicode.White_Space", Rows.laid_unicode_White_Space), ("strings.asciiSpace", Rows.laid_strings_asciiSpace)]

theorem space_data : (Rows.laid_strings_asciiSpace : DataW Unit) = Lib.tabData .u8 spaceTab := by kernel_rfl

theorem glob_flat : ∀ g cs, cx.glob g = some cs → cs.all AVal.flat = true := by
  intro g cs h
  change hGlob g = some cs at h
  unfold hGlob at h
  split at h
  · cases h; decide +kernel
  · cases h

theorem glob_ok {W : World} (h : laidMetH Tryd.prog laid W) : ∀ g cs, cx.glob g = some cs → VRelM (memGh W) cs g 0 := by
  intro g cs hg
  change hGlob g = some cs at hg
  unfold hGlob at hg
  split at hg
  · cases hg
    obtain ⟨g, t, cs, fuel, p, h1, h2, h3, h4⟩ := Lib.laidMet.reads (n := "strings.asciiSpace") (d := Rows.laid_strings_asciiSpace) h (.tail _ (.head _))
    obtain rfl := Option.some.inj (gTab.symm.trans h1)
    obtain rfl := Option.some.inj (gTabType.symm.trans h2)
    have hc := Lib.cells_of_tab (zs := spaceTab) Tryd.underlying162 Tryd.underlying5 cells5 cells162 (space_data ▸ h4)
    refine VRelM.of_get fun j y hj => ?_
    have hcell := World.var?_cell h1 h3 j
    rw [← Array.getElem?_toList, hc] at hcell
    unfold spaceCells at hj
    rw [List.getElem?_map] at hj hcell
    cases hz : spaceTab[j]? with
    | none => rw [hz] at hj; cases hj
    | some z =>
      rw [hz] at hj hcell
      cases hj
      refine ⟨.int .u8 z, ?_, rfl⟩
      show (W.cell? ⟨0, 0 + j, none⟩).filter (·.oneCell') = _
      rw [Nat.zero_add, hcell]
      rfl
  · cases hg

/-- A WORLD FOR THE WITNESS: the settled one with two blocks more (the ranges and the table of unicode.White_Space), the variables holding what their initialisers lay. -/
noncomputable def laidWorld (os : Os) : World :=
  let N := (World.settled Tryd.prog os).heap.size
  let w0 := World.holding Tryd.prog os ⟨#[
    .cells #[.int .u16 9, .int .u16 13, .int .u16 1, .int .u16 32, .int .u16 133, .int .u16 101, .int .u16 160, .int .u16 5760, .int .u16 5600, .int .u16 8192, .int .u16 8202, .int .u16 1, .int .u16 8232, .int .u16 8233, .int .u16 1, .int .u16 8239, .int .u16 8287, .int .u16 48, .int .u16 12288, .int .u16 12288, .int .u16 1] 179,
    .cells #[.slice (some ⟨N, 0, none⟩) 7 7, .slice none 0 0, .int .i64 2] 176], #[], []⟩
  let put (h : Array Obj) (g : Nat) (cs : Array Value) : Array Obj := h.modify g fun
    | .cells _ t frozen => .cells cs t frozen
    | o => o
  let h1 := put w0.heap 0 (spaceTab.map fun z => Value.int .u8 z).toArray
  let h2 := put h1 1 #[.pointer (some ⟨N + 1, 0, none⟩)]
  { w0 with heap := h2 }

theorem laid_met (os : Os) (args : Array Value) : laidMet Tryd.prog laid ((laidWorld os).forCall (fun _ _ => 0) ⟨#[], args, []⟩).memory :=
  laidMet_of_run' 8 (by kernel_rfl) (by kernel_rfl)

theorem gA3 : mapsRowed Tryd.pinned.checked.prog = true := by kernel_rfl
theorem gA7 : (Tryd.pinned.checked.prog.stops == []) = true := by kernel_rfl
theorem gA9 : (Tryd.pinned.checked.prog.stopKnobs == []) = true := by kernel_rfl
theorem gE1 : (Rows.stackApartRow.plainKeys == Tryd.pinned.checked.prog.plainKeys) = true := by kernel_rfl
theorem gE3 : Tryd.pinned.checked.prog.stopsHeard = true := by kernel_rfl
theorem gE4 : Tryd.pinned.checked.prog.mayEnter = true := by kernel_rfl
theorem gE5 : (Rows.stackApartRow.lifted == Tryd.pinned.checked.prog.liftsFinal) = true := by kernel_rfl
theorem gE6 : (Tryd.pinned.checked.prog.make == some Rows.stackApartRow.make) = true := by kernel_rfl

/-- The kinds of integers that a row lists. -/
def kindsOk (P : Program) (fn : Func) (c : OpenClaim) : Bool := c.kinds == (if c.domain.isEmpty then [] else fn.params.toList.map fun t => match P.underlying t with | some (.int k) => some k | _ => none)

/-- The closed facts of a row, one by one: the kernel holds each alone. -/
theorem joined_parts {P : Program} {f : FuncId} {fn : Func} {s : ChangeSpec} {c : OpenClaim}
    (a1 : c.wf (OpenSpec.ofChange s) = true)
    (a2 : laidOutB P = true)
    (a3 : mapsRowed P = true)
    (a4 : fn.params.all (P.readableRec ·) = true)
    (a5 : namedTie P c.named s.vars = true)
    (a6 : (c.stops == []) = true)
    (a7 : (P.stops == []) = true)
    (a8 : (c.knobs == []) = true)
    (a9 : (P.stopKnobs == []) = true)
    (b1 : (c.inPlace == P.inPlace f) = true)
    (b2 : (c.unfollowed == P.unfollowed f) = true)
    (b3 : (c.recurses == P.recurses f) = true)
    (b4 : (c.named == P.varsNamed f) = true)
    (c1 : (c.maps == (fn.params.toList ++ s.plain.varTypes P).any (P.mapsRec ·)) = true)
    (c2 : (c.ifaces == (fn.params.toList ++ s.plain.varTypes P).any (P.ifacesRec ·)) = true)
    (c3 : (c.mapsOut == P.mapsAmong fn.resultTypes.toList) = true)
    (c4 : (c.loops == (fn.params.toList ++ s.plain.varTypes P).any (P.loopsFrom ·)) = true)
    (c5 : (c.wideKeys == (fn.params.toList ++ s.plain.varTypes P ++ fn.resultTypes.toList).any (P.wideKeysFrom ·)) = true)
    (d1 : s.vars.all (P.varReadable ·) = true)
    (d2 : fn.resultTypes.all (fun t => P.readableRec t && decide (t < P.types.size)) = true)
    (d3 : (c.ifacesOut == fn.resultTypes.toList.any (P.ifacesRec ·)) = true)
    (d4 : (c.loopsOut == fn.resultTypes.toList.any (P.loopsFrom ·)) = true)
    (e1 : (c.plainKeys == P.plainKeys) = true)
    (e2 : c.shortTexts.isNone = true)
    (e3 : P.stopsHeard = true)
    (e4 : P.mayEnter = true)
    (e5 : (c.lifted == P.liftsFinal) = true)
    (e6 : (P.make == some c.make) = true)
    (d5 : kindsOk P fn c = true)
    (d6 : (c.pinned == c.pinnedBy) = true)
    (f1 : (c.veiled == (fn.params.toList ++ s.plain.varTypes P ++ fn.resultTypes.toList).any (P.veiledRec ·)) = true)
    (f2 : c.veiledFits P fn.params.toList (fn.params.toList ++ s.plain.varTypes P ++ fn.resultTypes.toList) = true) : joinedFacts P f fn s c = true := by
  unfold joinedFacts
  simp only [Bool.and_eq_true]
  simp only [a1, a2, a3, a4, a5, a6, a7, a8, a9, b1, b2, b3, b4, c1, c2, c3, c4, c5, d1, d2, d3, d4, e1, e2, e3, e4, e5, e6, d6, f1, f2, and_self, and_true, true_and]
  exact d5
end Go.Proofs.YtejpjabbdkpmiaaDoor.Laid
