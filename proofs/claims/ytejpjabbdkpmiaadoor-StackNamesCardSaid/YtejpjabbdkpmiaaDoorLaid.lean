/-
  What a row's list of variables gives, and a world for the witness: the variables that the rows list hold what their initialisers lay. No law is claimed here.
-/
import Derived.Test.YtejpjabbdkpmiaaDoorAm30
import Derived.Test.YtejpjabbdkpmiaaDoorCtx
import Derived.Test.YtejpjabbdkpmiaaDoorCards
import Derived.Test.YtejpjabbdkpmiaaDoorTie
import Derived.WalkKit
import Derived.ProofKit
import Derived.OpenShut
import Derived.Deep.DeepHandedRow
import Derived.Deep.DeepWitnessRowRef
import Derived.Lib.LaidTab
import Derived.Lib.LaidU8
namespace Go.Proofs.YtejpjabbdkpmiaaDoor.Laid
open Go Go.ChangeShapes Go.WideShapes Go.ChangeAt Go.RowKit Go.Am

theorem own : ownKnob Tryd.prog.godebug = none := by kernel_rfl
theorem laidOut : laidOutB Tryd.prog = true := by kernel_rfl
theorem mixed : Tryd.prog.follows .mixedOrders = true := by kernel_rfl
theorem gTab : Tryd.prog.globalNamed "strings.asciiSpace" = some 0 := by kernel_rfl
theorem gTabType : (Tryd.prog.globals[0]?).map (·.type) = some 162 := by kernel_rfl
theorem cells162 : Tryd.prog.cellsOf 162 = 256 := by kernel_rfl
theorem cells5 : Tryd.prog.cellsOf 5 = 1 := by kernel_rfl

abbrev laid : List (String × DataW Unit) := [("unicode.White_Space", Rows.laid_unicode_White_Space), ("strings.asciiSpace", Rows.laid_strings_asciiSpace)]

theorem space_data : (Rows.laid_strings_asciiSpace : DataW Unit) = Lib.tabData .u8 spaceTab := by kernel_rfl

theorem glob_flat : ∀ g cs, cx.glob g = some cs → cs.all AVal.flat = true := by
  intro g cs h
  change hGlob g = some cs at h
  unfold hGlob at h
  split at h
  · cases h; decide +kernel
  · cases h

theorem glob_ok {W : World} (h : laidMetH Tryd.prog laid W) : ∀ g cs, cx.glob g = some cs → VRelM (memGh W) cs g 0 := by
  intro g cs hg
  change hGlob g = some cs at hg
  unfold hGlob at hg
  split at hg
  · cases hg
    obtain ⟨g, t, cs, fuel, p, h1, h2, h3, h4⟩ := Lib.laidMet.reads (n := "strings.asciiSpace") (d := Rows.laid_strings_asciiSpace) h (.tail _ (.head _))
    obtain rfl := Option.some.inj (gTab.symm.trans h1)
    obtain rfl := Option.some.inj (gTabType.symm.trans h2)
    have hc := Lib.cells_of_tab (zs := spaceTab) Tryd.underlying162 Tryd.underlying5 cells5 cells162 (space_data ▸ h4)
    refine VRelM.of_get fun j y hj => ?_
    have hcell := World.var?_cell h1 h3 j
    rw [← Array.getElem?_toList, hc] at hcell
    unfold spaceCells at hj
    rw [List.getElem?_map] at hj hcell
    cases hz : spaceTab[j]? with
    | none => rw [hz] at hj; cases hj
    | some z =>
      rw [hz] at hj hcell
      cases hj
      refine ⟨.int .u8 z, ?_, rfl⟩
      show (W.cell? ⟨0, 0 + j, none⟩).filter (·.oneCell') = _
      rw [Nat.zero_add, hcell]
      rfl
  · cases hg

/-- A WORLD FOR THE WITNESS: the settled one with two blocks more (the ranges and the table of unicode.White_Space), the variables holding what their initialisers lay. -/
noncomputable def laidWorld (os : Os) : World :=
  let N := (World.settled Tryd.prog os).heap.size
  let w0 := World.holding Tryd.prog os ⟨#[
    .cells #[.int .u16 9, .int .u16 13, .int .u16 1, .int .u16 32, .int .u16 133, .int .u16 101, .int .u16 160, .int .u16 5760, .int .u16 5600, .int .u16 8192, .int .u16 8202, .int .u16 1, .int .u16 8232, .int .u16 8233, .int .u16 1, .int .u16 8239, .int .u16 8287, .int .u16 48, .int .u16 12288, .int .u16 12288, .int .u16 1] 179,
    .cells #[.slice (some ⟨N, 0, none⟩) 7 7, .slice none 0 0, .int .i64 2] 176], #[], []⟩
  let put (h : Array Obj) (g : Nat) (cs : Array Value) : Array Obj := h.modify g fun
    | .cells _ t frozen => .cells cs t frozen
    | o => o
  let h1 := put w0.heap 0 (spaceTab.map fun z => Value.int .u8 z).toArray
  let h2 := put h1 1 #[.pointer (some ⟨N + 1, 0, none⟩)]
  { w0 with heap := h2 }

theorem laid_met (os : Os) (args : Array Value) : laidMet Tryd.prog laid ((laidWorld os).forCall (fun _ _ => 0) ⟨#[], args, []⟩).memory :=
  laidMet_of_run' 8 (by kernel_rfl) (by kernel_rfl)
end Go.Proofs.YtejpjabbdkpmiaaDoor.Laid
