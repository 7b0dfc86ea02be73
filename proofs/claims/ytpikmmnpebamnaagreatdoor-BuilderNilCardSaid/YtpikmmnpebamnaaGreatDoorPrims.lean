/-
  The functions that are not walked, all together. No law is claimed here.
-/
import Derived.Test.YtpikmmnpebamnaaGreatDoorPDump3
set_option linter.unusedSimpArgs false
set_option linter.unusedVariables false
namespace Go.Am
open Go

theorem prim_ok : PrimOk cx := by
  refine ⟨fun f hf => ?_, fun f p hp n hs args h r h' hrun => ?_⟩
  · simp only [cx, hIns] at hf
    split at hf
    · exact InsOk_170
    · cases hf
  · simp only [cx, hPrim] at hp
    split at hp
    · cases hp; exact prim34 n hs args r h' hrun
    · cases hp; exact prim36 n args r h' hrun
    · cases hp; exact prim168 n args r h' hrun
    · cases hp; exact prim224 n hs args r h' hrun
    · cases hp
end Go.Am
