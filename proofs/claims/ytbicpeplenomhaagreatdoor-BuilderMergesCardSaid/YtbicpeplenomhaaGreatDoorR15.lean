/- Parts of the proof. No law is claimed here. -/
import Derived.Test.YtbicpeplenomhaaGreatDoorR14
import Derived.Shelf.RegionOpenPlain
import Derived.WalkKit
import Derived.KernelRfl
set_option linter.unusedVariables false
set_option linter.unusedSimpArgs false
namespace Go.Am
open Go Go.RowKit Go.Shelf
section
variable {γ γ':Gh} {h:AHeap} {w w':World}
end
end Go.Am
