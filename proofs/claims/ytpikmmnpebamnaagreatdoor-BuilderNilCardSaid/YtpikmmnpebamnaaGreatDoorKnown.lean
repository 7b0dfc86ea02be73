/-
  The calls of the chapter's examples, run by the kernel. No law is claimed here.
-/
import Derived.Test.YtpikmmnpebamnaaGreatDoorTab
set_option linter.unusedSimpArgs false
set_option linter.unusedVariables false
namespace Go.Am
open Go
set_option maxRecDepth 100000
/-- The examples hold. -/
theorem run_known : Ev cx 7 [] [] fun r _ => r = .bool true := Ev_of_tab 3000 (by kernel_rfl)
end Go.Am
