/- Lemmas -/
import Derived.Test.YtjboelmdplaenaaGreatDoorQ26
set_option linter.unusedVariables false
set_option linter.unusedSimpArgs false
namespace Go.Am
open Go
set_option maxRecDepth 100000
theorem run_known5:Ev cx 5 [] [] λr _=>r= .bool true:=Ev_of_tab 3000 (by kernel_rfl)
end Go.Am
