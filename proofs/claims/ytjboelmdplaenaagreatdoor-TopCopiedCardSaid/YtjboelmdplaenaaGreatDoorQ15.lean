/- Lemmas -/
import Derived.Test.YtjboelmdplaenaaGreatDoorQ14
set_option linter.unusedVariables false
set_option linter.unusedSimpArgs false
