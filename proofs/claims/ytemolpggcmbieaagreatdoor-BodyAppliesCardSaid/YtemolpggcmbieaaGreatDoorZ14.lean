/- Lemmas -/
import Derived.Test.YtemolpggcmbieaaGreatDoorZ13
set_option linter.all false
