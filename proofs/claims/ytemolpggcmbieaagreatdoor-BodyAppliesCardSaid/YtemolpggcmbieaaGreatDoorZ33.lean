/- Lemmas -/
import Derived.Test.YtemolpggcmbieaaGreatDoorZ31
set_option linter.all false
