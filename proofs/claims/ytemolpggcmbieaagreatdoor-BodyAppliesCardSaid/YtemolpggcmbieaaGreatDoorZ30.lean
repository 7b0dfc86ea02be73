/- Lemmas -/
import Derived.Test.YtemolpggcmbieaaGreatDoorZ19
set_option linter.all false
