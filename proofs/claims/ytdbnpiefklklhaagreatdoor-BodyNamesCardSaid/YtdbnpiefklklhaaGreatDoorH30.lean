/- Lemmas -/
import Derived.Test.YtdbnpiefklklhaaGreatDoorH19
set_option linter.all false
