/- Lemmas -/
import Derived.Test.YtdbnpiefklklhaaGreatDoorH13
set_option linter.all false
