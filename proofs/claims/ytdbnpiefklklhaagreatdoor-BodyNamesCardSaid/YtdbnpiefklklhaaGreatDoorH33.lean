/- Lemmas -/
import Derived.Test.YtdbnpiefklklhaaGreatDoorH31
set_option linter.all false
