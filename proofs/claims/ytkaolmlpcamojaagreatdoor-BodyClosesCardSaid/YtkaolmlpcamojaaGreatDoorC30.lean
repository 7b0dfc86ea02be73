/- Lemmas -/
import Derived.Test.YtkaolmlpcamojaaGreatDoorC18
set_option linter.all false
