/- Lemmas -/
import Derived.Test.YtkaolmlpcamojaaGreatDoorH18
set_option linter.all false
