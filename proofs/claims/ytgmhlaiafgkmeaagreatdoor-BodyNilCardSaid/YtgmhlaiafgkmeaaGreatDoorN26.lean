/- Lemmas -/
import Derived.Test.YtgmhlaiafgkmeaaGreatDoorN19
set_option linter.all false
