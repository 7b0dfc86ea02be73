/- Lemmas -/
import Derived.Test.YtgmhlaiafgkmeaaGreatDoorN14
set_option linter.all false
