/- Lemmas -/
import Derived.Test.YtglbboamemndeaaGreatDoorS13
set_option linter.all false
