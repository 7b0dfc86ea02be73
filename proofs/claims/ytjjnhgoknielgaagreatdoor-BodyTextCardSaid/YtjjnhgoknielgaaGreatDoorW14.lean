/- Lemmas -/
import Derived.Test.YtjjnhgoknielgaaGreatDoorW13
set_option linter.all false
