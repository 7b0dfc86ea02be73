/- Lemmas -/
import Derived.Test.YtjjnhgoknielgaaGreatDoorZ13
set_option linter.all false
