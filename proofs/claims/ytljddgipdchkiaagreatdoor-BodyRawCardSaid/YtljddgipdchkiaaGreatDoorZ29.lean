/- Lemmas -/
import Derived.Test.YtljddgipdchkiaaGreatDoorZ18
set_option linter.all false
