/- Lemmas -/
import Derived.Test.YtljddgipdchkiaaGreatDoorB18
set_option linter.all false
