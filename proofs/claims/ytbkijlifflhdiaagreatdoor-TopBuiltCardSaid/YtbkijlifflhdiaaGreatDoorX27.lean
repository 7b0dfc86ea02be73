/- Lemmas -/
import Derived.Test.YtbkijlifflhdiaaGreatDoorX18
set_option linter.all false
