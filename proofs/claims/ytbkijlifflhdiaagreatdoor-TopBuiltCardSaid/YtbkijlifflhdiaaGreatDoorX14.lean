/- Lemmas -/
import Derived.Test.YtbkijlifflhdiaaGreatDoorX13
set_option linter.all false
