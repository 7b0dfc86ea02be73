/- Lemmas -/
import Derived.Test.YtbkijlifflhdiaaGreatDoorV13
set_option linter.all false
