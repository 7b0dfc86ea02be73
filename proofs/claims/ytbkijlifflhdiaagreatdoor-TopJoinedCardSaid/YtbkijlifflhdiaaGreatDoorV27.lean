/- Lemmas -/
import Derived.Test.YtbkijlifflhdiaaGreatDoorV19
set_option linter.all false
