/- Lemmas -/
import Derived.Test.YtlcmmpgfafpoiaaGreatDoorT18
set_option linter.all false
