/- Lemmas -/
import Derived.Test.YtffmdapalbecoaaGreatDoorO18
set_option linter.all false
