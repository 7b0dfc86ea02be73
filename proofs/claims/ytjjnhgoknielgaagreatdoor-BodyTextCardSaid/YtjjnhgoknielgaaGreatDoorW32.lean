/- Lemmas -/
import Derived.Test.YtjjnhgoknielgaaGreatDoorW30
set_option linter.all false
section
end
section
end
