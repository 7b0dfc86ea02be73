/- Lemmas -/
import Derived.Test.YtjjnhgoknielgaaGreatDoorZ30
set_option linter.all false
section
end
section
end
