/- Lemmas -/
import Derived.Test.YtdejbjapknkdnaaGreatDoorV13
set_option linter.all false
