/- Lemmas -/
import Derived.Test.YtjbidlnjecppfaaGreatDoorS10
set_option linter.all false
set_option maxRecDepth 100000
namespace Go.Am
open Go
theorem sj:Ev cx 5 [] [] λr _=>r= .bool true:=ą aGd 3000 Dv
theorem vZ:JY cx 5 [] tt:=sj
end Go.Am
