/- Lemmas -/
import Derived.Test.YtjjnhgoknielgaaGreatDoorZ31
import Derived.Test.YtjjnhgoknielgaaGreatDoorZ32
set_option linter.all false
namespace Go.Am
open Go
set_option maxRecDepth 100000
section
variable{h h':Ai}{bi lo:Nat}{b c:BS}{F F':Nat->Prop}{m n o a j:Nat}{t:DF}{av:Aa}
def Ĥ:Bw ([]:List Be) .slnil:= .nil
end
section
variable{h:Ai}{bi:Nat}{b:BS}{F:Nat->Prop}
end
end Go.Am
