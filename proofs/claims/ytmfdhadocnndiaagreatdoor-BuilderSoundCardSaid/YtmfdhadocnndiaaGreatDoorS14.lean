/- Lemmas -/
import Derived.Test.YtmfdhadocnndiaaGreatDoorS13
set_option linter.all false
namespace Go.Am
open Go Go.RowKit Go.Shelf
section
variable{U U':Gh}{h:Ah}{w w':World}
def jj:(Proofs.Tryz.prog.info? 3).map (λi=>(i.zero,i.size,i.bytes))=some (some (.int .i64 0),1,8):=AU
end
end Go.Am
