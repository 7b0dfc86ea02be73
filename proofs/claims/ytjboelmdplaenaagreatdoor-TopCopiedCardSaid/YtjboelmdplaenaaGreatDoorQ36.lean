/- Lemmas -/
import Derived.Test.YtjboelmdplaenaaGreatDoorQ34
import Derived.Test.YtjboelmdplaenaaGreatDoorQ35
set_option linter.unusedVariables false
set_option linter.unusedSimpArgs false
namespace Go.Am
open Go
theorem all_topcopied:∀l,HasArgs [.sl tLOp,.int .i64] l→Ev cx 3 l [] λr _=>r= .bool true:=by
 rintro _ ⟨a,_,rfl,ha,b,_,rfl,hb,rfl⟩;obtain⟨l,hv⟩:=hasV_lops ha;obtain⟨n,e,_⟩:=hb
 cases e
 exact ev_copied run_known5 hv n []
end Go.Am
