/- Lemmas -/
import Derived.Test.YtdejbjapknkdnaaGreatDoorV31
set_option linter.all false
namespace Go.Am
open Go
set_option maxRecDepth 100000
def oN:∀l,OU [.sl SB] l->Ev cx 3 l [] λr _=>r= .bool true:=by
 rintro _ ⟨v,_,rfl,ha,rfl⟩;obtain⟨l,b,hl,hp⟩:=Ro ha;unfold Ev;rw[aH2,t3];rcases Rq hl b hp [] with⟨a,hs,hn⟩|a
 .obtain⟨h',bi,F,c,w,x,_⟩:=Rp (e:=0) b hp hs (by omega) [];simp only[abS,a.call,c.call,HW.AQ rfl rfl];exact⟨_,rfl,rfl⟩
 .simp only[abS,a.call,HW.AQ rfl rfl];exact⟨_,rfl,rfl⟩
end Go.Am
