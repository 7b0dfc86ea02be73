/- Lemmas -/
import Derived.Test.YtjjnhgoknielgaaGreatDoorW25
import Derived.Test.YtjjnhgoknielgaaGreatDoorW7
set_option linter.all false
namespace Go.Am
open Go
set_option maxRecDepth 100000
abbrev aLt:Ty:= .st [.int .i64,.str,.str]
def eK{U:Type}{P:List Ab->Prop}{f:U->List Ab}{Q:U->Prop}(h:∀r,P r->∃a,r=f a/\Q a):∀{Ay:List (List Ab)},(∀r∈Ay,P r)->∃l:List U,Ay=l.map f/\∀a∈l,Q a
 |[],_=>⟨[],rfl,AB⟩
 |r::Ay,hr=>by obtain⟨a,rfl,hq⟩:=h r (hr r AB);obtain⟨l,rfl,hl⟩:=eK h (Ay:=Ay) λr h=>hr r (by simp[h]);exact⟨a::l,rfl,by simpa[hq] using hl⟩
def aHo{U:Type}{e:Ty}{f:U->List Ab}{Q:U->Prop}(h:∀r,R_ e r->∃a,r=f a/\Q a){v:Ab}(hv:R_ (.sl e) [v]):∃l:List U,Bx (Ty.size e) (l.map f) v/\l.length<=maxLen/\∀a∈l,Q a:=by
 unfold R_ at hv;rcases hv with b|⟨Ay,b,hl,hr⟩
 .cases b;exact⟨[],.nil,AB,AB⟩
 .cases b;obtain⟨l,rfl,hq⟩:=eK h hr;exact⟨l,.mk,by simpa using hl,hq⟩
def aBZ{r:List Ab}{k:IntKind}(h:R_ (.int k) r):∃n,r=[.int k n]/\(Lit.int k n).wf=true:=h
def Ml(l:List Bj):Prop:=l.length<=20/\∀x∈l,x.name.length<=400/\x.value.length<=400
instance(l:List Bj):Decidable (Ml l):=by unfold Ml;infer_instance
def Ml.qQ{l:List Bj}(h:Ml l):GQ l:=⟨by have:=h.1;omega,λa ha=>by have:=h.2 a ha;omega⟩
section
variable{h:Ai}
def aDz(s:Ĵ):Prop:=s.name.length<=60/\Ml s.As
instance(s:Ĵ):Decidable (aDz s):=by unfold aDz;infer_instance
def aHp(q:BOp):Prop:=q.name.length<=60/\q.s.length<=200/\Ml q.As
instance(q:BOp):Decidable (aHp q):=by unfold aHp;infer_instance
def aDA(l:List QO)(m:Nat):Prop:=l.length<=m/\∀x∈l,aHp x.q
instance(l:List QO)(m:Nat):Decidable (aDA l m):=by unfold aDA;infer_instance
end
end Go.Am
