/- Lemmas -/
import Derived.Test.YtgmhlaiafgkmeaaGreatDoorN24
import Derived.Test.YtgmhlaiafgkmeaaGreatDoorN8
set_option linter.all false
namespace Go.Am
open Go
set_option maxRecDepth 100000
abbrev aA:Ty:= .st [.int .i64,.str,.str]
def Nc{U:Type}{P:List Aa->Prop}{f:U->List Aa}{Q:U->Prop}(h:∀r,P r->∃a,r=f a/\Q a):∀{Ac:List (List Aa)},(∀r∈Ac,P r)->∃l:List U,Ac=l.map f/\∀a∈l,Q a
 |[],_=>⟨[],rfl,by simp⟩
 |r::Ac,hr=>by obtain⟨a,rfl,hq⟩:=h r (hr r (by simp));obtain⟨l,rfl,hl⟩:=Nc h (Ac:=Ac) λr h=>hr r (by simp[h]);exact⟨a::l,rfl,by simpa[hq] using hl⟩
def eV{U:Type}{e:Ty}{f:U->List Aa}{Q:U->Prop}(h:∀r,NM e r->∃a,r=f a/\Q a){v:Aa}(hv:NM (.sl e) [v]):∃l:List U,CY (Ty.size e) (l.map f) v/\l.length<=maxLen/\∀a∈l,Q a:=by
 unfold NM at hv;rcases hv with e1|⟨Ac,e1,hl,hr⟩
 .cases e1;exact⟨[],.nil,by simp,by simp⟩
 .cases e1;obtain⟨l,rfl,hq⟩:=Nc h hr;exact⟨l,.mk,by simpa using hl,hq⟩
def Lf{r:List Aa}{k:IntKind}(h:NM (.int k) r):∃n,r=[.int k n]/\(Lit.int k n).wf=true:=h
def If{r:List Aa}(h:NM .str r):∃s:Ag,r=[.str s]:=let⟨n,e,_⟩:=h;⟨n,e⟩
def HW{r:List Aa}(h:NM .bool r):∃b,r=[.bool b]:=h
def Cf{t:Ty}{ts:List Ty}{l:List Aa}(h:Sv (t::ts) l):∃a b,l=a++b/\NM t a/\Sv ts b:=h
def O6{l:List Aa}(h:Sv [] l):l=[]:=h
def SS{e:Ty}{r:List Aa}(h:NM (.sl e) r):∃v,r=[v]/\NM (.sl e) [v]:=by have h':=h;unfold NM at h';rcases h' with rfl|⟨Ac,rfl,_⟩<;>exact⟨_,rfl,h⟩
def Vd(r:List Aa)(h:NM aA r):∃a:Ce,r=a.row/\True:=by obtain⟨x1,y1,rfl,h1,h⟩:=Cf h;obtain⟨x2,y2,rfl,h2,h⟩:=Cf h;obtain⟨x3,y3,rfl,h3,h⟩:=Cf h;obtain rfl:=O6 h;obtain⟨n,rfl,_⟩:=Lf h1;obtain⟨s,rfl⟩:=If h2;obtain⟨t,rfl⟩:=If h3;exact⟨⟨n,s,t⟩,rfl,trivial⟩
def DQ(l:List Ce):Prop:=l.length<=20/\∀x∈l,x.name.length<=400/\x.value.length<=400
instance(l:List Ce):Decidable (DQ l):=by unfold DQ;infer_instance
section
variable{h:Ab}
def f9{v:Aa}{l:List Ce}(hv:Ea l v)(h:Ab):Fu cx 37 [v] h (.bool (decide (DQ l))) h:=by
 have Ih:CY 3 (l.map Ce.row) v:=hv;have lm:=CY.Wh hv;rw[BJ,dF,t37];refine Ic (λn:Nat=>[ff,I (n:Int)]) (λn h1=>n<=l.length/\n<=21/\(∀x∈l.take n,x.name.length<=400/\x.value.length<=400)/\h1=h) (λn=>l.length-n) 0 rfl ⟨D0 _,D0 _,by simp,rfl⟩ ?_;rintro n h1 ⟨hn,hb,ha,rfl⟩;rcases CD n l.length with hlt|Jk
 .have e1:=CY.Qk (k:= .i64) hv hlt;rw[Ce.row] at e1;have ZI:¬(l[n].name.length<=400/\l[n].value.length<=400)->¬DQ l:=λh1 h2=>h1 (h2.2 _ (Gp hlt));by_cases q6:n<=20
  .by_cases c1:(400:Int)<(l[n].name.length:Int);.have e:decide (DQ l)=false:=D8 (ZI (by omega));rw[e];simp only[Er,Fj,lm,show(n:Int)<(l.length:Int) by omega,show(n:Int)<=20 by omega,e1,c1]
   .by_cases c2:(400:Int)<(l[n].value.length:Int);.have e:decide (DQ l)=false:=D8 (ZI (by omega));rw[e];simp only[Er,Fj,lm,show(n:Int)<(l.length:Int) by omega,show(n:Int)<=20 by omega,e1,c1,c2]
    .simp only[Er,Fj,lm,show(n:Int)<(l.length:Int) by omega,show(n:Int)<=20 by omega,e1,c1,c2,G8 (show n<9223372036854775807 by omega)];refine D5.next (n+1) rfl ⟨hlt,by omega,λx hx=>?_,rfl⟩ (by omega);rw[Pf hlt,Aj,vY] at hx;rcases hx with hx|rfl
     .exact ha x hx
     .exact⟨by omega,by omega⟩
  .have e:decide (DQ l)=false:=D8 λh=>by have:=h.1;omega
   rw[e];simp only[Er,Fj,lm,show(n:Int)<(l.length:Int) by omega,show¬(n:Int)<=20 by omega,show¬(l.length:Int)<=20 by omega,fE]
 .rw[AS Jk] at ha;have e2:decide (DQ l)=decide ((l.length:Int)<=20):=by rw[JR];exact⟨λh=>by have:=h.1;omega,λh=>⟨by omega,ha⟩⟩
  rw[e2];simp only[Er,Fj,lm,show¬(n:Int)<(l.length:Int) by omega]
def aB(s:Vc):Prop:=s.name.length<=60/\DQ s.CZ
instance(s:Vc):Decidable (aB s):=by unfold aB;infer_instance
def eW(q:gC):Prop:=q.name.length<=60/\q.s.length<=200/\DQ q.CZ
instance(q:gC):Decidable (eW q):=by unfold eW;infer_instance
def aC(l:List QO)(m:Nat):Prop:=l.length<=m/\∀x∈l,eW x.q
instance(l:List QO)(m:Nat):Decidable (aC l m):=by unfold aC;infer_instance
end
end Go.Am
