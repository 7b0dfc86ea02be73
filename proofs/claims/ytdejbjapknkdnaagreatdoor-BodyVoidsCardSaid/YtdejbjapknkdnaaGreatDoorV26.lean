/- Lemmas -/
import Derived.Test.YtdejbjapknkdnaaGreatDoorV25
import Derived.Test.YtdejbjapknkdnaaGreatDoorV7
set_option linter.all false
namespace Go.Am
open Go
set_option maxRecDepth 100000
abbrev YQ:Ty:= .st [.int .i64,.str,.str]
def cE{U:Type}{P:List Aa->Prop}{f:U->List Aa}{Q:U->Prop}(h:∀r,P r->∃a,r=f a/\Q a):∀{As:List (List Aa)},(∀r∈As,P r)->∃l:List U,As=l.map f/\∀a∈l,Q a
 |[],_=>⟨[],rfl,by simp⟩
 |r::As,hr=>by obtain⟨a,rfl,hq⟩:=h r (hr r (by simp));obtain⟨l,rfl,hl⟩:=cE h (As:=As) λr h=>hr r (by simp[h]);exact⟨a::l,rfl,by simpa[hq] using hl⟩
def iM{U:Type}{e:Ty}{f:U->List Aa}{Q:U->Prop}(h:∀r,Zj e r->∃a,r=f a/\Q a){v:Aa}(c:Zj (.sl e) [v]):∃l:List U,Br (Ty.size e) (l.map f) v/\l.length<=maxLen/\∀a∈l,Q a:=by
 unfold Zj at c;rcases c with b|⟨As,b,hl,hr⟩
 .cases b;exact⟨[],.nil,by simp,by simp⟩
 .cases b;obtain⟨l,rfl,hq⟩:=cE h hr;exact⟨l,.mk,by simpa using hl,hq⟩
def TN{r:List Aa}{k:IntKind}(h:Zj (.int k) r):∃n,r=[.int k n]/\(Lit.int k n).wf=true:=h
def Rh{r:List Aa}(h:Zj .str r):∃s:Ad,r=[.str s]:=let⟨n,e,_⟩:=h;⟨n,e⟩
def Qz{r:List Aa}(h:Zj .bool r):∃b,r=[.bool b]:=h
def Fb{t:Ty}{ts:List Ty}{l:List Aa}(h:jx (t::ts) l):∃a b,l=a++b/\Zj t a/\jx ts b:=h
def nO{l:List Aa}(h:jx [] l):l=[]:=h
def oa{e:Ty}{r:List Aa}(h:Zj (.sl e) r):∃v,r=[v]/\Zj (.sl e) [v]:=by have h':=h;unfold Zj at h';rcases h' with rfl|⟨As,rfl,_⟩<;>exact⟨_,rfl,h⟩
def nQ(r:List Aa)(h:Zj YQ r):∃a:A9,r=a.row/\True:=by obtain⟨g,d,rfl,h1,h⟩:=Fb h;obtain⟨f,c,rfl,h2,h⟩:=Fb h;obtain⟨e,b,rfl,h3,h⟩:=Fb h;obtain rfl:=nO h;obtain⟨n,rfl,_⟩:=TN h1;obtain⟨s,rfl⟩:=Rh h2;obtain⟨t,rfl⟩:=Rh h3;exact⟨⟨n,s,t⟩,rfl,trivial⟩
def Gj(l:List A9):Prop:=l.length<=20/\∀x∈l,x.name.length<=400/\x.value.length<=400
instance(l:List A9):Decidable (Gj l):=by unfold Gj;infer_instance
def Gj.LO{l:List A9}(h:Gj l):Fx l:=⟨by have:=h.1;omega,λa ha=>by have:=h.2 a ha;omega⟩
section
variable{h:Ae}
def f9{v:Aa}{l:List A9}(c:Bj l v)(h:Ae):Cj cx 22 [v] h (.bool (decide (Gj l))) h:=by
 have JG:Br 3 (l.map A9.row) v:=c;have a:=Br.Fk c;rw[Ac,aDl,t22];refine BO (λn:Nat=>[ff,I (n:Int)]) (λn h1=>n<=l.length/\n<=21/\(∀x∈l.take n,x.name.length<=400/\x.value.length<=400)/\h1=h) (λn=>l.length-n) 0 rfl ⟨AU _,AU _,by simp,rfl⟩ ?_;rintro n h1 ⟨hn,hb,ha,rfl⟩;rcases A6 n l.length with hlt|HK
 .have b:=Br.Dl (k:= .i64) c hlt;rw[A9.row] at b;have Zg:¬(l[n].name.length<=400/\l[n].value.length<=400)->¬Gj l:=λh1 h2=>h1 (h2.2 _ (Ay hlt));by_cases RJ:n<=20
  .by_cases d:(400:Int)<(l[n].name.length:Int);.have e:decide (Gj l)=false:=Ak (Zg (by omega));rw[e];simp only[abS,a,show(n:Int)<(l.length:Int) by omega,show(n:Int)<=20 by omega,b,d]
   .by_cases f:(400:Int)<(l[n].value.length:Int);.have e:decide (Gj l)=false:=Ak (Zg (by omega));rw[e];simp only[abS,a,show(n:Int)<(l.length:Int) by omega,show(n:Int)<=20 by omega,b,d,f]
    .simp only[abS,a,show(n:Int)<(l.length:Int) by omega,show(n:Int)<=20 by omega,b,d,f,CI (show n<9223372036854775807 by omega)];refine Bk.next (n+1) rfl ⟨hlt,by omega,λx hx=>?_,rfl⟩ (by omega);rw[AV hlt,Aj,Be] at hx;rcases hx with hx|rfl
     .exact ha x hx
     .exact⟨by omega,by omega⟩
  .have e:decide (Gj l)=false:=Ak λh=>by have:=h.1;omega
   rw[e];simp only[abS,a,show(n:Int)<(l.length:Int) by omega,show¬(n:Int)<=20 by omega,show¬(l.length:Int)<=20 by omega,Ho]
 .rw[A7 HK] at ha;have g:decide (Gj l)=decide ((l.length:Int)<=20):=by rw[DX];exact⟨λh=>by have:=h.1;omega,λh=>⟨by omega,ha⟩⟩
  rw[g];simp only[abS,a,show¬(n:Int)<(l.length:Int) by omega]
def aBO(s:Ã):Prop:=s.name.length<=60/\Gj s.Aq
instance(s:Ã):Decidable (aBO s):=by unfold aBO;infer_instance
def aFD(q:BOp):Prop:=q.name.length<=60/\q.s.length<=200/\Gj q.Aq
instance(q:BOp):Decidable (aFD q):=by unfold aFD;infer_instance
def aBP(l:List QO)(m:Nat):Prop:=l.length<=m/\∀x∈l,aFD x.q
instance(l:List QO)(m:Nat):Decidable (aBP l m):=by unfold aBP;infer_instance
end
end Go.Am
