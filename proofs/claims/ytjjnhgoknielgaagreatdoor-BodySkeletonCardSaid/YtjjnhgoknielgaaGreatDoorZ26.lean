/- Lemmas -/
import Derived.Test.YtjjnhgoknielgaaGreatDoorZ25
import Derived.Test.YtjjnhgoknielgaaGreatDoorZ7
set_option linter.all false
namespace Go.Am
open Go
set_option maxRecDepth 100000
abbrev aCy:Ty:= .st [.int .i64,.str,.str]
def dH{U:Type}{P:List Aa->Prop}{f:U->List Aa}{Q:U->Prop}(h:∀r,P r->∃a,r=f a/\Q a):∀{Ax:List (List Aa)},(∀r∈Ax,P r)->∃l:List U,Ax=l.map f/\∀a∈l,Q a
 |[],_=>⟨[],rfl,AB⟩
 |r::Ax,hr=>by obtain⟨a,rfl,hq⟩:=h r (hr r AB);obtain⟨l,rfl,hl⟩:=dH h (Ax:=Ax) λr h=>hr r (by simp[h]);exact⟨a::l,rfl,by simpa[hq] using hl⟩
def ù{U:Type}{e:Ty}{f:U->List Aa}{Q:U->Prop}(h:∀r,fF e r->∃a,r=f a/\Q a){v:Aa}(hv:fF (.sl e) [v]):∃l:List U,BB (Ty.size e) (l.map f) v/\l.length<=maxLen/\∀a∈l,Q a:=by
 unfold fF at hv;rcases hv with b|⟨Ax,b,hl,hr⟩
 .cases b;exact⟨[],.nil,AB,AB⟩
 .cases b;obtain⟨l,rfl,hq⟩:=dH h hr;exact⟨l,.mk,by simpa using hl,hq⟩
def jQ{r:List Aa}{k:IntKind}(h:fF (.int k) r):∃n,r=[.int k n]/\(Lit.int k n).wf=true:=h
def RB{r:List Aa}(h:fF .str r):∃s:Ah,r=[.str s]:=let⟨n,e,_⟩:=h;⟨n,e⟩
def QU{r:List Aa}(h:fF .bool r):∃b,r=[.bool b]:=h
def Fx{t:Ty}{ts:List Ty}{l:List Aa}(h:ni (t::ts) l):∃a b,l=a++b/\fF t a/\ni ts b:=h
def o7{l:List Aa}(h:ni [] l):l=[]:=h
def q_{e:Ty}{r:List Aa}(h:fF (.sl e) r):∃v,r=[v]/\fF (.sl e) [v]:=by have h':=h;unfold fF at h';rcases h' with rfl|⟨Ax,rfl,_⟩<;>exact⟨_,rfl,h⟩
def ú(r:List Aa)(h:fF aCy r):∃a:Be,r=a.row/\True:=by obtain⟨g,d,rfl,h1,h⟩:=Fx h;obtain⟨f,c,rfl,h2,h⟩:=Fx h;obtain⟨e,b,rfl,h3,h⟩:=Fx h;obtain rfl:=o7 h;obtain⟨n,rfl,_⟩:=jQ h1;obtain⟨s,rfl⟩:=RB h2;obtain⟨t,rfl⟩:=RB h3;exact⟨⟨n,s,t⟩,rfl,trivial⟩
def Hj(l:List Be):Prop:=l.length<=20/\∀x∈l,x.name.length<=400/\x.value.length<=400
instance(l:List Be):Decidable (Hj l):=by unfold Hj;infer_instance
def Hj.Mc{l:List Be}(h:Hj l):GD l:=⟨by have:=h.1;omega,λa ha=>by have:=h.2 a ha;omega⟩
section
variable{h:Ai}
def f9{v:Aa}{l:List Be}(hv:Bw l v)(h:Ai):Cy cx 28 [v] h (.bool (decide (Hj l))) h:=by
 have K5:BB 3 (l.map Be.row) v:=hv;have a:=BB.GN hv;rw[Ag,aD1,t28];refine Co (λn:Nat=>[ff,I (n:Int)]) (λn h1=>n<=l.length/\n<=21/\(∀x∈l.take n,x.name.length<=400/\x.value.length<=400)/\h1=h) (λn=>l.length-n) 0 rfl ⟨Bp _,Bp _,AB,rfl⟩ ?_;rintro n h1 ⟨hn,hb,ha,rfl⟩;rcases Bl n l.length with hlt|IS
 .have b:=BB.DN (k:= .i64) hv hlt;rw[Be.row] at b;have xE:¬(l[n].name.length<=400/\l[n].value.length<=400)->¬Hj l:=λh1 h2=>h1 (h2.2 _ (AF hlt));by_cases Qb:n<=20
  .by_cases c:(400:Int)<(l[n].name.length:Int);.have e:decide (Hj l)=false:=Ap (xE Ab);rw[e];simp only[abS,a,(Ab:(n:Int)<(l.length:Int)),(Ab:(n:Int)<=20),b,c]
   .by_cases d:(400:Int)<(l[n].value.length:Int);.have e:decide (Hj l)=false:=Ap (xE Ab);rw[e];simp only[abS,a,(Ab:(n:Int)<(l.length:Int)),(Ab:(n:Int)<=20),b,c,d]
    .simp only[abS,a,(Ab:(n:Int)<(l.length:Int)),(Ab:(n:Int)<=20),b,c,d,Dw (Ab:n<9223372036854775807)];refine BC.next (n+1) rfl ⟨hlt,Ab,λx hx=>?_,rfl⟩ Ab;rw[Bd hlt,An,Bq] at hx;rcases hx with hx|rfl
     .exact ha x hx
     .exact⟨Ab,Ab⟩
  .have e:decide (Hj l)=false:=Ap λh=>by have:=h.1;omega
   rw[e];simp only[abS,a,(Ab:(n:Int)<(l.length:Int)),(Ab:¬(n:Int)<=20),(Ab:¬(l.length:Int)<=20),Ir]
 .rw[Bf IS] at ha;have f:decide (Hj l)=decide ((l.length:Int)<=20):=by rw[EF];exact⟨λh=>by have:=h.1;omega,λh=>⟨Ab,ha⟩⟩
  rw[f];simp only[abS,a,(Ab:¬(n:Int)<(l.length:Int))]
def aCz(s:ø):Prop:=s.name.length<=60/\Hj s.As
instance(s:ø):Decidable (aCz s):=by unfold aCz;infer_instance
def aGj(q:BOp):Prop:=q.name.length<=60/\q.s.length<=200/\Hj q.As
instance(q:BOp):Decidable (aGj q):=by unfold aGj;infer_instance
def aCA(l:List QO)(m:Nat):Prop:=l.length<=m/\∀x∈l,aGj x.q
instance(l:List QO)(m:Nat):Decidable (aCA l m):=by unfold aCA;infer_instance
end
end Go.Am
