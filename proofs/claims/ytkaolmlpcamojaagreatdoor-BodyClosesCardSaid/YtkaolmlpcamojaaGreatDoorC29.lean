/- Lemmas -/
import Derived.Test.YtkaolmlpcamojaaGreatDoorC28
import Derived.Test.YtkaolmlpcamojaaGreatDoorC7
set_option linter.all false
namespace Go.Am
open Go
set_option maxRecDepth 100000
abbrev dv:Ty:= .st [.int .i64,.str,.str]
abbrev tOp:Ty:= .st [.int .i64,.str,.sl dv,.int .i64,.int .i64,.bool,.str,.int .i32,.int .i64]
abbrev aOf:Ty:= .st [.int .i64,.str,.sl dv,.bool,.bool]
abbrev lE:Ty:= .st [.bool,aOf]
def cB{U:Type}{P:List Aa->Prop}{f:U->List Aa}{Q:U->Prop}(h:∀r,P r->∃a,r=f a/\Q a):∀{AE:List (List Aa)},(∀r∈AE,P r)->∃l:List U,AE=l.map f/\∀a∈l,Q a
 |[],_=>⟨[],rfl,AH⟩
 |r::AE,hr=>by obtain⟨a,rfl,hq⟩:=h r (hr r AH);obtain⟨l,rfl,hl⟩:=cB h (AE:=AE) λr h=>hr r (by simp[h]);exact⟨a::l,rfl,by simpa[hq] using hl⟩
def wA{U:Type}{e:Ty}{f:U->List Aa}{Q:U->Prop}(h:∀r,dD e r->∃a,r=f a/\Q a){v:Aa}(hv:dD (.sl e) [v]):∃l:List U,AU (Ty.size e) (l.map f) v/\l.length<=maxLen/\∀a∈l,Q a:=by
 unfold dD at hv;rcases hv with b|⟨AE,b,hl,hr⟩
 .cases b;exact⟨[],.nil,AH,AH⟩
 .cases b;obtain⟨l,rfl,hq⟩:=cB h hr;exact⟨l,.mk,by simpa using hl,hq⟩
def OS{r:List Aa}{k:IntKind}(h:dD (.int k) r):∃n,r=[.int k n]/\(Lit.int k n).wf=true:=h
def QQ{r:List Aa}(h:dD .str r):∃s:Ai,r=[.str s]:=let⟨n,e,_⟩:=h;⟨n,e⟩
def Tv{r:List Aa}(h:dD .bool r):∃b,r=[.bool b]:=h
def Eb{t:Ty}{ts:List Ty}{l:List Aa}(h:g_ (t::ts) l):∃a b,l=a++b/\dD t a/\g_ ts b:=h
def Tw{l:List Aa}(h:g_ [] l):l=[]:=h
def cC{e:Ty}{r:List Aa}(h:dD (.sl e) r):∃v,r=[v]/\dD (.sl e) [v]:=by have h':=h;unfold dD at h';rcases h' with rfl|⟨AE,rfl,_⟩<;>exact⟨_,rfl,h⟩
def qD(r:List Aa)(h:dD dv r):∃a:A5,r=a.row/\True:=by obtain⟨i,e,rfl,h1,h⟩:=Eb h;obtain⟨g,d,rfl,h2,h⟩:=Eb h;obtain⟨f,c,rfl,b,h⟩:=Eb h;obtain rfl:=Tw h;obtain⟨n,rfl,_⟩:=OS h1;obtain⟨s,rfl⟩:=QQ h2;obtain⟨t,rfl⟩:=QQ b;exact⟨⟨n,s,t⟩,rfl,trivial⟩
def aEl(r:List Aa)(h:dD tOp r):∃a:QO,r=a.row/\(-2147483648<=a.q.r/\a.q.r<=2147483647):=by obtain⟨O,F,rfl,h1,h⟩:=Eb h;obtain⟨N,E,rfl,h2,h⟩:=Eb h;obtain⟨M,D,rfl,b,h⟩:=Eb h;obtain⟨L,C,rfl,w,h⟩:=Eb h;obtain⟨K,B,rfl,u,h⟩:=Eb h;obtain⟨J,A,rfl,t,h⟩:=Eb h;obtain⟨I,z,rfl,s,h⟩:=Eb h;obtain⟨H,y,rfl,p,h⟩:=Eb h;obtain⟨G,x,rfl,o,h⟩:=Eb h;obtain rfl:=Tw h;obtain⟨k,rfl,_⟩:=OS h1;obtain⟨e,rfl⟩:=QQ h2;obtain⟨v,rfl,b⟩:=cC b;obtain⟨l,b,_,_⟩:=wA qD b;obtain⟨j,rfl,_⟩:=OS w;obtain⟨i,rfl,_⟩:=OS u;obtain⟨b6,rfl⟩:=Tv t;obtain⟨d,rfl⟩:=QQ s;obtain⟨g,rfl,c⟩:=OS p;obtain⟨f,rfl,_⟩:=OS o;refine⟨⟨⟨k,e,l,j,i,b6,d,g,f⟩,v,b⟩,rfl,?_⟩;have n:IntKind.i32.min= -2147483648:=rfl;have m:IntKind.i32.max=2147483647:=rfl;simp[Lit.wf,n,m] at c;exact c
def wB{v:Aa}(h:h_ lE v):∃(s:EW) (av:Aa),v= .agg (MA s av)/\Bt s.Ay av:=by obtain⟨r,rfl,h⟩:=h;obtain⟨A,q,rfl,h1,h⟩:=Eb h;obtain⟨z,p,rfl,h2,h⟩:=Eb h;obtain rfl:=Tw h;obtain⟨b1,rfl⟩:=Tv h1;obtain⟨y,o,rfl,g,h⟩:=Eb h2;obtain⟨x,n,rfl,f,h⟩:=Eb h;obtain⟨w,m,rfl,a,h⟩:=Eb h;obtain⟨u,k,rfl,e,h⟩:=Eb h;obtain⟨t,j,rfl,d,h⟩:=Eb h;obtain rfl:=Tw h;obtain⟨c,rfl,_⟩:=OS g;obtain⟨b,rfl⟩:=QQ f;obtain⟨v,rfl,a⟩:=cC a;obtain⟨l,a,_,_⟩:=wA qD a;obtain⟨b6,rfl⟩:=Tv e;obtain⟨i,rfl⟩:=Tv d;exact⟨⟨b1,c,b,l,b6,i⟩,v,rfl,a⟩
def zg{v:Aa}(h:h_ (.sl tOp) v):∃l:List QO,bX l v/\∀x∈l,-2147483648<=x.q.r/\x.q.r<=2147483647:=by have h:dD (.sl tOp) [v]:=h;obtain⟨l,h1,_,h2⟩:=wA aEl h;exact⟨l,h1,h2⟩
def GV(l:List A5):Prop:=l.length<=20/\∀x∈l,x.name.length<=400/\x.value.length<=400
instance(l:List A5):Decidable (GV l):=by unfold GV;infer_instance
def GV.aBv{l:List A5}(h:GV l):DL l:=⟨by have:=h.1;omega,λa ha=>by have:=h.2 a ha;omega⟩
section
variable{h:Ah}
def f9{v:Aa}{l:List A5}(hv:Bt l v)(h:Ah):BL cx 12 [v] h (.bool (decide (GV l))) h:=by
 have DJ:AU 3 (l.map A5.row) v:=hv;have a:=AU.CN hv;rw[Ae,aCX];refine Bi (λn:Nat=>[ff,I (n:Int)]) (λn h1=>n<=l.length/\n<=21/\(∀x∈l.take n,x.name.length<=400/\x.value.length<=400)/\h1=h) (λn=>l.length-n) 0 rfl ⟨AV _,AV _,AH,rfl⟩ ?_;rintro n h1 ⟨hn,hb,ha,rfl⟩;rcases AP n l.length with hlt|Eg
 .have b:=AU.BK (k:= .i64) hv hlt;rw[A5.row] at b;have Zi:¬(l[n].name.length<=400/\l[n].value.length<=400)->¬GV l:=λh1 h2=>h1 (h2.2 _ (AL hlt));by_cases Od:n<=20
  .by_cases c:(400:Int)<(l[n].name.length:Int);.have e:decide (GV l)=false:=Ap (Zi Ab);rw[e];simp only[abS,a,(Ab:(n:Int)<(l.length:Int)),(Ab:(n:Int)<=20),b,c]
   .by_cases d:(400:Int)<(l[n].value.length:Int);.have e:decide (GV l)=false:=Ap (Zi Ab);rw[e];simp only[abS,a,(Ab:(n:Int)<(l.length:Int)),(Ab:(n:Int)<=20),b,c,d]
    .simp only[abS,a,(Ab:(n:Int)<(l.length:Int)),(Ab:(n:Int)<=20),b,c,d,BM (Ab:n<9223372036854775807)];refine AK.next (n+1) rfl ⟨hlt,Ab,λx hx=>?_,rfl⟩ Ab;rw[AB hlt,Ax,BG] at hx;rcases hx with hx|rfl
     .exact ha x hx
     .exact⟨Ab,Ab⟩
  .have e:decide (GV l)=false:=Ap λh=>by have:=h.1;omega
   rw[e];simp only[abS,a,(Ab:(n:Int)<(l.length:Int)),(Ab:¬(n:Int)<=20),(Ab:¬(l.length:Int)<=20),DH]
 .rw[AF Eg] at ha;have f:decide (GV l)=decide ((l.length:Int)<=20):=by rw[Dd];exact⟨λh=>by have:=h.1;omega,λh=>⟨Ab,ha⟩⟩
  rw[f];simp only[abS,a,(Ab:¬(n:Int)<(l.length:Int))]
def Vq(s:EW):Prop:=s.name.length<=60/\GV s.Ay
instance(s:EW):Decidable (Vq s):=by unfold Vq;infer_instance
def f5(s:EW){av:Aa}(hv:Bt s.Ay av)(h:Ah):BL cx 11 [.agg [I s.Bc,.str s.name,av,.bool s.CK,.bool s.Fk]] h (.bool (decide (Vq s))) h:=by
 have b:=f9 hv h;have Zg:av.cells=[av]:=AU.cells hv;rw[Ae,aCW];by_cases a:(s.name.length:Int)<=60
 .have e:decide (Vq s)=decide (GV s.Ay):=by rw[Dd];exact⟨λh=>h.2,λh=>⟨Ab,h⟩⟩
  rw[e];simp only[abS,a,b.Ac]
 .have e:decide (Vq s)=false:=Ap λh=>by have:=h.1;omega
  rw[e];simp only[abS,a]
def wC(q:pT):Prop:=q.name.length<=60/\q.s.length<=200/\GV q.Ay
instance(q:pT):Decidable (wC q):=by unfold wC;infer_instance
def wC.ok{q:pT}(h:wC q)(hr: -2147483648<=q.r/\q.r<=2147483647):ly q:=⟨by have:=h.1;omega,h.2.2.aBv,by have:=h.2.1;omega,hr⟩
def N9(l:List QO)(m:Nat):Prop:=l.length<=m/\∀x∈l,wC x.q
instance(l:List QO)(m:Nat):Decidable (N9 l m):=by unfold N9;infer_instance
def f4{v:Aa}{l:List QO}(hv:bX l v){m:Nat}(hm:m<=1000)(h:Ah):BL cx 10 [v,I (m:Int)] h (.bool (decide (N9 l m))) h:=by
 have a:=AU.CN hv;rw[Ae,aCV];refine Bi (λn:Nat=>[ff,I (n:Int)]) (λn h1=>n<=l.length/\n<=m+1/\(∀x∈l.take n,wC x.q)/\h1=h) (λn=>l.length-n) 0 rfl ⟨AV _,AV _,AH,rfl⟩ ?_;rintro n h1 ⟨hn,hb,ha,rfl⟩;rcases AP n l.length with hlt|Eg
 .have b:=AU.BK (k:= .i64) hv hlt;have c:=f9 l[n].ok h1;have Zi:¬wC l[n].q->¬N9 l m:=λh1 h2=>h1 (h2.2 _ (AL hlt));rw[QO.row,LO] at b;by_cases Od:n<=m
  .by_cases f:(60:Int)<(l[n].q.name.length:Int);.have e:decide (N9 l m)=false:=Ap (Zi λh=>by have:=h.1;omega);rw[e];simp only[abS,a,(Ab:(n:Int)<(l.length:Int)),(Ab:(n:Int)<=(m:Int)),b,f]
   .by_cases g:(200:Int)<(l[n].q.s.length:Int);.have e:decide (N9 l m)=false:=Ap (Zi λh=>by have:=h.2.1;omega);rw[e];simp only[abS,a,(Ab:(n:Int)<(l.length:Int)),(Ab:(n:Int)<=(m:Int)),b,f,g]
    .by_cases d:GV l[n].q.Ay
     .rw[As d] at c;simp only[abS,a,(Ab:(n:Int)<(l.length:Int)),(Ab:(n:Int)<=(m:Int)),b,f,g,c.Ac,BM (Ab:n<9223372036854775807)];refine AK.next (n+1) rfl ⟨hlt,Ab,λx hx=>?_,rfl⟩ Ab;rw[AB hlt,Ax,BG] at hx;rcases hx with hx|rfl
      .exact ha x hx
      .exact⟨Ab,Ab,d⟩
     .have e:decide (N9 l m)=false:=Ap (Zi λh=>d h.2.2);rw[Ap d] at c;rw[e];simp only[abS,a,(Ab:(n:Int)<(l.length:Int)),(Ab:(n:Int)<=(m:Int)),b,f,g,c.Ac]
  .have e:decide (N9 l m)=false:=Ap λh=>by have:=h.1;omega
   rw[e];simp only[abS,a,(Ab:(n:Int)<(l.length:Int)),(Ab:¬(n:Int)<=(m:Int)),(Ab:¬(l.length:Int)<=(m:Int)),DH]
 .rw[AF Eg] at ha;have i:decide (N9 l m)=decide ((l.length:Int)<=(m:Int)):=by rw[Dd];exact⟨λh=>by have:=h.1;omega,λh=>⟨Ab,ha⟩⟩
  rw[i];simp only[abS,a,(Ab:¬(n:Int)<(l.length:Int))]
end
end Go.Am
