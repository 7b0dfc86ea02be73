/- Lemmas -/
import Derived.Test.YtljddgipdchkiaaGreatDoorB28
import Derived.Test.YtljddgipdchkiaaGreatDoorB7
set_option linter.all false
namespace Go.Am
open Go
set_option maxRecDepth 100000
abbrev ax:Ty:= .st [.int .i64,.str,.str]
abbrev tOp:Ty:= .st [.int .i64,.str,.sl ax,.int .i64,.int .i64,.bool,.str,.int .i32,.int .i64]
abbrev aMy:Ty:= .st [.int .i64,.str,.sl ax,.bool,.bool]
abbrev j0:Ty:= .st [.bool,aMy]
def bF{U:Type}{P:List Aa->Prop}{f:U->List Aa}{Q:U->Prop}(h:∀r,P r->∃a,r=f a/\Q a):∀{AD:List (List Aa)},(∀r∈AD,P r)->∃l:List U,AD=l.map f/\∀a∈l,Q a
 |[],_=>⟨[],rfl,AH⟩
 |r::AD,hr=>by obtain⟨a,rfl,hq⟩:=h r (hr r AH);obtain⟨l,rfl,hl⟩:=bF h (AD:=AD) λr h=>hr r (by simp[h]);exact⟨a::l,rfl,by simpa[hq] using hl⟩
def j1{U:Type}{e:Ty}{f:U->List Aa}{Q:U->Prop}(h:∀r,Y9 e r->∃a,r=f a/\Q a){v:Aa}(hv:Y9 (.sl e) [v]):∃l:List U,AU (Ty.size e) (l.map f) v/\l.length<=maxLen/\∀a∈l,Q a:=by
 unfold Y9 at hv;rcases hv with b|⟨AD,b,hl,hr⟩
 .cases b;exact⟨[],.nil,AH,AH⟩
 .cases b;obtain⟨l,rfl,hq⟩:=bF h hr;exact⟨l,.mk,by simpa using hl,hq⟩
def L0{r:List Aa}{k:IntKind}(h:Y9 (.int k) r):∃n,r=[.int k n]/\(Lit.int k n).wf=true:=h
def L1{r:List Aa}(h:Y9 .str r):∃s:Ao,r=[.str s]:=let⟨n,e,_⟩:=h;⟨n,e⟩
def Jz{r:List Aa}(h:Y9 .bool r):∃b,r=[.bool b]:=h
def CN{t:Ty}{ts:List Ty}{l:List Aa}(h:da (t::ts) l):∃a b,l=a++b/\Y9 t a/\da ts b:=h
def PY{l:List Aa}(h:da [] l):l=[]:=h
def T0{e:Ty}{r:List Aa}(h:Y9 (.sl e) r):∃v,r=[v]/\Y9 (.sl e) [v]:=by have h':=h;unfold Y9 at h';rcases h' with rfl|⟨AD,rfl,_⟩<;>exact⟨_,rfl,h⟩
def YK(r:List Aa)(h:Y9 ax r):∃a:A3,r=a.row/\True:=by obtain⟨i,e,rfl,h1,h⟩:=CN h;obtain⟨g,d,rfl,h2,h⟩:=CN h;obtain⟨f,c,rfl,b,h⟩:=CN h;obtain rfl:=PY h;obtain⟨n,rfl,_⟩:=L0 h1;obtain⟨s,rfl⟩:=L1 h2;obtain⟨t,rfl⟩:=L1 b;exact⟨⟨n,s,t⟩,rfl,trivial⟩
def aCY(r:List Aa)(h:Y9 tOp r):∃a:QO,r=a.row/\(-2147483648<=a.q.r/\a.q.r<=2147483647):=by obtain⟨O,F,rfl,h1,h⟩:=CN h;obtain⟨N,E,rfl,h2,h⟩:=CN h;obtain⟨M,D,rfl,b,h⟩:=CN h;obtain⟨L,C,rfl,w,h⟩:=CN h;obtain⟨K,B,rfl,u,h⟩:=CN h;obtain⟨J,A,rfl,t,h⟩:=CN h;obtain⟨I,z,rfl,s,h⟩:=CN h;obtain⟨H,y,rfl,p,h⟩:=CN h;obtain⟨G,x,rfl,o,h⟩:=CN h;obtain rfl:=PY h;obtain⟨k,rfl,_⟩:=L0 h1;obtain⟨e,rfl⟩:=L1 h2;obtain⟨v,rfl,b⟩:=T0 b;obtain⟨l,b,_,_⟩:=j1 YK b;obtain⟨j,rfl,_⟩:=L0 w;obtain⟨i,rfl,_⟩:=L0 u;obtain⟨b6,rfl⟩:=Jz t;obtain⟨d,rfl⟩:=L1 s;obtain⟨g,rfl,c⟩:=L0 p;obtain⟨f,rfl,_⟩:=L0 o;refine⟨⟨⟨k,e,l,j,i,b6,d,g,f⟩,v,b⟩,rfl,?_⟩;have n:IntKind.i32.min= -2147483648:=rfl;have m:IntKind.i32.max=2147483647:=rfl;simp[Lit.wf,n,m] at c;exact c
def uJ{v:Aa}(h:qS j0 v):∃(s:ET) (av:Aa),v= .agg (LZ s av)/\Br s.Az av:=by obtain⟨r,rfl,h⟩:=h;obtain⟨A,q,rfl,h1,h⟩:=CN h;obtain⟨z,p,rfl,h2,h⟩:=CN h;obtain rfl:=PY h;obtain⟨b1,rfl⟩:=Jz h1;obtain⟨y,o,rfl,g,h⟩:=CN h2;obtain⟨x,n,rfl,f,h⟩:=CN h;obtain⟨w,m,rfl,a,h⟩:=CN h;obtain⟨u,k,rfl,e,h⟩:=CN h;obtain⟨t,j,rfl,d,h⟩:=CN h;obtain rfl:=PY h;obtain⟨c,rfl,_⟩:=L0 g;obtain⟨b,rfl⟩:=L1 f;obtain⟨v,rfl,a⟩:=T0 a;obtain⟨l,a,_,_⟩:=j1 YK a;obtain⟨b6,rfl⟩:=Jz e;obtain⟨i,rfl⟩:=Jz d;exact⟨⟨b1,c,b,l,b6,i⟩,v,rfl,a⟩
def v_{v:Aa}(h:qS (.sl tOp) v):∃l:List QO,bB l v/\∀x∈l,-2147483648<=x.q.r/\x.q.r<=2147483647:=by have h:Y9 (.sl tOp) [v]:=h;obtain⟨l,h1,_,h2⟩:=j1 aCY h;exact⟨l,h1,h2⟩
def Fz(l:List A3):Prop:=l.length<=20/\∀x∈l,x.name.length<=400/\x.value.length<=400
instance(l:List A3):Decidable (Fz l):=by unfold Fz;infer_instance
def Fz.NT{l:List A3}(h:Fz l):DU l:=⟨by have:=h.1;omega,λa ha=>by have:=h.2 a ha;omega⟩
section
variable{h:Ah}
def f9{v:Aa}{l:List A3}(hv:Br l v)(h:Ah):BH cx 11 [v] h (.bool (decide (Fz l))) h:=by
 have DC:AU 3 (l.map A3.row) v:=hv;have a:=AU.CL hv;rw[Af,aBO];refine Bf (λn:Nat=>[ff,I (n:Int)]) (λn h1=>n<=l.length/\n<=21/\(∀x∈l.take n,x.name.length<=400/\x.value.length<=400)/\h1=h) (λn=>l.length-n) 0 rfl ⟨AQ _,AQ _,AH,rfl⟩ ?_;rintro n h1 ⟨hn,hb,ha,rfl⟩;rcases AN n l.length with hlt|D6
 .have b:=AU.BJ (k:= .i64) hv hlt;rw[A3.row] at b;have YN:¬(l[n].name.length<=400/\l[n].value.length<=400)->¬Fz l:=λh1 h2=>h1 (h2.2 _ (AL hlt));by_cases NZ:n<=20
  .by_cases c:(400:Int)<(l[n].name.length:Int);.have e:decide (Fz l)=false:=Ay (YN Ab);rw[e];simp only[abS,a,(Ab:(n:Int)<(l.length:Int)),(Ab:(n:Int)<=20),b,c]
   .by_cases d:(400:Int)<(l[n].value.length:Int);.have e:decide (Fz l)=false:=Ay (YN Ab);rw[e];simp only[abS,a,(Ab:(n:Int)<(l.length:Int)),(Ab:(n:Int)<=20),b,c,d]
    .simp only[abS,a,(Ab:(n:Int)<(l.length:Int)),(Ab:(n:Int)<=20),b,c,d,BI (Ab:n<9223372036854775807)];refine AK.next (n+1) rfl ⟨hlt,Ab,λx hx=>?_,rfl⟩ Ab;rw[AB hlt,Ax,DB] at hx;rcases hx with hx|rfl
     .exact ha x hx
     .exact⟨Ab,Ab⟩
  .have e:decide (Fz l)=false:=Ay λh=>by have:=h.1;omega
   rw[e];simp only[abS,a,(Ab:(n:Int)<(l.length:Int)),(Ab:¬(n:Int)<=20),(Ab:¬(l.length:Int)<=20),Dy]
 .rw[AG D6] at ha;have f:decide (Fz l)=decide ((l.length:Int)<=20):=by rw[C5];exact⟨λh=>by have:=h.1;omega,λh=>⟨Ab,ha⟩⟩
  rw[f];simp only[abS,a,(Ab:¬(n:Int)<(l.length:Int))]
def UK(s:ET):Prop:=s.name.length<=60/\Fz s.Az
instance(s:ET):Decidable (UK s):=by unfold UK;infer_instance
def f5(s:ET){av:Aa}(hv:Br s.Az av)(h:Ah):BH cx 10 [.agg [I s.A7,.str s.name,av,.bool s.Cq,.bool s.NJ]] h (.bool (decide (UK s))) h:=by
 have b:=f9 hv h;have WH:av.cells=[av]:=AU.cells hv;rw[Af,aBN];by_cases a:(s.name.length:Int)<=60
 .have e:decide (UK s)=decide (Fz s.Az):=by rw[C5];exact⟨λh=>h.2,λh=>⟨Ab,h⟩⟩
  rw[e];simp only[abS,a,b.Ad]
 .have e:decide (UK s)=false:=Ay λh=>by have:=h.1;omega
  rw[e];simp only[abS,a]
def uK(q:oF):Prop:=q.name.length<=60/\q.s.length<=200/\Fz q.Az
instance(q:oF):Decidable (uK q):=by unfold uK;infer_instance
def uK.ok{q:oF}(h:uK q)(hr: -2147483648<=q.r/\q.r<=2147483647):g_ q:=⟨by have:=h.1;omega,h.2.2.NT,by have:=h.2.1;omega,hr⟩
def NU(l:List QO)(m:Nat):Prop:=l.length<=m/\∀x∈l,uK x.q
instance(l:List QO)(m:Nat):Decidable (NU l m):=by unfold NU;infer_instance
def f4{v:Aa}{l:List QO}(hv:bB l v){m:Nat}(hm:m<=1000)(h:Ah):BH cx 9 [v,I (m:Int)] h (.bool (decide (NU l m))) h:=by
 have a:=AU.CL hv;rw[Af,aE7];refine Bf (λn:Nat=>[ff,I (n:Int)]) (λn h1=>n<=l.length/\n<=m+1/\(∀x∈l.take n,uK x.q)/\h1=h) (λn=>l.length-n) 0 rfl ⟨AQ _,AQ _,AH,rfl⟩ ?_;rintro n h1 ⟨hn,hb,ha,rfl⟩;rcases AN n l.length with hlt|D6
 .have b:=AU.BJ (k:= .i64) hv hlt;have c:=f9 l[n].ok h1;have YN:¬uK l[n].q->¬NU l m:=λh1 h2=>h1 (h2.2 _ (AL hlt));rw[QO.row,LJ] at b;by_cases NZ:n<=m
  .by_cases f:(60:Int)<(l[n].q.name.length:Int);.have e:decide (NU l m)=false:=Ay (YN λh=>by have:=h.1;omega);rw[e];simp only[abS,a,(Ab:(n:Int)<(l.length:Int)),(Ab:(n:Int)<=(m:Int)),b,f]
   .by_cases g:(200:Int)<(l[n].q.s.length:Int);.have e:decide (NU l m)=false:=Ay (YN λh=>by have:=h.2.1;omega);rw[e];simp only[abS,a,(Ab:(n:Int)<(l.length:Int)),(Ab:(n:Int)<=(m:Int)),b,f,g]
    .by_cases d:Fz l[n].q.Az
     .rw[AA d] at c;simp only[abS,a,(Ab:(n:Int)<(l.length:Int)),(Ab:(n:Int)<=(m:Int)),b,f,g,c.Ad,BI (Ab:n<9223372036854775807)];refine AK.next (n+1) rfl ⟨hlt,Ab,λx hx=>?_,rfl⟩ Ab;rw[AB hlt,Ax,DB] at hx;rcases hx with hx|rfl
      .exact ha x hx
      .exact⟨Ab,Ab,d⟩
     .have e:decide (NU l m)=false:=Ay (YN λh=>d h.2.2);rw[Ay d] at c;rw[e];simp only[abS,a,(Ab:(n:Int)<(l.length:Int)),(Ab:(n:Int)<=(m:Int)),b,f,g,c.Ad]
  .have e:decide (NU l m)=false:=Ay λh=>by have:=h.1;omega
   rw[e];simp only[abS,a,(Ab:(n:Int)<(l.length:Int)),(Ab:¬(n:Int)<=(m:Int)),(Ab:¬(l.length:Int)<=(m:Int)),Dy]
 .rw[AG D6] at ha;have i:decide (NU l m)=decide ((l.length:Int)<=(m:Int)):=by rw[C5];exact⟨λh=>by have:=h.1;omega,λh=>⟨Ab,ha⟩⟩
  rw[i];simp only[abS,a,(Ab:¬(n:Int)<(l.length:Int))]
end
end Go.Am
