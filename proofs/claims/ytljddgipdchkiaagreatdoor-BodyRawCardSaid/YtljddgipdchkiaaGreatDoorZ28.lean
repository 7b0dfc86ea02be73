/- Lemmas -/
import Derived.Test.YtljddgipdchkiaaGreatDoorZ27
import Derived.Test.YtljddgipdchkiaaGreatDoorZ7
set_option linter.all false
namespace Go.Am
open Go
set_option maxRecDepth 100000
abbrev wL:Ty:= .st [.int .i64,.str,.str]
abbrev tOp:Ty:= .st [.int .i64,.str,.sl wL,.int .i64,.int .i64,.bool,.str,.int .i32,.int .i64]
abbrev aP5:Ty:= .st [.int .i64,.str,.sl wL,.bool,.bool]
abbrev dK:Ty:= .st [.bool,aP5]
def ZM{U:Type}{P:List Aa->Prop}{f:U->List Aa}{Q:U->Prop}(h:∀r,P r->∃a,r=f a/\Q a):∀{Az:List (List Aa)},(∀r∈Az,P r)->∃l:List U,Az=l.map f/\∀a∈l,Q a
 |[],_=>⟨[],rfl,AK⟩
 |r::Az,hr=>by obtain⟨a,rfl,hq⟩:=h r (hr r AK);obtain⟨l,rfl,hl⟩:=ZM h (Az:=Az) λr h=>hr r (by simp[h]);exact⟨a::l,rfl,by simpa[hq] using hl⟩
def dL{U:Type}{e:Ty}{f:U->List Aa}{Q:U->Prop}(h:∀r,Y5 e r->∃a,r=f a/\Q a){v:Aa}(hv:Y5 (.sl e) [v]):∃l:List U,AV (Ty.size e) (l.map f) v/\l.length<=maxLen/\∀a∈l,Q a:=by
 unfold Y5 at hv;rcases hv with b|⟨Az,b,hl,hr⟩
 .cases b;exact⟨[],.nil,AK,AK⟩
 .cases b;obtain⟨l,rfl,hq⟩:=ZM h hr;exact⟨l,.mk,by simpa using hl,hq⟩
def LU{r:List Aa}{k:IntKind}(h:Y5 (.int k) r):∃n,r=[.int k n]/\(Lit.int k n).wf=true:=h
def LV{r:List Aa}(h:Y5 .str r):∃s:Aq,r=[.str s]:=let⟨n,e,_⟩:=h;⟨n,e⟩
def Kk{r:List Aa}(h:Y5 .bool r):∃b,r=[.bool b]:=h
def CP{t:Ty}{ts:List Ty}{l:List Aa}(h:xW (t::ts) l):∃a b,l=a++b/\Y5 t a/\xW ts b:=h
def PG{l:List Aa}(h:xW [] l):l=[]:=h
def TD{e:Ty}{r:List Aa}(h:Y5 (.sl e) r):∃v,r=[v]/\Y5 (.sl e) [v]:=by have h':=h;unfold Y5 at h';rcases h' with rfl|⟨Az,rfl,_⟩<;>exact⟨_,rfl,h⟩
def XZ(r:List Aa)(h:Y5 wL r):∃a:A6,r=a.row/\True:=by obtain⟨i,e,rfl,h1,h⟩:=CP h;obtain⟨g,d,rfl,h2,h⟩:=CP h;obtain⟨f,c,rfl,b,h⟩:=CP h;obtain rfl:=PG h;obtain⟨n,rfl,_⟩:=LU h1;obtain⟨s,rfl⟩:=LV h2;obtain⟨t,rfl⟩:=LV b;exact⟨⟨n,s,t⟩,rfl,trivial⟩
def aEk(r:List Aa)(h:Y5 tOp r):∃a:QO,r=a.row/\(-2147483648<=a.q.r/\a.q.r<=2147483647):=by obtain⟨O,F,rfl,h1,h⟩:=CP h;obtain⟨N,E,rfl,h2,h⟩:=CP h;obtain⟨M,D,rfl,b,h⟩:=CP h;obtain⟨L,C,rfl,w,h⟩:=CP h;obtain⟨K,B,rfl,u,h⟩:=CP h;obtain⟨J,A,rfl,t,h⟩:=CP h;obtain⟨I,z,rfl,s,h⟩:=CP h;obtain⟨H,y,rfl,p,h⟩:=CP h;obtain⟨G,x,rfl,o,h⟩:=CP h;obtain rfl:=PG h;obtain⟨k,rfl,_⟩:=LU h1;obtain⟨e,rfl⟩:=LV h2;obtain⟨v,rfl,b⟩:=TD b;obtain⟨l,b,_,_⟩:=dL XZ b;obtain⟨j,rfl,_⟩:=LU w;obtain⟨i,rfl,_⟩:=LU u;obtain⟨b6,rfl⟩:=Kk t;obtain⟨d,rfl⟩:=LV s;obtain⟨g,rfl,c⟩:=LU p;obtain⟨f,rfl,_⟩:=LU o;refine⟨⟨⟨k,e,l,j,i,b6,d,g,f⟩,v,b⟩,rfl,?_⟩;have n:IntKind.i32.min= -2147483648:=rfl;have m:IntKind.i32.max=2147483647:=rfl;simp[Lit.wf,n,m] at c;exact c
def oP{v:Aa}(h:lK dK v):∃(s:EY) (av:Aa),v= .agg (Mq s av)/\Bz s.AA av:=by obtain⟨r,rfl,h⟩:=h;obtain⟨A,q,rfl,h1,h⟩:=CP h;obtain⟨z,p,rfl,h2,h⟩:=CP h;obtain rfl:=PG h;obtain⟨b1,rfl⟩:=Kk h1;obtain⟨y,o,rfl,g,h⟩:=CP h2;obtain⟨x,n,rfl,f,h⟩:=CP h;obtain⟨w,m,rfl,a,h⟩:=CP h;obtain⟨u,k,rfl,e,h⟩:=CP h;obtain⟨t,j,rfl,d,h⟩:=CP h;obtain rfl:=PG h;obtain⟨c,rfl,_⟩:=LU g;obtain⟨b,rfl⟩:=LV f;obtain⟨v,rfl,a⟩:=TD a;obtain⟨l,a,_,_⟩:=dL XZ a;obtain⟨b6,rfl⟩:=Kk e;obtain⟨i,rfl⟩:=Kk d;exact⟨⟨b1,c,b,l,b6,i⟩,v,rfl,a⟩
def px{v:Aa}(h:lK (.sl tOp) v):∃l:List QO,ZJ l v/\∀x∈l,-2147483648<=x.q.r/\x.q.r<=2147483647:=by have h:Y5 (.sl tOp) [v]:=h;obtain⟨l,h1,_,h2⟩:=dL aEk h;exact⟨l,h1,h2⟩
def Fz(l:List A6):Prop:=l.length<=20/\∀x∈l,x.name.length<=400/\x.value.length<=400
instance(l:List A6):Decidable (Fz l):=by unfold Fz;infer_instance
def Fz.QI{l:List A6}(h:Fz l):D1 l:=⟨by have:=h.1;omega,λa ha=>by have:=h.2 a ha;omega⟩
section
variable{h:Ah}
def f9{v:Aa}{l:List A6}(hv:Bz l v)(h:Ah):BZ cx 11 [v] h (.bool (decide (Fz l))) h:=by
 have DG:AV 3 (l.map A6.row) v:=hv;have a:=AV.CN hv;rw[Af,aBa,t11];refine Bj (λn:Nat=>[ff,I (n:Int)]) (λn h1=>n<=l.length/\n<=21/\(∀x∈l.take n,x.name.length<=400/\x.value.length<=400)/\h1=h) (λn=>l.length-n) 0 rfl ⟨AU _,AU _,AK,rfl⟩ ?_;rintro n h1 ⟨hn,hb,ha,rfl⟩;rcases AO n l.length with hlt|Ef
 .have b:=AV.BN (k:= .i64) hv hlt;rw[A6.row] at b;have X4:¬(l[n].name.length<=400/\l[n].value.length<=400)->¬Fz l:=λh1 h2=>h1 (h2.2 _ (AN hlt));by_cases NT:n<=20
  .by_cases c:(400:Int)<(l[n].name.length:Int);.have e:decide (Fz l)=false:=AG (X4 Ab);rw[e];simp only[abS,a,(Ab:(n:Int)<(l.length:Int)),(Ab:(n:Int)<=20),b,c]
   .by_cases d:(400:Int)<(l[n].value.length:Int);.have e:decide (Fz l)=false:=AG (X4 Ab);rw[e];simp only[abS,a,(Ab:(n:Int)<(l.length:Int)),(Ab:(n:Int)<=20),b,c,d]
    .simp only[abS,a,(Ab:(n:Int)<(l.length:Int)),(Ab:(n:Int)<=20),b,c,d,BQ (Ab:n<9223372036854775807)];refine AM.next (n+1) rfl ⟨hlt,Ab,λx hx=>?_,rfl⟩ Ab;rw[Ay hlt,Av,DA] at hx;rcases hx with hx|rfl
     .exact ha x hx
     .exact⟨Ab,Ab⟩
  .have e:decide (Fz l)=false:=AG λh=>by have:=h.1;omega
   rw[e];simp only[abS,a,(Ab:(n:Int)<(l.length:Int)),(Ab:¬(n:Int)<=20),(Ab:¬(l.length:Int)<=20),Ec]
 .rw[AD Ef] at ha;have f:decide (Fz l)=decide ((l.length:Int)<=20):=by rw[Dv];exact⟨λh=>by have:=h.1;omega,λh=>⟨Ab,ha⟩⟩
  rw[f];simp only[abS,a,(Ab:¬(n:Int)<(l.length:Int))]
def Us(s:EY):Prop:=s.name.length<=60/\Fz s.AA
instance(s:EY):Decidable (Us s):=by unfold Us;infer_instance
def f5(s:EY){av:Aa}(hv:Bz s.AA av)(h:Ah):BZ cx 10 [.agg [I s.A9,.str s.name,av,.bool s.CI,.bool s.NF]] h (.bool (decide (Us s))) h:=by
 have b:=f9 hv h;have X2:av.cells=[av]:=AV.cells hv;rw[Af,aA9,t10];by_cases a:(s.name.length:Int)<=60
 .have e:decide (Us s)=decide (Fz s.AA):=by rw[Dv];exact⟨λh=>h.2,λh=>⟨Ab,h⟩⟩
  rw[e];simp only[abS,a,b.Ad]
 .have e:decide (Us s)=false:=AG λh=>by have:=h.1;omega
  rw[e];simp only[abS,a]
def oQ(q:jB):Prop:=q.name.length<=60/\q.s.length<=200/\Fz q.AA
instance(q:jB):Decidable (oQ q):=by unfold oQ;infer_instance
def oQ.ok{q:jB}(h:oQ q)(hr: -2147483648<=q.r/\q.r<=2147483647):zZ q:=⟨by have:=h.1;omega,h.2.2.QI,by have:=h.2.1;omega,hr⟩
def NP(l:List QO)(m:Nat):Prop:=l.length<=m/\∀x∈l,oQ x.q
instance(l:List QO)(m:Nat):Decidable (NP l m):=by unfold NP;infer_instance
def f4{v:Aa}{l:List QO}(hv:ZJ l v){m:Nat}(hm:m<=1000)(h:Ah):BZ cx 9 [v,I (m:Int)] h (.bool (decide (NP l m))) h:=by
 have a:=AV.CN hv;rw[Af,aGl,t9];refine Bj (λn:Nat=>[ff,I (n:Int)]) (λn h1=>n<=l.length/\n<=m+1/\(∀x∈l.take n,oQ x.q)/\h1=h) (λn=>l.length-n) 0 rfl ⟨AU _,AU _,AK,rfl⟩ ?_;rintro n h1 ⟨hn,hb,ha,rfl⟩;rcases AO n l.length with hlt|Ef
 .have b:=AV.BN (k:= .i64) hv hlt;have c:=f9 l[n].ok h1;have X4:¬oQ l[n].q->¬NP l m:=λh1 h2=>h1 (h2.2 _ (AN hlt));rw[QO.row,LC] at b;by_cases NT:n<=m
  .by_cases f:(60:Int)<(l[n].q.name.length:Int);.have e:decide (NP l m)=false:=AG (X4 λh=>by have:=h.1;omega);rw[e];simp only[abS,a,(Ab:(n:Int)<(l.length:Int)),(Ab:(n:Int)<=(m:Int)),b,f]
   .by_cases g:(200:Int)<(l[n].q.s.length:Int);.have e:decide (NP l m)=false:=AG (X4 λh=>by have:=h.2.1;omega);rw[e];simp only[abS,a,(Ab:(n:Int)<(l.length:Int)),(Ab:(n:Int)<=(m:Int)),b,f,g]
    .by_cases d:Fz l[n].q.AA
     .rw[AI d] at c;simp only[abS,a,(Ab:(n:Int)<(l.length:Int)),(Ab:(n:Int)<=(m:Int)),b,f,g,c.Ad,BQ (Ab:n<9223372036854775807)];refine AM.next (n+1) rfl ⟨hlt,Ab,λx hx=>?_,rfl⟩ Ab;rw[Ay hlt,Av,DA] at hx;rcases hx with hx|rfl
      .exact ha x hx
      .exact⟨Ab,Ab,d⟩
     .have e:decide (NP l m)=false:=AG (X4 λh=>d h.2.2);rw[AG d] at c;rw[e];simp only[abS,a,(Ab:(n:Int)<(l.length:Int)),(Ab:(n:Int)<=(m:Int)),b,f,g,c.Ad]
  .have e:decide (NP l m)=false:=AG λh=>by have:=h.1;omega
   rw[e];simp only[abS,a,(Ab:(n:Int)<(l.length:Int)),(Ab:¬(n:Int)<=(m:Int)),(Ab:¬(l.length:Int)<=(m:Int)),Ec]
 .rw[AD Ef] at ha;have i:decide (NP l m)=decide ((l.length:Int)<=(m:Int)):=by rw[Dv];exact⟨λh=>by have:=h.1;omega,λh=>⟨Ab,ha⟩⟩
  rw[i];simp only[abS,a,(Ab:¬(n:Int)<(l.length:Int))]
end
end Go.Am
