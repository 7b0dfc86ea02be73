/- Lemmas -/
import Derived.Test.YtlcmmpgfafpoiaaGreatDoorT28
import Derived.Test.YtlcmmpgfafpoiaaGreatDoorT7
set_option linter.all false
namespace Go.Am
open Go
set_option maxRecDepth 100000
abbrev dx:Ty:= .st [.int .i64,.str,.str]
abbrev tOp:Ty:= .st [.int .i64,.str,.sl dx,.int .i64,.int .i64,.bool,.str,.int .i32,.int .i64]
abbrev aNX:Ty:= .st [.int .i64,.str,.sl dx,.bool,.bool]
abbrev kY:Ty:= .st [.bool,aNX]
def cK{U:Type}{P:List Aa->Prop}{f:U->List Aa}{Q:U->Prop}(h:∀r,P r->∃a,r=f a/\Q a):∀{AD:List (List Aa)},(∀r∈AD,P r)->∃l:List U,AD=l.map f/\∀a∈l,Q a
 |[],_=>⟨[],rfl,AH⟩
 |r::AD,hr=>by obtain⟨a,rfl,hq⟩:=h r (hr r AH);obtain⟨l,rfl,hl⟩:=cK h (AD:=AD) λr h=>hr r (by simp[h]);exact⟨a::l,rfl,by simpa[hq] using hl⟩
def kZ{U:Type}{e:Ty}{f:U->List Aa}{Q:U->Prop}(h:∀r,aN e r->∃a,r=f a/\Q a){v:Aa}(hv:aN (.sl e) [v]):∃l:List U,AV (Ty.size e) (l.map f) v/\l.length<=maxLen/\∀a∈l,Q a:=by
 unfold aN at hv;rcases hv with b|⟨AD,b,hl,hr⟩
 .cases b;exact⟨[],.nil,AH,AH⟩
 .cases b;obtain⟨l,rfl,hq⟩:=cK h hr;exact⟨l,.mk,by simpa using hl,hq⟩
def Ma{r:List Aa}{k:IntKind}(h:aN (.int k) r):∃n,r=[.int k n]/\(Lit.int k n).wf=true:=h
def Mb{r:List Aa}(h:aN .str r):∃s:An,r=[.str s]:=let⟨n,e,_⟩:=h;⟨n,e⟩
def Kx{r:List Aa}(h:aN .bool r):∃b,r=[.bool b]:=h
def CS{t:Ty}{ts:List Ty}{l:List Aa}(h:g_ (t::ts) l):∃a b,l=a++b/\aN t a/\g_ ts b:=h
def P8{l:List Aa}(h:g_ [] l):l=[]:=h
def Uk{e:Ty}{r:List Aa}(h:aN (.sl e) r):∃v,r=[v]/\aN (.sl e) [v]:=by have h':=h;unfold aN at h';rcases h' with rfl|⟨AD,rfl,_⟩<;>exact⟨_,rfl,h⟩
def Y9(r:List Aa)(h:aN dx r):∃a:A6,r=a.row/\True:=by obtain⟨i,e,rfl,h1,h⟩:=CS h;obtain⟨g,d,rfl,h2,h⟩:=CS h;obtain⟨f,c,rfl,b,h⟩:=CS h;obtain rfl:=P8 h;obtain⟨n,rfl,_⟩:=Ma h1;obtain⟨s,rfl⟩:=Mb h2;obtain⟨t,rfl⟩:=Mb b;exact⟨⟨n,s,t⟩,rfl,trivial⟩
def aEj(r:List Aa)(h:aN tOp r):∃a:QO,r=a.row/\(-2147483648<=a.q.r/\a.q.r<=2147483647):=by obtain⟨O,F,rfl,h1,h⟩:=CS h;obtain⟨N,E,rfl,h2,h⟩:=CS h;obtain⟨M,D,rfl,b,h⟩:=CS h;obtain⟨L,C,rfl,w,h⟩:=CS h;obtain⟨K,B,rfl,u,h⟩:=CS h;obtain⟨J,A,rfl,t,h⟩:=CS h;obtain⟨I,z,rfl,s,h⟩:=CS h;obtain⟨H,y,rfl,p,h⟩:=CS h;obtain⟨G,x,rfl,o,h⟩:=CS h;obtain rfl:=P8 h;obtain⟨k,rfl,_⟩:=Ma h1;obtain⟨e,rfl⟩:=Mb h2;obtain⟨v,rfl,b⟩:=Uk b;obtain⟨l,b,_,_⟩:=kZ Y9 b;obtain⟨j,rfl,_⟩:=Ma w;obtain⟨i,rfl,_⟩:=Ma u;obtain⟨b6,rfl⟩:=Kx t;obtain⟨d,rfl⟩:=Mb s;obtain⟨g,rfl,c⟩:=Ma p;obtain⟨f,rfl,_⟩:=Ma o;refine⟨⟨⟨k,e,l,j,i,b6,d,g,f⟩,v,b⟩,rfl,?_⟩;have n:IntKind.i32.min= -2147483648:=rfl;have m:IntKind.i32.max=2147483647:=rfl;simp[Lit.wf,n,m] at c;exact c
def vS{v:Aa}(h:sE kY v):∃(s:EX) (av:Aa),v= .agg (MC s av)/\Bq s.Az av:=by obtain⟨r,rfl,h⟩:=h;obtain⟨A,q,rfl,h1,h⟩:=CS h;obtain⟨z,p,rfl,h2,h⟩:=CS h;obtain rfl:=P8 h;obtain⟨b1,rfl⟩:=Kx h1;obtain⟨y,o,rfl,g,h⟩:=CS h2;obtain⟨x,n,rfl,f,h⟩:=CS h;obtain⟨w,m,rfl,a,h⟩:=CS h;obtain⟨u,k,rfl,e,h⟩:=CS h;obtain⟨t,j,rfl,d,h⟩:=CS h;obtain rfl:=P8 h;obtain⟨c,rfl,_⟩:=Ma g;obtain⟨b,rfl⟩:=Mb f;obtain⟨v,rfl,a⟩:=Uk a;obtain⟨l,a,_,_⟩:=kZ Y9 a;obtain⟨b6,rfl⟩:=Kx e;obtain⟨i,rfl⟩:=Kx d;exact⟨⟨b1,c,b,l,b6,i⟩,v,rfl,a⟩
def zk{v:Aa}(h:sE (.sl tOp) v):∃l:List QO,cC l v/\∀x∈l,-2147483648<=x.q.r/\x.q.r<=2147483647:=by have h:aN (.sl tOp) [v]:=h;obtain⟨l,h1,_,h2⟩:=kZ aEj h;exact⟨l,h1,h2⟩
def FC(l:List A6):Prop:=l.length<=20/\∀x∈l,x.name.length<=400/\x.value.length<=400
instance(l:List A6):Decidable (FC l):=by unfold FC;infer_instance
def FC.Re{l:List A6}(h:FC l):DP l:=⟨by have:=h.1;omega,λa ha=>by have:=h.2 a ha;omega⟩
section
variable{h:Ah}
def f9{v:Aa}{l:List A6}(hv:Bq l v)(h:Ah):BK cx 11 [v] h (.bool (decide (FC l))) h:=by
 have DL:AV 3 (l.map A6.row) v:=hv;have a:=AV.CN hv;rw[Ae,aC3];refine Bl (λn:Nat=>[ff,I (n:Int)]) (λn h1=>n<=l.length/\n<=21/\(∀x∈l.take n,x.name.length<=400/\x.value.length<=400)/\h1=h) (λn=>l.length-n) 0 rfl ⟨AZ _,AZ _,AH,rfl⟩ ?_;rintro n h1 ⟨hn,hb,ha,rfl⟩;rcases AQ n l.length with hlt|Ei
 .have b:=AV.BM (k:= .i64) hv hlt;rw[A6.row] at b;have Zj:¬(l[n].name.length<=400/\l[n].value.length<=400)->¬FC l:=λh1 h2=>h1 (h2.2 _ (AN hlt));by_cases Ob:n<=20
  .by_cases c:(400:Int)<(l[n].name.length:Int);.have e:decide (FC l)=false:=Aq (Zj Ab);rw[e];simp only[abS,a,(Ab:(n:Int)<(l.length:Int)),(Ab:(n:Int)<=20),b,c]
   .by_cases d:(400:Int)<(l[n].value.length:Int);.have e:decide (FC l)=false:=Aq (Zj Ab);rw[e];simp only[abS,a,(Ab:(n:Int)<(l.length:Int)),(Ab:(n:Int)<=20),b,c,d]
    .simp only[abS,a,(Ab:(n:Int)<(l.length:Int)),(Ab:(n:Int)<=20),b,c,d,BO (Ab:n<9223372036854775807)];refine AL.next (n+1) rfl ⟨hlt,Ab,λx hx=>?_,rfl⟩ Ab;rw[AE hlt,Ax,Dt] at hx;rcases hx with hx|rfl
     .exact ha x hx
     .exact⟨Ab,Ab⟩
  .have e:decide (FC l)=false:=Aq λh=>by have:=h.1;omega
   rw[e];simp only[abS,a,(Ab:(n:Int)<(l.length:Int)),(Ab:¬(n:Int)<=20),(Ab:¬(l.length:Int)<=20),DH]
 .rw[AF Ei] at ha;have f:decide (FC l)=decide ((l.length:Int)<=20):=by rw[Db];exact⟨λh=>by have:=h.1;omega,λh=>⟨Ab,ha⟩⟩
  rw[f];simp only[abS,a,(Ab:¬(n:Int)<(l.length:Int))]
def Vj(s:EX):Prop:=s.name.length<=60/\FC s.Az
instance(s:EX):Decidable (Vj s):=by unfold Vj;infer_instance
def f5(s:EX){av:Aa}(hv:Bq s.Az av)(h:Ah):BK cx 10 [.agg [I s.Bc,.str s.name,av,.bool s.CH,.bool s.MT]] h (.bool (decide (Vj s))) h:=by
 have b:=f9 hv h;have Zh:av.cells=[av]:=AV.cells hv;rw[Ae,aC2];by_cases a:(s.name.length:Int)<=60
 .have e:decide (Vj s)=decide (FC s.Az):=by rw[Db];exact⟨λh=>h.2,λh=>⟨Ab,h⟩⟩
  rw[e];simp only[abS,a,b.Ac]
 .have e:decide (Vj s)=false:=Aq λh=>by have:=h.1;omega
  rw[e];simp only[abS,a]
def vT(q:pP):Prop:=q.name.length<=60/\q.s.length<=200/\FC q.Az
instance(q:pP):Decidable (vT q):=by unfold vT;infer_instance
def vT.ok{q:pP}(h:vT q)(hr: -2147483648<=q.r/\q.r<=2147483647):lp q:=⟨by have:=h.1;omega,h.2.2.Re,by have:=h.2.1;omega,hr⟩
def N6(l:List QO)(m:Nat):Prop:=l.length<=m/\∀x∈l,vT x.q
instance(l:List QO)(m:Nat):Decidable (N6 l m):=by unfold N6;infer_instance
def f4{v:Aa}{l:List QO}(hv:cC l v){m:Nat}(hm:m<=1000)(h:Ah):BK cx 9 [v,I (m:Int)] h (.bool (decide (N6 l m))) h:=by
 have a:=AV.CN hv;rw[Ae,aGu];refine Bl (λn:Nat=>[ff,I (n:Int)]) (λn h1=>n<=l.length/\n<=m+1/\(∀x∈l.take n,vT x.q)/\h1=h) (λn=>l.length-n) 0 rfl ⟨AZ _,AZ _,AH,rfl⟩ ?_;rintro n h1 ⟨hn,hb,ha,rfl⟩;rcases AQ n l.length with hlt|Ei
 .have b:=AV.BM (k:= .i64) hv hlt;have c:=f9 l[n].ok h1;have Zj:¬vT l[n].q->¬N6 l m:=λh1 h2=>h1 (h2.2 _ (AN hlt));rw[QO.row,LS] at b;by_cases Ob:n<=m
  .by_cases f:(60:Int)<(l[n].q.name.length:Int);.have e:decide (N6 l m)=false:=Aq (Zj λh=>by have:=h.1;omega);rw[e];simp only[abS,a,(Ab:(n:Int)<(l.length:Int)),(Ab:(n:Int)<=(m:Int)),b,f]
   .by_cases g:(200:Int)<(l[n].q.s.length:Int);.have e:decide (N6 l m)=false:=Aq (Zj λh=>by have:=h.2.1;omega);rw[e];simp only[abS,a,(Ab:(n:Int)<(l.length:Int)),(Ab:(n:Int)<=(m:Int)),b,f,g]
    .by_cases d:FC l[n].q.Az
     .rw[As d] at c;simp only[abS,a,(Ab:(n:Int)<(l.length:Int)),(Ab:(n:Int)<=(m:Int)),b,f,g,c.Ac,BO (Ab:n<9223372036854775807)];refine AL.next (n+1) rfl ⟨hlt,Ab,λx hx=>?_,rfl⟩ Ab;rw[AE hlt,Ax,Dt] at hx;rcases hx with hx|rfl
      .exact ha x hx
      .exact⟨Ab,Ab,d⟩
     .have e:decide (N6 l m)=false:=Aq (Zj λh=>d h.2.2);rw[Aq d] at c;rw[e];simp only[abS,a,(Ab:(n:Int)<(l.length:Int)),(Ab:(n:Int)<=(m:Int)),b,f,g,c.Ac]
  .have e:decide (N6 l m)=false:=Aq λh=>by have:=h.1;omega
   rw[e];simp only[abS,a,(Ab:(n:Int)<(l.length:Int)),(Ab:¬(n:Int)<=(m:Int)),(Ab:¬(l.length:Int)<=(m:Int)),DH]
 .rw[AF Ei] at ha;have i:decide (N6 l m)=decide ((l.length:Int)<=(m:Int)):=by rw[Db];exact⟨λh=>by have:=h.1;omega,λh=>⟨Ab,ha⟩⟩
  rw[i];simp only[abS,a,(Ab:¬(n:Int)<(l.length:Int))]
end
end Go.Am
