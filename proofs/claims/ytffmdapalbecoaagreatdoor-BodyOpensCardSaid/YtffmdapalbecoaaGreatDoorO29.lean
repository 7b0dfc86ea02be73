/- Lemmas -/
import Derived.Test.YtffmdapalbecoaaGreatDoorO28
import Derived.Test.YtffmdapalbecoaaGreatDoorO7
set_option linter.all false
namespace Go.Am
open Go
set_option maxRecDepth 100000
abbrev UA:Ty:= .st [.int .i64,.str,.str]
abbrev tOp:Ty:= .st [.int .i64,.str,.sl UA,.int .i64,.int .i64,.bool,.str,.int .i32,.int .i64]
abbrev aQR:Ty:= .st [.int .i64,.str,.sl UA,.bool,.bool]
abbrev pE:Ty:= .st [.bool,aQR]
def fW{U:Type}{P:List Aa->Prop}{f:U->List Aa}{Q:U->Prop}(h:∀r,P r->∃a,r=f a/\Q a):∀{AD:List (List Aa)},(∀r∈AD,P r)->∃l:List U,AD=l.map f/\∀a∈l,Q a
 |[],_=>⟨[],rfl,AH⟩
 |r::AD,hr=>by obtain⟨a,rfl,hq⟩:=h r (hr r AH);obtain⟨l,rfl,hl⟩:=fW h (AD:=AD) λr h=>hr r (by simp[h]);exact⟨a::l,rfl,by simpa[hq] using hl⟩
def pF{U:Type}{e:Ty}{f:U->List Aa}{Q:U->Prop}(h:∀r,cC e r->∃a,r=f a/\Q a){v:Aa}(hv:cC (.sl e) [v]):∃l:List U,AX (Ty.size e) (l.map f) v/\l.length<=maxLen/\∀a∈l,Q a:=by
 unfold cC at hv;rcases hv with b|⟨AD,b,hl,hr⟩
 .cases b;exact⟨[],.nil,AH,AH⟩
 .cases b;obtain⟨l,rfl,hq⟩:=fW h hr;exact⟨l,.mk,by simpa using hl,hq⟩
def Px{r:List Aa}{k:IntKind}(h:cC (.int k) r):∃n,r=[.int k n]/\(Lit.int k n).wf=true:=h
def RJ{r:List Aa}(h:cC .str r):∃s:Ai,r=[.str s]:=let⟨n,e,_⟩:=h;⟨n,e⟩
def Q5{r:List Aa}(h:cC .bool r):∃b,r=[.bool b]:=h
def Eo{t:Ty}{ts:List Ty}{l:List Aa}(h:qk (t::ts) l):∃a b,l=a++b/\cC t a/\qk ts b:=h
def UB{l:List Aa}(h:qk [] l):l=[]:=h
def fX{e:Ty}{r:List Aa}(h:cC (.sl e) r):∃v,r=[v]/\cC (.sl e) [v]:=by have h':=h;unfold cC at h';rcases h' with rfl|⟨AD,rfl,_⟩<;>exact⟨_,rfl,h⟩
def aY(r:List Aa)(h:cC UA r):∃a:A9,r=a.row/\True:=by obtain⟨i,e,rfl,h1,h⟩:=Eo h;obtain⟨g,d,rfl,h2,h⟩:=Eo h;obtain⟨f,c,rfl,b,h⟩:=Eo h;obtain rfl:=UB h;obtain⟨n,rfl,_⟩:=Px h1;obtain⟨s,rfl⟩:=RJ h2;obtain⟨t,rfl⟩:=RJ b;exact⟨⟨n,s,t⟩,rfl,trivial⟩
def aG2(r:List Aa)(h:cC tOp r):∃a:QO,r=a.row/\(-2147483648<=a.q.r/\a.q.r<=2147483647):=by obtain⟨O,F,rfl,h1,h⟩:=Eo h;obtain⟨N,E,rfl,h2,h⟩:=Eo h;obtain⟨M,D,rfl,b,h⟩:=Eo h;obtain⟨L,C,rfl,w,h⟩:=Eo h;obtain⟨K,B,rfl,u,h⟩:=Eo h;obtain⟨J,A,rfl,t,h⟩:=Eo h;obtain⟨I,z,rfl,s,h⟩:=Eo h;obtain⟨H,y,rfl,p,h⟩:=Eo h;obtain⟨G,x,rfl,o,h⟩:=Eo h;obtain rfl:=UB h;obtain⟨k,rfl,_⟩:=Px h1;obtain⟨e,rfl⟩:=RJ h2;obtain⟨v,rfl,b⟩:=fX b;obtain⟨l,b,_,_⟩:=pF aY b;obtain⟨j,rfl,_⟩:=Px w;obtain⟨i,rfl,_⟩:=Px u;obtain⟨b6,rfl⟩:=Q5 t;obtain⟨d,rfl⟩:=RJ s;obtain⟨g,rfl,c⟩:=Px p;obtain⟨f,rfl,_⟩:=Px o;refine⟨⟨⟨k,e,l,j,i,b6,d,g,f⟩,v,b⟩,rfl,?_⟩;have n:IntKind.i32.min= -2147483648:=rfl;have m:IntKind.i32.max=2147483647:=rfl;simp[Lit.wf,n,m] at c;exact c
def bn{v:Aa}(h:xJ pE v):∃(s:Fg) (av:Aa),v= .agg (Nc s av)/\AL s.Aj av:=by obtain⟨r,rfl,h⟩:=h;obtain⟨A,q,rfl,h1,h⟩:=Eo h;obtain⟨z,p,rfl,h2,h⟩:=Eo h;obtain rfl:=UB h;obtain⟨b1,rfl⟩:=Q5 h1;obtain⟨y,o,rfl,g,h⟩:=Eo h2;obtain⟨x,n,rfl,f,h⟩:=Eo h;obtain⟨w,m,rfl,a,h⟩:=Eo h;obtain⟨u,k,rfl,e,h⟩:=Eo h;obtain⟨t,j,rfl,d,h⟩:=Eo h;obtain rfl:=UB h;obtain⟨c,rfl,_⟩:=Px g;obtain⟨b,rfl⟩:=RJ f;obtain⟨v,rfl,a⟩:=fX a;obtain⟨l,a,_,_⟩:=pF aY a;obtain⟨b6,rfl⟩:=Q5 e;obtain⟨i,rfl⟩:=Q5 d;exact⟨⟨b1,c,b,l,b6,i⟩,v,rfl,a⟩
def ė{v:Aa}(h:xJ (.sl tOp) v):∃l:List QO,fS l v/\∀x∈l,-2147483648<=x.q.r/\x.q.r<=2147483647:=by have h:cC (.sl tOp) [v]:=h;obtain⟨l,h1,_,h2⟩:=pF aG2 h;exact⟨l,h1,h2⟩
def FV(l:List A9):Prop:=l.length<=20/\∀x∈l,x.name.length<=400/\x.value.length<=400
instance(l:List A9):Decidable (FV l):=by unfold FV;infer_instance
def FV.Ss{l:List A9}(h:FV l):DV l:=⟨by have:=h.1;omega,λa ha=>by have:=h.2 a ha;omega⟩
section
variable{h:Ah}
def f9{v:Aa}{l:List A9}(hv:AL l v)(h:Ah):BK cx 10 [v] h (.bool (decide (FV l))) h:=by
 have DR:AX 3 (l.map A9.row) v:=hv;have a:=AX.CK hv;rw[Ad,aFC];refine Bj (λn:Nat=>[ff,I (n:Int)]) (λn h1=>n<=l.length/\n<=21/\(∀x∈l.take n,x.name.length<=400/\x.value.length<=400)/\h1=h) (λn=>l.length-n) 0 rfl ⟨AV _,AV _,AH,rfl⟩ ?_;rintro n h1 ⟨hn,hb,ha,rfl⟩;rcases AP n l.length with hlt|Et
 .have b:=AX.BG (k:= .i64) hv hlt;rw[A9.row] at b;have Xy:¬(l[n].name.length<=400/\l[n].value.length<=400)->¬FV l:=λh1 h2=>h1 (h2.2 _ (AN hlt));by_cases PL:n<=20
  .by_cases c:(400:Int)<(l[n].name.length:Int);.have e:decide (FV l)=false:=Al (Xy Ab);rw[e];simp only[abS,a,(Ab:(n:Int)<(l.length:Int)),(Ab:(n:Int)<=20),b,c]
   .by_cases d:(400:Int)<(l[n].value.length:Int);.have e:decide (FV l)=false:=Al (Xy Ab);rw[e];simp only[abS,a,(Ab:(n:Int)<(l.length:Int)),(Ab:(n:Int)<=20),b,c,d]
    .simp only[abS,a,(Ab:(n:Int)<(l.length:Int)),(Ab:(n:Int)<=20),b,c,d,By n];refine AJ.next (n+1) rfl ⟨hlt,Ab,λx hx=>?_,rfl⟩ Ab;rw[AB hlt,Ay,AM] at hx;rcases hx with hx|rfl
     .exact ha x hx
     .exact⟨Ab,Ab⟩
  .have e:decide (FV l)=false:=Al λh=>by have:=h.1;omega
   rw[e];simp only[abS,a,(Ab:(n:Int)<(l.length:Int)),(Ab:¬(n:Int)<=20),(Ab:¬(l.length:Int)<=20),DX]
 .rw[AF Et] at ha;have f:decide (FV l)=decide ((l.length:Int)<=20):=by rw[Ds];exact⟨λh=>by have:=h.1;omega,λh=>⟨Ab,ha⟩⟩
  rw[f];simp only[abS,a,(Ab:¬(n:Int)<(l.length:Int))]
def WI(s:Fg):Prop:=s.name.length<=60/\FV s.Aj
instance(s:Fg):Decidable (WI s):=by unfold WI;infer_instance
def f5(s:Fg){av:Aa}(hv:AL s.Aj av)(h:Ah):BK cx 9 [.agg [I s.A7,.str s.name,av,.bool s.Cs,.bool s.KP]] h (.bool (decide (WI s))) h:=by
 have b:=f9 hv h;have bJ:av.cells=[av]:=AX.cells hv;rw[Ad,aJi];by_cases a:(s.name.length:Int)<=60
 .have e:decide (WI s)=decide (FV s.Aj):=by rw[Ds];exact⟨λh=>h.2,λh=>⟨Ab,h⟩⟩
  rw[e];simp only[abS,a,b]
 .have e:decide (WI s)=false:=Al λh=>by have:=h.1;omega
  rw[e];simp only[abS,a]
def bo(q:uF):Prop:=q.name.length<=60/\q.s.length<=200/\FV q.Aj
instance(q:uF):Decidable (bo q):=by unfold bo;infer_instance
def bo.ok{q:uF}(h:bo q)(hr: -2147483648<=q.r/\q.r<=2147483647):ug q:=⟨by have:=h.1;omega,h.2.2.Ss,by have:=h.2.1;omega,hr⟩
def ON(l:List QO)(m:Nat):Prop:=l.length<=m/\∀x∈l,bo x.q
instance(l:List QO)(m:Nat):Decidable (ON l m):=by unfold ON;infer_instance
def f4{v:Aa}{l:List QO}(hv:fS l v){m:Nat}(hm:m<=1000)(h:Ah):BK cx 8 [v,I (m:Int)] h (.bool (decide (ON l m))) h:=by
 have a:=AX.CK hv;rw[Ad,aJh];refine Bj (λn:Nat=>[ff,I (n:Int)]) (λn h1=>n<=l.length/\n<=m+1/\(∀x∈l.take n,bo x.q)/\h1=h) (λn=>l.length-n) 0 rfl ⟨AV _,AV _,AH,rfl⟩ ?_;rintro n h1 ⟨hn,hb,ha,rfl⟩;rcases AP n l.length with hlt|Et
 .have b:=AX.BG (k:= .i64) hv hlt;have c:=f9 l[n].ok h1;have Xy:¬bo l[n].q->¬ON l m:=λh1 h2=>h1 (h2.2 _ (AN hlt));rw[QO.row,Mk] at b;by_cases PL:n<=m
  .by_cases f:(60:Int)<(l[n].q.name.length:Int);.have e:decide (ON l m)=false:=Al (Xy λh=>by have:=h.1;omega);rw[e];simp only[abS,a,(Ab:(n:Int)<(l.length:Int)),(Ab:(n:Int)<=(m:Int)),b,f]
   .by_cases g:(200:Int)<(l[n].q.s.length:Int);.have e:decide (ON l m)=false:=Al (Xy λh=>by have:=h.2.1;omega);rw[e];simp only[abS,a,(Ab:(n:Int)<(l.length:Int)),(Ab:(n:Int)<=(m:Int)),b,f,g]
    .by_cases d:FV l[n].q.Aj
     .rw[As d] at c;simp only[abS,a,(Ab:(n:Int)<(l.length:Int)),(Ab:(n:Int)<=(m:Int)),b,f,g,c,By n];refine AJ.next (n+1) rfl ⟨hlt,Ab,λx hx=>?_,rfl⟩ Ab;rw[AB hlt,Ay,AM] at hx;rcases hx with hx|rfl
      .exact ha x hx
      .exact⟨Ab,Ab,d⟩
     .have e:decide (ON l m)=false:=Al (Xy λh=>d h.2.2);rw[Al d] at c;rw[e];simp only[abS,a,(Ab:(n:Int)<(l.length:Int)),(Ab:(n:Int)<=(m:Int)),b,f,g,c]
  .have e:decide (ON l m)=false:=Al λh=>by have:=h.1;omega
   rw[e];simp only[abS,a,(Ab:(n:Int)<(l.length:Int)),(Ab:¬(n:Int)<=(m:Int)),(Ab:¬(l.length:Int)<=(m:Int)),DX]
 .rw[AF Et] at ha;have i:decide (ON l m)=decide ((l.length:Int)<=(m:Int)):=by rw[Ds];exact⟨λh=>by have:=h.1;omega,λh=>⟨Ab,ha⟩⟩
  rw[i];simp only[abS,a,(Ab:¬(n:Int)<(l.length:Int))]
end
end Go.Am
