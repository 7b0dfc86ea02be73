/- Lemmas -/
import Derived.Test.YtdbnpiefklklhaaGreatDoorH26
import Derived.Test.YtdbnpiefklklhaaGreatDoorH7
set_option linter.all false
set_option maxRecDepth 100000
section
namespace Go.Am
open Go
abbrev UC:Ty:= .st [.int .i64,.str,.str]
abbrev ò:Ty:= .st [.int .i64,.str,.sl UC,.int .i64,.int .i64,.bool,.str,.int .i32,.int .i64]
abbrev aLW:Ty:= .st [.int .i64,.str,.sl UC,.bool,.bool]
abbrev Rm:Ty:= .st [.bool,aLW]
def ZQ{U:Type}{P:List Aa->Prop}{f:U->List Aa}{Q:U->Prop}(h:∀r,P r->∃a,r=f a/\Q a):∀{Aw:List (List Aa)},(∀r∈Aw,P r)->∃l:List U,Aw=l.map f/\∀a∈l,Q a
 |[],_=>⟨[],rfl,Ax⟩
 |r::Aw,hr=>by obtain⟨a,rfl,hq⟩:=h r (hr r Ax);obtain⟨l,rfl,hl⟩:=ZQ h (Aw:=Aw) λr h=>hr r (by simp[h]);exact⟨a::l,rfl,by simpa[hq] using hl⟩
def XO{U:Type}{e:Ty}{f:U->List Aa}{Q:U->Prop}(h:∀r,X6 e r->∃a,r=f a/\Q a){v:Aa}(hv:X6 (.sl e) [v]):∃l:List U,Bv (Ty.size e) (l.map f) v/\l.length<=maxLen/\∀a∈l,Q a:=by
 unfold X6 at hv;rcases hv with b|⟨Aw,b,hl,hr⟩
 .cases b;exact⟨[],.nil,Ax,Ax⟩
 .cases b;obtain⟨l,rfl,hq⟩:=ZQ h hr;exact⟨l,.mk,by simpa using hl,hq⟩
def KA{r:List Aa}{k:IntKind}(h:X6 (.int k) r):∃n,r=[.int k n]/\(Lit.int k n).wf=true:=h
def Lt{r:List Aa}(h:X6 .str r):∃s:Ah,r=[.str s]:=let⟨n,e,_⟩:=h;⟨n,e⟩
def JM{r:List Aa}(h:X6 .bool r):∃b,r=[.bool b]:=h
def CB{t:Ty}{ts:List Ty}{l:List Aa}(h:ak (t::ts) l):∃a b,l=a++b/\X6 t a/\ak ts b:=h
def Py{l:List Aa}(h:ak [] l):l=[]:=h
def TN{e:Ty}{r:List Aa}(h:X6 (.sl e) r):∃v,r=[v]/\X6 (.sl e) [v]:=by have h':=h;unfold X6 at h';rcases h' with rfl|⟨Aw,rfl,_⟩<;>exact⟨_,rfl,h⟩
def SK(r:List Aa)(h:X6 UC r):∃a:A3,r=a.row/\True:=by obtain⟨i,e,rfl,h1,h⟩:=CB h;obtain⟨g,d,rfl,h2,h⟩:=CB h;obtain⟨f,c,rfl,b,h⟩:=CB h;obtain rfl:=Py h;obtain⟨n,rfl,_⟩:=KA h1;obtain⟨s,rfl⟩:=Lt h2;obtain⟨t,rfl⟩:=Lt b;exact⟨⟨n,s,t⟩,rfl,trivial⟩
def aC7(r:List Aa)(h:X6 ò r):∃a:QO,r=a.row/\(-2147483648<=a.q.r/\a.q.r<=2147483647):=by obtain⟨O,F,rfl,h1,h⟩:=CB h;obtain⟨N,E,rfl,h2,h⟩:=CB h;obtain⟨M,D,rfl,b,h⟩:=CB h;obtain⟨L,C,rfl,w,h⟩:=CB h;obtain⟨K,B,rfl,u,h⟩:=CB h;obtain⟨J,A,rfl,t,h⟩:=CB h;obtain⟨I,z,rfl,s,h⟩:=CB h;obtain⟨H,y,rfl,p,h⟩:=CB h;obtain⟨G,x,rfl,o,h⟩:=CB h;obtain rfl:=Py h;obtain⟨k,rfl,_⟩:=KA h1;obtain⟨e,rfl⟩:=Lt h2;obtain⟨v,rfl,b⟩:=TN b;obtain⟨l,b,_,_⟩:=XO SK b;obtain⟨j,rfl,_⟩:=KA w;obtain⟨i,rfl,_⟩:=KA u;obtain⟨b6,rfl⟩:=JM t;obtain⟨d,rfl⟩:=Lt s;obtain⟨g,rfl,c⟩:=KA p;obtain⟨f,rfl,_⟩:=KA o;refine⟨⟨⟨k,e,l,j,i,b6,d,g,f⟩,v,b⟩,rfl,?_⟩;have n:IntKind.i32.min= -2147483648:=rfl;have m:IntKind.i32.max=2147483647:=rfl;simp[Lit.wf,n,m] at c;exact c
def XP{v:Aa}(h:nB Rm v):∃(s:Gc) (av:Aa),v= .agg (Nn s av)/\Bb s.Au av:=by obtain⟨r,rfl,h⟩:=h;obtain⟨A,q,rfl,h1,h⟩:=CB h;obtain⟨z,p,rfl,h2,h⟩:=CB h;obtain rfl:=Py h;obtain⟨b1,rfl⟩:=JM h1;obtain⟨y,o,rfl,g,h⟩:=CB h2;obtain⟨x,n,rfl,f,h⟩:=CB h;obtain⟨w,m,rfl,a,h⟩:=CB h;obtain⟨u,k,rfl,e,h⟩:=CB h;obtain⟨t,j,rfl,d,h⟩:=CB h;obtain rfl:=Py h;obtain⟨c,rfl,_⟩:=KA g;obtain⟨b,rfl⟩:=Lt f;obtain⟨v,rfl,a⟩:=TN a;obtain⟨l,a,_,_⟩:=XO SK a;obtain⟨b6,rfl⟩:=JM e;obtain⟨i,rfl⟩:=JM d;exact⟨⟨b1,c,b,l,b6,i⟩,v,rfl,a⟩
def kJ{v:Aa}(h:nB (.sl ò) v):∃l:List QO,XM l v/\∀x∈l,-2147483648<=x.q.r/\x.q.r<=2147483647:=by have h:X6 (.sl ò) [v]:=h;obtain⟨l,h1,_,h2⟩:=XO aC7 h;exact⟨l,h1,h2⟩
def ER(l:List A3):Prop:=l.length<=20/\∀x∈l,x.name.length<=400/\x.value.length<=400
instance(l:List A3):Decidable (ER l):=by unfold ER;infer_instance
def ER.MA{l:List A3}(h:ER l):Eb l:=⟨by have:=h.1;omega,λa ha=>by have:=h.2 a ha;omega⟩
section
variable{h:Ai}
def f9{v:Aa}{l:List A3}(hv:Bb l v)(h:Ai):B9 cx 12 [v] h (.bool (decide (ER l))) h:=by
 have Gm:Bv 3 (l.map A3.row) v:=hv;have a:=Bv.F0 hv;rw[Ag,aAw,t12];refine BM (λn:Nat=>[ff,I (n:Int)]) (λn h1=>n<=l.length/\n<=21/\(∀x∈l.take n,x.name.length<=400/\x.value.length<=400)/\h1=h) (λn=>l.length-n) 0 rfl ⟨A7 _,A7 _,Ax,rfl⟩ ?_;rintro n h1 ⟨hn,hb,ha,rfl⟩;rcases Bi n l.length with hlt|GX
 .have b:=Bv.Df (k:= .i64) hv hlt;rw[A3.row] at b;have Y5:¬(l[n].name.length<=400/\l[n].value.length<=400)->¬ER l:=λh1 h2=>h1 (h2.2 _ (AY hlt));by_cases Qk:n<=20
  .by_cases c:(400:Int)<(l[n].name.length:Int);.have e:decide (ER l)=false:=Ak (Y5 Ab);rw[e];simp only[abS,a,(Ab:(n:Int)<(l.length:Int)),(Ab:(n:Int)<=20),b,c]
   .by_cases d:(400:Int)<(l[n].value.length:Int);.have e:decide (ER l)=false:=Ak (Y5 Ab);rw[e];simp only[abS,a,(Ab:(n:Int)<(l.length:Int)),(Ab:(n:Int)<=20),b,c,d]
    .simp only[abS,a,(Ab:(n:Int)<(l.length:Int)),(Ab:(n:Int)<=20),b,c,d,CI (Ab:n<9223372036854775807)];refine Bq.next (n+1) rfl ⟨hlt,Ab,λx hx=>?_,rfl⟩ Ab;rw[AQ hlt,Ap,Bd] at hx;rcases hx with hx|rfl
     .exact ha x hx
     .exact⟨Ab,Ab⟩
  .have e:decide (ER l)=false:=Ak λh=>by have:=h.1;omega
   rw[e];simp only[abS,a,(Ab:(n:Int)<(l.length:Int)),(Ab:¬(n:Int)<=20),(Ab:¬(l.length:Int)<=20),E8]
 .rw[A8 GX] at ha;have f:decide (ER l)=decide ((l.length:Int)<=20):=by rw[C9];exact⟨λh=>by have:=h.1;omega,λh=>⟨Ab,ha⟩⟩
  rw[f];simp only[abS,a,(Ab:¬(n:Int)<(l.length:Int))]
def SL(s:Gc):Prop:=s.name.length<=60/\ER s.Au
instance(s:Gc):Decidable (SL s):=by unfold SL;infer_instance
def f5(s:Gc){av:Aa}(hv:Bb s.Au av)(h:Ai):B9 cx 17 [.agg [I s.A6,.str s.name,av,.bool s.CS,.bool s.HP]] h (.bool (decide (SL s))) h:=by
 have b:=f9 hv h;have fo:av.cells=[av]:=Bv.cells hv;rw[Ag,aAy,t17];by_cases a:(s.name.length:Int)<=60
 .have e:decide (SL s)=decide (ER s.Au):=by rw[C9];exact⟨λh=>h.2,λh=>⟨Ab,h⟩⟩
  rw[e];simp only[abS,a,b.Ac]
 .have e:decide (SL s)=false:=Ak λh=>by have:=h.1;omega
  rw[e];simp only[abS,a]
def pY(q:dw):Prop:=q.name.length<=60/\q.s.length<=200/\ER q.Au
instance(q:dw):Decidable (pY q):=by unfold pY;infer_instance
def pY.ok{q:dw}(h:pY q)(hr: -2147483648<=q.r/\q.r<=2147483647):xr q:=⟨by have:=h.1;omega,h.2.2.MA,by have:=h.2.1;omega,hr⟩
def MB(l:List QO)(m:Nat):Prop:=l.length<=m/\∀x∈l,pY x.q
instance(l:List QO)(m:Nat):Decidable (MB l m):=by unfold MB;infer_instance
def f4{v:Aa}{l:List QO}(hv:XM l v){m:Nat}(hm:m<=1000)(h:Ai):B9 cx 16 [v,I (m:Int)] h (.bool (decide (MB l m))) h:=by
 have a:=Bv.F0 hv;rw[Ag,aAx,t16];refine BM (λn:Nat=>[ff,I (n:Int)]) (λn h1=>n<=l.length/\n<=m+1/\(∀x∈l.take n,pY x.q)/\h1=h) (λn=>l.length-n) 0 rfl ⟨A7 _,A7 _,Ax,rfl⟩ ?_;rintro n h1 ⟨hn,hb,ha,rfl⟩;rcases Bi n l.length with hlt|GX
 .have b:=Bv.Df (k:= .i64) hv hlt;have c:=f9 l[n].ok h1;have Y5:¬pY l[n].q->¬MB l m:=λh1 h2=>h1 (h2.2 _ (AY hlt));rw[QO.row,SH] at b;by_cases Qk:n<=m
  .by_cases f:(60:Int)<(l[n].q.name.length:Int);.have e:decide (MB l m)=false:=Ak (Y5 λh=>by have:=h.1;omega);rw[e];simp only[abS,a,(Ab:(n:Int)<(l.length:Int)),(Ab:(n:Int)<=(m:Int)),b,f]
   .by_cases g:(200:Int)<(l[n].q.s.length:Int);.have e:decide (MB l m)=false:=Ak (Y5 λh=>by have:=h.2.1;omega);rw[e];simp only[abS,a,(Ab:(n:Int)<(l.length:Int)),(Ab:(n:Int)<=(m:Int)),b,f,g]
    .by_cases d:ER l[n].q.Au
     .rw[Al d] at c;simp only[abS,a,(Ab:(n:Int)<(l.length:Int)),(Ab:(n:Int)<=(m:Int)),b,f,g,c.Ac,CI (Ab:n<9223372036854775807)];refine Bq.next (n+1) rfl ⟨hlt,Ab,λx hx=>?_,rfl⟩ Ab;rw[AQ hlt,Ap,Bd] at hx;rcases hx with hx|rfl
      .exact ha x hx
      .exact⟨Ab,Ab,d⟩
     .have e:decide (MB l m)=false:=Ak (Y5 λh=>d h.2.2);rw[Ak d] at c;rw[e];simp only[abS,a,(Ab:(n:Int)<(l.length:Int)),(Ab:(n:Int)<=(m:Int)),b,f,g,c.Ac]
  .have e:decide (MB l m)=false:=Ak λh=>by have:=h.1;omega
   rw[e];simp only[abS,a,(Ab:(n:Int)<(l.length:Int)),(Ab:¬(n:Int)<=(m:Int)),(Ab:¬(l.length:Int)<=(m:Int)),E8]
 .rw[A8 GX] at ha;have i:decide (MB l m)=decide ((l.length:Int)<=(m:Int)):=by rw[C9];exact⟨λh=>by have:=h.1;omega,λh=>⟨Ab,ha⟩⟩
  rw[i];simp only[abS,a,(Ab:¬(n:Int)<(l.length:Int))]
end
section
variable{h h':Ai}{bi a lo:Nat}{o c t v:Aa}{G G' F F':Nat->Prop}{b:BS}{q:dw}{av:Aa}{j m:Nat}
def Ń(s:Gc)(hv:Bb s.Au av)(hl:Eb s.Au){l:List QO}(ho:XM l v)(hb:l.length<=60)(hq:∀x∈l,xr x.q)(h:Ai):
  ∃h' bi F,B9 cx 9 [.agg (Nn s av),v] h (Pt bi 0) h'/\PB h' bi (KQ s.b l) F/\Ew h (λ_=>False) h' F:=by
 obtain⟨h1,bi,F,i,w0,w⟩:=aLV s hv hl h;have O5:Ev cx 9 [.agg (Nn s av),v] h λr h'=>r= Pt bi 0/\∃F,PB h' bi (KQ s.b l) F/\Ew h (λ_=>False) h' F:=by
  unfold Ev;have fo:av.cells=[av]:=Bv.cells hv;have p:=Bv.F0 ho;rw[aFC,t9];rw[Nn] at i⊢;simp only[abS,i.Ac];refine BM (λn:Nat=>[I (n:Int)]) (λn h2=>n<=l.length/\∃F,PB h2 bi (KQ s.b (l.take n)) F/\Ew h (λ_=>False) h2 F) (λn=>l.length-n) 0 rfl ⟨A7 _,F,w0,w⟩ ?_;rintro n E ⟨RP,C,e,f⟩;rcases Bi n l.length with hlt|GX
  .have z:=Bv.Df (k:= .i64) ho hlt;have d:Fin (KQ s.b (l.take n)) (39+1):=SJ (j:=40) (l:=l.take n) (s.HM.le (by rw[AB];omega)) λx hx=>hq x (A0 hx);obtain⟨D,B,g,y,u⟩:=aLU e d (hq _ (AY hlt)) l[n].ok;have hr:SH l[n].q l[n].v=l[n].row:=rfl;rw[hr] at g;simp only[abS,p,(Ab:(n:Int)<(l.length:Int)),z,QO.DP,QO.KH,Ae,g.Ac,CI (Ab:n<9223372036854775807)];exact Bq.next (n+1) rfl ⟨hlt,B,by rw[AQ hlt,XN];exact y,f.trans u⟩ Ab
  .rw[A8 GX] at e;simp only[abS,p,(Ab:¬(n:Int)<(l.length:Int))];exact⟨_,rfl,rfl,C,e,f⟩
 obtain⟨r,h',hr,rfl,F',w',x'⟩:=O5.ret;exact⟨h',bi,F',hr,w',x'⟩
end
section
variable{h:Ai}{a n:Nat}{m:Option Nat}{ps:List PN}{A:Ar}{x:Int}
end
end Go.Am
end
