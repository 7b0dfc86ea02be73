/- Lemmas -/
import Derived.Test.YtbkijlifflhdiaaGreatDoorX25
import Derived.Test.YtbkijlifflhdiaaGreatDoorX7
set_option linter.all false
set_option maxRecDepth 100000
section
namespace Go.Am
open Go
abbrev xG:Ty:= .st [.int .i64,.str,.str]
abbrev L_:Ty:= .st [.int .i64,.str,.sl xG,.int .i64,.int .i64,.bool,.str,.int .i32,.int .i64]
abbrev aEC:Ty:= .st [.int .i64,.str,.sl xG,.bool,.bool]
abbrev YA:Ty:= .st [.bool,aEC]
def WV{U:Type}{P:List Aa->Prop}{f:U->List Aa}{Q:U->Prop}(h:∀r,P r->∃a,r=f a/\Q a):∀{Ao:List (List Aa)},(∀r∈Ao,P r)->∃l:List U,Ao=l.map f/\∀a∈l,Q a
 |[],_=>⟨[],rfl,Aw⟩
 |r::Ao,hr=>by obtain⟨a,rfl,hq⟩:=h r (hr r Aw);obtain⟨l,rfl,hl⟩:=WV h (Ao:=Ao) λr h=>hr r (by simp[h]);exact⟨a::l,rfl,by simpa[hq] using hl⟩
def gQ{U:Type}{e:Ty}{f:U->List Aa}{Q:U->Prop}(h:∀r,XA e r->∃a,r=f a/\Q a){v:Aa}(hv:XA (.sl e) [v]):∃l:List U,Bu (Ty.size e) (l.map f) v/\l.length<=maxLen/\∀a∈l,Q a:=by
 unfold XA at hv;rcases hv with b|⟨Ao,b,hl,hr⟩
 .cases b;exact⟨[],.nil,Aw,Aw⟩
 .cases b;obtain⟨l,rfl,hq⟩:=WV h hr;exact⟨l,.mk,by simpa using hl,hq⟩
def M6{r:List Aa}{k:IntKind}(h:XA (.int k) r):∃n,r=[.int k n]/\(Lit.int k n).wf=true:=h
def QE{r:List Aa}(h:XA .str r):∃s:Aq,r=[.str s]:=let⟨n,e,_⟩:=h;⟨n,e⟩
def QF{r:List Aa}(h:XA .bool r):∃b,r=[.bool b]:=h
def DE{t:Ty}{ts:List Ty}{l:List Aa}(h:nI (t::ts) l):∃a b,l=a++b/\XA t a/\nI ts b:=h
def QG{l:List Aa}(h:nI [] l):l=[]:=h
def WW{e:Ty}{r:List Aa}(h:XA (.sl e) r):∃v,r=[v]/\XA (.sl e) [v]:=by have h':=h;unfold XA at h';rcases h' with rfl|⟨Ao,rfl,_⟩<;>exact⟨_,rfl,h⟩
def bB(r:List Aa)(h:XA xG r):∃a:A3,r=a.row/\True:=by obtain⟨i,e,rfl,h1,h⟩:=DE h;obtain⟨g,d,rfl,h2,h⟩:=DE h;obtain⟨f,c,rfl,b,h⟩:=DE h;obtain rfl:=QG h;obtain⟨n,rfl,_⟩:=M6 h1;obtain⟨s,rfl⟩:=QE h2;obtain⟨t,rfl⟩:=QE b;exact⟨⟨n,s,t⟩,rfl,trivial⟩
def yq(r:List Aa)(h:XA L_ r):∃a:QO,r=a.row/\(-2147483648<=a.q.r/\a.q.r<=2147483647):=by obtain⟨O,F,rfl,h1,h⟩:=DE h;obtain⟨N,E,rfl,h2,h⟩:=DE h;obtain⟨M,D,rfl,b,h⟩:=DE h;obtain⟨L,C,rfl,w,h⟩:=DE h;obtain⟨K,B,rfl,u,h⟩:=DE h;obtain⟨J,A,rfl,t,h⟩:=DE h;obtain⟨I,z,rfl,s,h⟩:=DE h;obtain⟨H,y,rfl,p,h⟩:=DE h;obtain⟨G,x,rfl,o,h⟩:=DE h;obtain rfl:=QG h;obtain⟨k,rfl,_⟩:=M6 h1;obtain⟨e,rfl⟩:=QE h2;obtain⟨v,rfl,b⟩:=WW b;obtain⟨l,b,_,_⟩:=gQ bB b;obtain⟨j,rfl,_⟩:=M6 w;obtain⟨i,rfl,_⟩:=M6 u;obtain⟨b6,rfl⟩:=QF t;obtain⟨d,rfl⟩:=QE s;obtain⟨g,rfl,c⟩:=M6 p;obtain⟨f,rfl,_⟩:=M6 o;refine⟨⟨⟨k,e,l,j,i,b6,d,g,f⟩,v,b⟩,rfl,?_⟩;have n:IntKind.i32.min= -2147483648:=rfl;have m:IntKind.i32.max=2147483647:=rfl;simp[Lit.wf,n,m] at c;exact c
def gR{v:Aa}(h:nJ YA v):∃(s:FN) (av:Aa),v= .agg (SQ s av)/\Cp s.Av av:=by obtain⟨r,rfl,h⟩:=h;obtain⟨A,q,rfl,h1,h⟩:=DE h;obtain⟨z,p,rfl,h2,h⟩:=DE h;obtain rfl:=QG h;obtain⟨b1,rfl⟩:=QF h1;obtain⟨y,o,rfl,g,h⟩:=DE h2;obtain⟨x,n,rfl,f,h⟩:=DE h;obtain⟨w,m,rfl,a,h⟩:=DE h;obtain⟨u,k,rfl,e,h⟩:=DE h;obtain⟨t,j,rfl,d,h⟩:=DE h;obtain rfl:=QG h;obtain⟨c,rfl,_⟩:=M6 g;obtain⟨b,rfl⟩:=QE f;obtain⟨v,rfl,a⟩:=WW a;obtain⟨l,a,_,_⟩:=gQ bB a;obtain⟨b6,rfl⟩:=QF e;obtain⟨i,rfl⟩:=QF d;exact⟨⟨b1,c,b,l,b6,i⟩,v,rfl,a⟩
def xH{v:Aa}(h:nJ (.sl L_) v):∃l:List QO,bA l v/\∀x∈l,-2147483648<=x.q.r/\x.q.r<=2147483647:=by have h:XA (.sl L_) [v]:=h;obtain⟨l,h1,_,h2⟩:=gQ yq h;exact⟨l,h1,h2⟩
def Ga(l:List A3):Prop:=l.length<=20/\∀x∈l,x.name.length<=400/\x.value.length<=400
instance(l:List A3):Decidable (Ga l):=by unfold Ga;infer_instance
def Ga.ny{l:List A3}(h:Ga l):FB l:=⟨by have:=h.1;omega,λa ha=>by have:=h.2 a ha;omega⟩
section
variable{h:Ah}
def f9{v:Aa}{l:List A3}(hv:Cp l v)(h:Ah):Cx cx 17 [v] h (.bool (decide (Ga l))) h:=by
 have Ig:Bu 3 (l.map A3.row) v:=hv;have a:=Bu.Gi hv;rw[Aj,ui,t17];refine BI (λn:Nat=>[ff,I (n:Int)]) (λn h1=>n<=l.length/\n<=21/\(∀x∈l.take n,x.name.length<=400/\x.value.length<=400)/\h1=h) (λn=>l.length-n) 0 rfl ⟨A7 _,A7 _,Aw,rfl⟩ ?_;rintro n h1 ⟨hn,hb,ha,rfl⟩;rcases Bg n l.length with hlt|GW
 .have b:=Bu.DC (k:= .i64) hv hlt;rw[A3.row] at b;have YK:¬(l[n].name.length<=400/\l[n].value.length<=400)->¬Ga l:=λh1 h2=>h1 (h2.2 _ (AJ hlt));by_cases MA:n<=20
  .by_cases c:(400:Int)<(l[n].name.length:Int);.have e:decide (Ga l)=false:=Bb (YK Ab);rw[e];simp only[abS,a,(Ab:(n:Int)<(l.length:Int)),(Ab:(n:Int)<=20),b,c]
   .by_cases d:(400:Int)<(l[n].value.length:Int);.have e:decide (Ga l)=false:=Bb (YK Ab);rw[e];simp only[abS,a,(Ab:(n:Int)<(l.length:Int)),(Ab:(n:Int)<=20),b,c,d]
    .simp only[abS,a,(Ab:(n:Int)<(l.length:Int)),(Ab:(n:Int)<=20),b,c,d,Ci (Ab:n<9223372036854775807)];refine A8.next (n+1) rfl ⟨hlt,Ab,λx hx=>?_,rfl⟩ Ab;rw[AD hlt,Ak,Dl] at hx;rcases hx with hx|rfl
     .exact ha x hx
     .exact⟨Ab,Ab⟩
  .have e:decide (Ga l)=false:=Bb λh=>by have:=h.1;omega
   rw[e];simp only[abS,a,(Ab:(n:Int)<(l.length:Int)),(Ab:¬(n:Int)<=20),(Ab:¬(l.length:Int)<=20),CY]
 .rw[AR GW] at ha;have f:decide (Ga l)=decide ((l.length:Int)<=20):=by rw[DZ];exact⟨λh=>by have:=h.1;omega,λh=>⟨Ab,ha⟩⟩
  rw[f];simp only[abS,a,(Ab:¬(n:Int)<(l.length:Int))]
def WX(s:FN):Prop:=s.name.length<=60/\Ga s.Av
instance(s:FN):Decidable (WX s):=by unfold WX;infer_instance
def f5(s:FN){av:Aa}(hv:Cp s.Av av)(h:Ah):Cx cx 6 [.agg [I s.AW,.str s.name,av,.bool s.Cj,.bool s.Ps]] h (.bool (decide (WX s))) h:=by
 have b:=f9 hv h;have yS:av.cells=[av]:=Bu.cells hv;rw[Aj,č,t6];by_cases a:(s.name.length:Int)<=60
 .have e:decide (WX s)=decide (Ga s.Av):=by rw[DZ];exact⟨λh=>h.2,λh=>⟨Ab,h⟩⟩
  rw[e];simp only[abS,a,b.Ag]
 .have e:decide (WX s)=false:=Bb λh=>by have:=h.1;omega
  rw[e];simp only[abS,a]
def gS(q:bU):Prop:=q.name.length<=60/\q.s.length<=200/\Ga q.Av
instance(q:bU):Decidable (gS q):=by unfold gS;infer_instance
def gS.ok{q:bU}(h:gS q)(hr: -2147483648<=q.r/\q.r<=2147483647):nl q:=⟨by have:=h.1;omega,h.2.2.ny,by have:=h.2.1;omega,hr⟩
def N6(l:List QO)(m:Nat):Prop:=l.length<=m/\∀x∈l,gS x.q
instance(l:List QO)(m:Nat):Decidable (N6 l m):=by unfold N6;infer_instance
def f4{v:Aa}{l:List QO}(hv:bA l v){m:Nat}(hm:m<=1000)(h:Ah):Cx cx 5 [v,I (m:Int)] h (.bool (decide (N6 l m))) h:=by
 have a:=Bu.Gi hv;rw[Aj,Č,t5];refine BI (λn:Nat=>[ff,I (n:Int)]) (λn h1=>n<=l.length/\n<=m+1/\(∀x∈l.take n,gS x.q)/\h1=h) (λn=>l.length-n) 0 rfl ⟨A7 _,A7 _,Aw,rfl⟩ ?_;rintro n h1 ⟨hn,hb,ha,rfl⟩;rcases Bg n l.length with hlt|GW
 .have b:=Bu.DC (k:= .i64) hv hlt;have c:=f9 l[n].ok h1;have YK:¬gS l[n].q->¬N6 l m:=λh1 h2=>h1 (h2.2 _ (AJ hlt));rw[QO.row,Pw] at b;by_cases MA:n<=m
  .by_cases f:(60:Int)<(l[n].q.name.length:Int);.have e:decide (N6 l m)=false:=Bb (YK λh=>by have:=h.1;omega);rw[e];simp only[abS,a,(Ab:(n:Int)<(l.length:Int)),(Ab:(n:Int)<=(m:Int)),b,f]
   .by_cases g:(200:Int)<(l[n].q.s.length:Int);.have e:decide (N6 l m)=false:=Bb (YK λh=>by have:=h.2.1;omega);rw[e];simp only[abS,a,(Ab:(n:Int)<(l.length:Int)),(Ab:(n:Int)<=(m:Int)),b,f,g]
    .by_cases d:Ga l[n].q.Av
     .rw[Bf d] at c;simp only[abS,a,(Ab:(n:Int)<(l.length:Int)),(Ab:(n:Int)<=(m:Int)),b,f,g,c.Ag,Ci (Ab:n<9223372036854775807)];refine A8.next (n+1) rfl ⟨hlt,Ab,λx hx=>?_,rfl⟩ Ab;rw[AD hlt,Ak,Dl] at hx;rcases hx with hx|rfl
      .exact ha x hx
      .exact⟨Ab,Ab,d⟩
     .have e:decide (N6 l m)=false:=Bb (YK λh=>d h.2.2);rw[Bb d] at c;rw[e];simp only[abS,a,(Ab:(n:Int)<(l.length:Int)),(Ab:(n:Int)<=(m:Int)),b,f,g,c.Ag]
  .have e:decide (N6 l m)=false:=Bb λh=>by have:=h.1;omega
   rw[e];simp only[abS,a,(Ab:(n:Int)<(l.length:Int)),(Ab:¬(n:Int)<=(m:Int)),(Ab:¬(l.length:Int)<=(m:Int)),CY]
 .rw[AR GW] at ha;have i:decide (N6 l m)=decide ((l.length:Int)<=(m:Int)):=by rw[DZ];exact⟨λh=>by have:=h.1;omega,λh=>⟨Ab,ha⟩⟩
  rw[i];simp only[abS,a,(Ab:¬(n:Int)<(l.length:Int))]
end
section
variable{h h':Ah}{bi a lo:Nat}{o c t v:Aa}{G G' F F':Nat->Prop}{b:BS}{q:bU}{av:Aa}{j m:Nat}
def aAp(s:FN)(hv:Cp s.Av av)(hl:FB s.Av){l:List QO}(ho:bA l v)(hb:l.length<=60)(hq:∀x∈l,nl x.q)(h:Ah):
  ∃h' bi F,Cx cx 8 [.agg (SQ s av),v] h (Pt bi 0) h'/\PB h' bi (Jf s.b l) F/\FD h (λ_=>False) h' F:=by
 obtain⟨h1,bi,F,i,w0,w⟩:=aEB s hv hl h;have NH:Ev cx 8 [.agg (SQ s av),v] h λr h'=>r= Pt bi 0/\∃F,PB h' bi (Jf s.b l) F/\FD h (λ_=>False) h' F:=by
  unfold Ev;have yS:av.cells=[av]:=Bu.cells hv;have p:=Bu.Gi ho;rw[Ď,t8];rw[SQ] at i⊢;simp only[abS,i.Ag];refine BI (λn:Nat=>[I (n:Int)]) (λn h2=>n<=l.length/\∃F,PB h2 bi (Jf s.b (l.take n)) F/\FD h (λ_=>False) h2 F) (λn=>l.length-n) 0 rfl ⟨A7 _,F,w0,w⟩ ?_;rintro n E ⟨PF,C,e,f⟩;rcases Bg n l.length with hlt|GW
  .have z:=Bu.DC (k:= .i64) ho hlt;have d:Fin (Jf s.b (l.take n)) (39+1):=U9 (j:=40) (l:=l.take n) (s.Iv.le (by rw[Au];omega)) λx hx=>hq x (AN hx);obtain⟨D,B,g,y,u⟩:=aEA e d (hq _ (AJ hlt)) l[n].ok;have hr:Pw l[n].q l[n].v=l[n].row:=rfl;rw[hr] at g;simp only[abS,p,(Ab:(n:Int)<(l.length:Int)),z,QO.DI,QO.JQ,Af,g.Ag,Ci (Ab:n<9223372036854775807)];exact A8.next (n+1) rfl ⟨hlt,B,by rw[AD hlt,U8];exact y,f.trans u⟩ Ab
  .rw[AR GW] at e;simp only[abS,p,(Ab:¬(n:Int)<(l.length:Int))];exact⟨_,rfl,rfl,C,e,f⟩
 obtain⟨r,h',hr,rfl,F',w',x'⟩:=NH.ret;exact⟨h',bi,F',hr,w',x'⟩
def aED(s:FN)(hv:Cp s.Av av)(hl:FB s.Av){l:List QO}(ho:bA l v)(hb:l.length<=60)(hq:∀x∈l,nl x.q)(h:Ah):
  ∃h' bi F,Cx cx 8 [.agg (SQ s av),v] h (Pt bi 0) h'/\PB h' bi (Jf s.b l) F:=by
 obtain⟨h',bi,F,r,w,_⟩:=aAp s hv hl ho hb hq h;exact⟨h',bi,F,r,w⟩
def yr(w:BX h bi a o c t G b)(f:Fin b j):∃v u,Cx cx 9 [Pt a 0] h v (h++u)/\LO (h++u) h.length v b.a.n:=by obtain⟨n,m,ps,d⟩:=w.w.pa;exact aEz d f.sz.rm.VG (λx=>f.sz.rm.VG.AT f.ok.ok x) (by have:=f.sz.rm.n;omega)
def pO{id k:Nat}{l:List Int}(hc:h[id]?=some (.cells (l.map (Aa.int .i64))))(hk:k<=l.length):N1 h (.CL id 0 k 1) (l.take k):=by
 refine⟨by rw[Au,Ce hk];rfl,λi hi=>⟨Pt id i,?_,?_⟩⟩;.rw[Au] at hi;have:=EV (id:=id) (z:=1) (n:=k) (k:= .i64) (i:=i) Ab;rwa [Gp] at this
 .rw[Au] at hi;simp only[Bq,hc,Fi];rw[Cn,Ai Ab,O2];rfl
def Kj.len{l:List Int}(hv:Kj h lo v l):Ay (.len false) [v]=some (I (l.length:Int)):=hv.Ms.len
end
section
variable{h:Ah}{a n:Nat}{m:Option Nat}{ps:List PN}{A:Ar}{x:Int}
def lZ{v:Aa}{l:List Int}(hv:N1 h v l)(hb:l.length<=1000000000)(x:Int):Cx cx 13 [v,I x] h (I (BZ (λy=>decide (x=y)) 0 l)) h:=by
 rw[Aj,uh,t13];refine BI (λk:Nat=>[I 0,I (k:Int)]) (λk h1=>k<=l.length/\BZ (λy=>decide (x=y)) 0 l=BZ (λy=>decide (x=y)) k (l.drop k)/\h1=h) (λk=>l.length-k) 0 rfl ⟨A7 _,rfl,rfl⟩ ?_;rintro k h1 ⟨hk,ha,rfl⟩;rcases Bg k l.length with hlt|GW
 .obtain⟨p,f,d⟩:=hv.at_ k hlt;rw[AA hlt,BZ] at ha;simp only[abS,hv.len,(Ab:(k:Int)<(l.length:Int)),f,d,Ci (Ab:k<9223372036854775807)];refine⟨λh2=>?_,λh2=>?_⟩;.rw[ha,Ad (by simp[h2])]
  .rw[Ac (by simpa using λe=>h2 e.symm)] at ha;exact A8.next (k+1) rfl ⟨hlt,ha,rfl⟩ Ab
 .rw[Bd GW,BZ] at ha;simp only[abS,hv.len,(Ab:¬(k:Int)<(l.length:Int)),ha]
end
structure SN where
 x:D8
 kv:Aa
 av:Aa
def SN.row(p:SN):List Aa:=[.int .i64 p.x.kind,.int .i64 p.x.FL,p.kv,.int .i64 p.x.BO,.int .i64 p.x.AW,.str p.x.name,p.av,.str p.x.data,.str p.x.zx,.str p.x.sys,.bool p.x.Cj,.int .i64 p.x.cont,.int .i64 p.x.C0]
def SN.z:SN:=⟨{},.slnil,.slnil⟩
def nz(l:List SN):∀r∈l.map SN.row,r.length=13:=Mh (f:=SN.row) (λ_=>rfl) l
structure SA(h:Ah)(a n:Nat)(ss:List SN)(A:Ar):Prop where
 e:A.n=ss.map SN.x
 ha:h[a]?=some (.cells [.CL n 0 (ss.length+1) 13,.slnil])
 hn:h[n]?=some (.cells ((SN.z::ss).map SN.row).flatten)
 kd:∀s∈ss,Ff s.x.AT s.kv
 at_:∀s∈ss,FE h s.av s.x.Av
def nS(x:Int):Nat:=x.toNat*13
def pS(ss:List SN)(x:Int):SN:=(SN.z::ss).getD x.toNat SN.z
section
variable{h h':Ah}{a n:Nat}{ss:List SN}{A:Ar}{x:Int}
def SA.len(w:SA h a n ss A):A.n.length=ss.length:=by rw[w.e,As]
def SA.nodes(w:SA h a n ss A):Bq h none (.ptr (some (a,0)))=some (.CL n 0 (ss.length+1) 13):=by simp only[Bq,w.ha];rfl
def SA.at(w:SA h a n ss A)(hx:A.has x):x.toNat<ss.length+1/\(x.toNat:Int)=x:=by have h1:=hx.1;have h2:=hx.2;rw[w.len] at h2;omega
def SA.pn(w:SA h a n ss A)(hx:A.has x):(SN.z::ss)[x.toNat]?=some (pS ss x)/\(pS ss x).x=A.nd x/\pS ss x∈ss:=by
 have h1:=(w.at hx).1;have h2:=hx.1;have hl:x.toNat<(SN.z::ss).length:=by simpa using h1
 refine⟨by unfold pS;rw[Ax,Ai hl];rfl,?_⟩;obtain⟨k,hk⟩:∃k,x.toNat=k+1:=⟨x.toNat-1,Ab⟩;have Y3:k<ss.length:=Ab;have b:pS ss x=ss[k]:=by unfold pS;rw[hk,aBt,Ax,Ai Y3];rfl
 refine⟨?_,by rw[b];exact AJ _⟩;rw[b];unfold Ar.nd;rw[Ad hx,w.e,hk,Oa,Ax,Cn,Ai Y3];rfl
def SA.Dm(w:SA h a n ss A)(hx:A.has x){k:Nat}(hk:k<13):Bq h none (.ptr (some (n,nS x+k)))=(pS ss x).row[k]?:=by unfold nS;simp only[Bq,w.hn,Fi];exact Mr (nz _) hk (by rw[Cn,(w.pn hx).1];rfl)
def SA.addr(w:SA h a n ss A)(hx:A.has x):Ay (.Gm 13) [.CL n 0 (ss.length+1) 13,.int .i64 x]=some (.ptr (some (n,nS x))):=by obtain⟨h1,h2⟩:=w.at hx;have:=EV (k:= .i64) (id:=n) (z:=13) h1;rwa [h2] at this
def SA.f0(w:SA h a n ss A)(hx:A.has x):Bq h none (.ptr (some (n,nS x)))=some (.int .i64 (A.nd x).kind):=by have:=w.Dm hx (k:=0) Bj;rw[Bc] at this;rw[this,<-(w.pn hx).2.1];rfl
def SA.f1(w:SA h a n ss A)(hx:A.has x):Bq h none (.ptr (some (n,nS x+1)))=some (.int .i64 (A.nd x).FL):=by rw[w.Dm hx Bj,<-(w.pn hx).2.1];rfl
def SA.f2(w:SA h a n ss A)(hx:A.has x):Bq h none (.ptr (some (n,nS x+2)))=some (pS ss x).kv:=by rw[w.Dm hx Bj];rfl
def SA.f3(w:SA h a n ss A)(hx:A.has x):Bq h none (.ptr (some (n,nS x+3)))=some (.int .i64 (A.nd x).BO):=by rw[w.Dm hx Bj,<-(w.pn hx).2.1];rfl
def SA.f11(w:SA h a n ss A)(hx:A.has x):Bq h none (.ptr (some (n,nS x+11)))=some (.int .i64 (A.nd x).cont):=by rw[w.Dm hx Bj,<-(w.pn hx).2.1];rfl
def SA.f12(w:SA h a n ss A)(hx:A.has x):Bq h none (.ptr (some (n,nS x+12)))=some (.int .i64 (A.nd x).C0):=by rw[w.Dm hx Bj,<-(w.pn hx).2.1];rfl
def SA.IG(w:SA h a n ss A)(hx:A.has x):Ff (A.nd x).AT (pS ss x).kv:=by rw[<-(w.pn hx).2.1];exact w.kd _ (w.pn hx).2.2
def SA.Ŋ(w:SA h a n ss A)(hx:A.has x):FE h (pS ss x).av (A.nd x).Av:=by rw[<-(w.pn hx).2.1];exact w.at_ _ (w.pn hx).2.2
def Ni(x:D8)(K V:Aa):List Aa:=[.int .i64 x.kind,.int .i64 x.FL,K,.int .i64 x.BO,.int .i64 x.AW,.str x.name,V,.str x.data,.str x.zx,.str x.sys,.bool x.Cj,.int .i64 x.cont,.int .i64 x.C0]
def SA.ld(w:SA h a n ss A)(hx:A.has x):Bq h (some 13) (.ptr (some (n,nS x)))=some (.agg (Ni (A.nd x) (pS ss x).kv (pS ss x).av)):=by
 obtain⟨h1,h2⟩:=w.at hx;have hlt:x.toNat<(SN.z::ss).length:=by simpa using h1
 have:=RB (nz _) w.hn (i:=x.toNat) (by simpa using h1);rw[C5] at this;have e:=(w.pn hx).1;rw[Ai hlt,BB] at e;rw[e] at this;rw[<-(w.pn hx).2.1];exact this
def aAq(w:SA h a n ss A):Cx cx 79 [.ptr (some (a,0)),.int .i64 x] h (.bool (decide (A.has x))) h:=by
 have hl:=w.len;rw[Aj,vj,t79];by_cases h0:0<x
 .have e:decide (A.has x)=decide (x<((ss.length+1:Nat):Int)):=by rw[DZ];unfold Ar.has;omega
  rw[e];simp only[Cr,ZM,h0,w.nodes,show Ay (.len false) [.CL n 0 (ss.length+1) 13]=some (.int .i64 ((ss.length+1:Nat):Int)) from rfl]
 .have e:decide (A.has x)=false:=by rw[Bb];unfold Ar.has;omega
  rw[e];simp only[abS,h0]
def n_(w:SA h a n ss A)(hx:A.has x):Cx cx 80 [.ptr (some (a,0)),.int .i64 x] h (.int .i64 (A.up x)) h:=by
 rw[Aj,vn,t80];by_cases hp:(A.nd x).FL=0
 .have e:A.up x=(A.nd x).C0:=by unfold Ar.up;rw[Ac (by simpa using hp)]
  simp only[abS,w.nodes,w.addr hx,w.f1 hx,hp,w.f12 hx,e,CC,BT]
 .have e:A.up x=(A.nd x).FL:=by unfold Ar.up;rw[Ad (by simpa using hp)]
  simp only[abS,w.nodes,w.addr hx,w.f1 hx,hp,e,CC]
def xI(y:D8)(K V:Aa)(h:Ah):Cx cx 78 [.agg (Ni y K V)] h (.bool (decide (S2 y))) h:=by rw[Aj,vi,t78,Ni];simp only[Cr,S2];refine⟨λh1=>⟨λh2=>?_,λh2=>?_⟩,λh1=>?_⟩<;>simp[*]
structure YB(h:Ah)(v:Aa)(l:List A3):Prop where
 len:Ay (.len false) [v]=some (.int .i64 (l.length:Int))
 at_:∀k (hk:k<l.length),∃id o,Ay (.Gm 3) [v,.int .i64 (k:Int)]=some (.ptr (some (id,o)))/\Bq h none (.ptr (some (id,o)))=some (.int .i64 l[k].AW)/\Bq h none (.ptr (some (id,o+1)))=some (.str l[k].name)/\Bq h (some 3) (.ptr (some (id,o)))=some (.agg [.int .i64 l[k].AW,.str l[k].name,.str l[k].value])
def FE.fl{v:Aa}{l:List A3}(hv:FE h v l):YB h v l:=by
 rcases hv with⟨rfl,rfl⟩|⟨id,rfl,hc,_⟩
 .exact⟨rfl,λk hk=>by simp at hk⟩
 .refine⟨rfl,λk hk=>⟨id,k*3,EV hk,?_⟩⟩;have hg:(l.map A3.row)[k]?=some l[k].row:=by rw[Cn,Ai hk];rfl
  have ld:∀j,j<3->Bq h none (.ptr (some (id,k*3+j)))=l[k].row[j]?:=λj hj=>by simp only[Bq,hc,Fi];exact Mr (vX l) hj hg
  have l0:=ld 0 Bj;rw[Bc] at l0;have lr:=RB (vX l) hc (i:=k) (by simpa using hk);rw[C5] at lr;exact⟨l0,ld 1 Bj,lr⟩
def oa(s:Int):OG cx 29 [.int .i64 s] (.bool (decide (BS.HR s))):=by rw[Un,uk,t29];unfold BS.HR;by_cases h1:0<=s<;>by_cases h2:s<=7<;>simp[h1,h2]
def aAr{v:Aa}{l:List A3}(hv:YB h v l)(hb:l.length<=1000000000)(hs:∀y∈l,BS.HR y.AW):Cx cx 30 [v] h tt h:=by
 rw[Aj,um,t30];refine BI (λk:Nat=>[ff,.int .i64 (k:Int)]) (λk h1=>k<=l.length/\h1=h) (λk=>l.length-k) 0 rfl ⟨A7 _,rfl⟩ ?_;rintro k h1 ⟨hk,rfl⟩;have hvl:=hv.len;rcases Bg k l.length with hlt|GW
 .obtain⟨id,o,d,c,_⟩:=hv.at_ k hlt;have b:∀{Q:IN} {h:Ah} {kk:Aa->IT},W cx (.Co 29 [.int .i64 l[k].AW] kk) Q h↔W cx (kk (.bool (decide (BS.HR l[k].AW)))) Q h:=(oa _).Co rfl rfl;simp only[abS,hvl,(Ab:(k:Int)<(l.length:Int)),d,c,b,Bf (hs _ (AJ hlt)),Ci (Ab:k<9223372036854775807)];exact A8.next (k+1) rfl ⟨hlt,rfl⟩ Ab
 .simp only[abS,hvl,(Ab:¬(k:Int)<(l.length:Int))]
def aAs{v:Aa}{l:List A3}(hv:YB h v l)(hb:l.length<=1000000000):∃u,Cx cx 31 [v] h u h/\Cp (Cl l) u:=by
 have hm:AQ=140737488355328:=rfl;have hvl:=hv.len;have NH:Ev cx 31 [v] h λr h'=>Cp (Cl l) r/\h'=h:=by
  unfold Ev;rw[uo,t31];refine BI (λs:Aa×Nat=>[s.1,.int .i64 (s.2:Int)]) (λs h1=>s.2<=l.length/\Cp (Cl (l.take s.2)) s.1/\h1=h) (λs=>l.length-s.2) (.slnil,0) rfl ⟨A7 _,.inr ⟨rfl,rfl⟩,rfl⟩ ?_;rintro⟨u,k⟩ h1 ⟨hk,hu,rfl⟩;simp only at hk hu;rcases Bg k l.length with hlt|GW
  .have YI:=Bu.Gi hu;have bO:=Oo (l:=l.take k);rw[Au] at bO;obtain⟨id,o,q,d,e,w⟩:=hv.at_ k hlt;simp only[abS,↓reduceIte,hvl,(Ab:(k:Int)<(l.length:Int))];refine Hr (i:=2) (λj:Nat=>[.bool (((Cl (l.take k)).take j).any λz=>decide (CW l[k]=CW z)),.int .i64 (j:Int)]) (λj h2=>j<=(Cl (l.take k)).length/\h2=h1) (λj=>(Cl (l.take k)).length-j) (λj h2=>j=(Cl (l.take k)).length/\h2=h1) 0 rfl ⟨A7 _,rfl⟩ ?_ ?_
   .rintro j h2 ⟨hj,rfl⟩;rcases Bg j (Cl (l.take k)).length with yF|y
    .have p:=Bu.DC (k:= .i64) hu yF;rw[A3.row] at p;have es:((Cl (l.take k)).take (j+1)).any (λz=>decide (CW l[k]=CW z))=(((Cl (l.take k)).take j).any (λz=>decide (CW l[k]=CW z))||decide (CW l[k]=CW (Cl (l.take k))[j])):=by rw[AD yF,pX];simp
     by_cases g:(Cl (l.take k))[j].AW=l[k].AW
     .by_cases t:(Cl (l.take k))[j].name=l[k].name
      .have c:decide (CW l[k]=CW (Cl (l.take k))[j])=true:=by simp[CW,g,t]
       simp only[abS,YI,(Ab:(j:Int)<((Cl (l.take k)).length:Int)),q,d,e,p,CZ g,Bf t,Ci (Ab:j<9223372036854775807)];exact .next (j+1) (by rw[es,c,Bool.or_true]) ⟨yF,rfl⟩ Ab
      .have c:decide (CW l[k]=CW (Cl (l.take k))[j])=false:=by simp[CW];exact λ_ h=>t h.symm
       simp only[abS,YI,(Ab:(j:Int)<((Cl (l.take k)).length:Int)),q,d,e,p,CZ g,Bb t,Ci (Ab:j<9223372036854775807)];exact .next (j+1) (by rw[es,c,jm]) ⟨yF,rfl⟩ Ab
     .have c:decide (CW l[k]=CW (Cl (l.take k))[j])=false:=by simp[CW];exact λh=>absurd h.symm g
      simp only[abS,YI,(Ab:(j:Int)<((Cl (l.take k)).length:Int)),q,d,p,g,Ci (Ab:j<9223372036854775807)];exact .next (j+1) (by rw[es,c,jm]) ⟨yF,rfl⟩ Ab
    .simp only[abS,YI,(Ab:¬(j:Int)<((Cl (l.take k)).length:Int))];exact .Iv j rfl ⟨Ab,rfl⟩
   .rintro j h2 ⟨rfl,rfl⟩;have m:Cl (l.take (k+1))=if(Cl (l.take k)).any (λz=>decide (CW l[k]=CW z)) then Cl (l.take k) else Cl (l.take k)++[l[k]]:=by rw[AD hlt];exact Oy
    have em:Ay (.Cf 3) [.agg [.int .i64 l[k].AW,.str l[k].name,.str l[k].value]]=some (.sl 3 [[.int .i64 l[k].AW,.str l[k].name,.str l[k].value]]):=rfl;have a1:=Bu.WB (f:=A3.row) (b:=40) (a:=l[k]) hu Ab;rw[A3.row] at a1;rw[B7];cases hq:(Cl (l.take k)).any (λz=>decide (CW l[k]=CW z)) with
    |true=>rw[Ad hq] at m;simp only[abS,↓reduceIte,Ci (Ab:k<9223372036854775807)];exact A8.next (u,k+1) rfl ⟨hlt,by rw[m];exact hu,rfl⟩ Hc
    |false=>rw[Ac (by rw[hq];decide)] at m;simp only[abS,Nat.reduceLeDiff,↓reduceIte,q,w,em,a1,Ci (Ab:k<9223372036854775807)];exact A8.next (_,k+1) rfl ⟨hlt,by rw[m];exact .mk,rfl⟩ Hc
  .rw[AR GW] at hu;simp only[abS,↓reduceIte,hvl,(Ab:¬(k:Int)<(l.length:Int))];exact⟨_,rfl,hu⟩
 obtain⟨r,h',hr,hu,rfl⟩:=NH.ret;exact⟨r,hr,hu⟩
def aAu{y:D8}{K V:Aa}(ok:eS y)(E:Ff y.AT K)(D:YB h V y.Av):Cx cx 28 [.agg (Ni y K V)] h tt h:=by
 have f:=xI y K V h;have t:=Bu.Gi E;have s:=D.len;have H:=ok.k;rw[Ni] at f;rw[Aj,uj,t28,Ni];have G:¬y.kind<1:=Ab;have F:¬y.kind>6:=Ab;have m:¬y.kind=4->¬y.kind=1->¬y.kind=2->y.AT=[]:=λa b c=>BN λhn=>by rcases ok.AT hn with h|h|h<;>contradiction
 have o:=ok.elem;have l:=ok.nm;have j:=ok.dt;have g:=ok.data;have i:=ok.Cj;have C:=ok.Mm;have r:=ok.Mn;have ht:S2 y->y.kind=4:=λh=>h.1;by_cases p:S2 y
 .have d:=ht p;have e:y.C0=0:=BN λhn=>by have:=r hn;omega
  obtain⟨z,w⟩:=j Ab;have v:=g Ab Ab;have u:=i Ab;rw[Bf p] at f;simp only[d,z,w,v,u,e] at f;simp only[abS,t,s,f.Ag,d,z,w,v,u,e,Int.reduceLT,Int.reduceEq,Int.reduceGT,AI,AP,Mx,J1,CC,BT,DO,CY,Gn,DN,AL,AM];try decide
 .rw[Bb p] at f;have B:y.cont=0:=BN λhn=>p (C hn);have q:y.kind=1\/y.kind=2\/y.kind=3\/y.kind=4\/y.kind=5\/y.kind=6:=Ab;rcases q with d|d|d|d|d|d
  all_goals
   have e:y.kind≠2->y.C0=0:=λh2=>BN λhn=>h2 (r hn);rw[d] at m o l j g i e;simp only[Int.reduceEq,AL,AM,AP,AI,CC] at m o l j g i e;simp only[d,B,e,m,o,l,j,g,i] at f;simp only[abS,t,s,f.Ag,d,B,e,m,o,l,j,g,i,BK,LR,W9,Int.reduceLT,Int.reduceEq,Int.reduceGT,AI,AP,Mx,J1,CC,BT,DO,CY,Gn,DN,AL,AM];try decide
def xJ{l:List Int}(hn:l.Nodup){k:Nat}(hk:k<l.length):BZ (λy=>decide (l[k]=y)) 0 l=(k:Int):=by
 obtain⟨j,hj,e,g,_⟩:=Qy (AJ hk);rw[e];rw[Ai hj,BB] at g;have:j=k:=by
  rcases bJ j k with h|h|h
  .exact absurd g (Jg.1 (Oc.1 hn) j k hj hk h)
  .exact h
  .exact absurd g.symm (Jg.1 (Oc.1 hn) k j hk hj h)
 rw[this]
def SA.has(w:SA h a n ss A)(hx:A.has x):Cx cx 79 [.ptr (some (a,0)),.int .i64 x] h tt h:=by have:=aAq (x:=x) w;rwa [Bf hx] at this
def aAv{e:Int}(w:SA h a n ss A)(ok:CX A e)(hx:A.has x)(hb:∀y,(A.nd y).AT.length<=1000000000):Cx cx 32 [.ptr (some (a,0)),.int .i64 x] h tt h:=by
 have c:=Bu.Gi (w.IG hx);have root:=(ok.NW x hx).root;have ZY:=(ok.NW x hx).ZY;have ng:=hb x;have ld:=w.ld hx;rw[Ni] at ld;rw[Aj,uq,t32];by_cases hp:(A.nd x).FL=0
 .simp only[abS,w.nodes,w.addr hx,ld,hp,CC,BT,DO,CY,Gn,DN,AL,AM];refine BI (λk:Nat=>[ff,.int .i64 (k:Int)]) (λk h1=>k<=(A.nd x).AT.length/\h1=h) (λk=>(A.nd x).AT.length-k) 0 rfl ⟨A7 _,rfl⟩ ?_;rintro k h1 ⟨hk,rfl⟩;rcases Bg k (A.nd x).AT.length with hlt|GW
  .obtain⟨hy,b⟩:=ok.IG x hx _ (AJ hlt);obtain⟨p,g,f⟩:=(Ff.Ms (h:=h1) (w.IG hx)).at_ k hlt;have r2:=lZ (h:=h1) (w.IG hx).Ms ng ((A.nd x).AT[k]);rw[xJ ZY hlt] at r2;simp only[abS,c,(Ab:(k:Int)<((A.nd x).AT.length:Int)),g,f,(w.has hy).Ag,w.nodes,w.addr hy,w.f1 hy,b,r2.Ag,CC,BT,Ci (Ab:k<9223372036854775807)];exact A8.next (k+1) rfl ⟨hlt,rfl⟩ Ab
  .simp only[abS,c,(Ab:¬(k:Int)<((A.nd x).AT.length:Int))]
 .obtain⟨d,hm⟩:=ok.FL x hx hp;obtain⟨m,l⟩:=root hp;obtain⟨i,hi,o,_⟩:=Qy hm;have j:=lZ (h:=h) (w.IG d).Ms (hb _) x;rw[o] at j;simp only[abS,w.nodes,w.addr hx,ld,hp,(w.has d).Ag,m,l,w.addr d,w.f2 d,j.Ag,(Ab:¬(i:Int)<0),CC];refine BI (λk:Nat=>[ff,.int .i64 (k:Int)]) (λk h1=>k<=(A.nd x).AT.length/\h1=h) (λk=>(A.nd x).AT.length-k) 0 rfl ⟨A7 _,rfl⟩ ?_;rintro k h1 ⟨hk,rfl⟩;rcases Bg k (A.nd x).AT.length with hlt|GW
  .obtain⟨hy,b⟩:=ok.IG x hx _ (AJ hlt);obtain⟨p,g,f⟩:=(Ff.Ms (h:=h1) (w.IG hx)).at_ k hlt;have r2:=lZ (h:=h1) (w.IG hx).Ms ng ((A.nd x).AT[k]);rw[xJ ZY hlt] at r2;simp only[abS,c,(Ab:(k:Int)<((A.nd x).AT.length:Int)),g,f,(w.has hy).Ag,w.nodes,w.addr hy,w.f1 hy,b,r2.Ag,CC,BT,Ci (Ab:k<9223372036854775807)];exact A8.next (k+1) rfl ⟨hlt,rfl⟩ Ab
  .simp only[abS,c,(Ab:¬(k:Int)<((A.nd x).AT.length:Int))]
def aAw(w:SA h a n ss A)(ok:CX A 0)(hx:A.has x):Cx cx 33 [.ptr (some (a,0)),.int .i64 x] h tt h:=by
 obtain⟨c,g⟩:=ok.BO x hx;have s:=ok.Ux x hx;have k:x≠0:=by have:=hx.1;omega
 have rt:=xI (A.nd x) (pS ss x).kv (pS ss x).av h;have ld:=w.ld hx;rw[Ni] at ld rt;have q:S2 (A.nd x)->A.has (A.nd x).cont/\(A.nd (A.nd x).cont).kind=2/\(A.nd (A.nd x).cont).C0=x:=λt=>ok.cont x hx (ok.ax x hx k t);have i:(A.nd x).C0≠0->A.has (A.nd x).C0/\S2 (A.nd (A.nd x).C0)/\(A.nd (A.nd x).C0).cont=x:=λh0=>⟨(ok.C0 x hx h0).1,(ok.NW _ (ok.C0 x hx h0).1).Mm (by rw[(ok.C0 x hx h0).2];exact k),(ok.C0 x hx h0).2⟩
 rw[Aj,ur,t33];have tail:(A.nd x).C0≠0->∃K V,Cx cx 78 [.agg (Ni (A.nd (A.nd x).C0) K V)] h tt h/\Bq h (some 13) (.ptr (some (n,nS (A.nd x).C0)))=some (.agg (Ni (A.nd (A.nd x).C0) K V)):=λh0=>by obtain⟨h1,h2,_⟩:=i h0;have r:=xI (A.nd (A.nd x).C0) (pS ss (A.nd x).C0).kv (pS ss (A.nd x).C0).av h;rw[Bf h2] at r;exact⟨_,_,r,w.ld h1⟩
 by_cases f:S2 (A.nd x)
 .obtain⟨e,p,o⟩:=q f;have d:¬(A.nd x).kind=1:=by rw[f.1];decide
  rw[Bf f] at rt;by_cases b:(A.nd x).C0=0;.rw[b] at rt;simp only[abS,w.nodes,w.addr hx,ld,(w.has c).Ag,w.addr c,w.f0 c,g,d,rt.Ag,(w.has e).Ag,w.addr e,w.f0 e,p,w.f12 e,o,b,CC,BT,DO,CY,Gn,DN,AL,AM]
  .obtain⟨h1,h2,j⟩:=i b;obtain⟨K,V,r,l⟩:=tail b;simp only[abS,w.nodes,w.addr hx,ld,(w.has c).Ag,w.addr c,w.f0 c,g,d,rt.Ag,(w.has e).Ag,w.addr e,w.f0 e,p,w.f12 e,o,b,(w.has h1).Ag,w.addr h1,l,r.Ag,w.f11 h1,j,CC,BT,DO,CY,Gn,DN,AL,AM]
 .rw[Bb f] at rt;by_cases d:(A.nd x).kind=1
  .have m:=s d;have b:(A.nd x).C0=0:=BN λh0=>by have:=(ok.NW x hx).Mn h0;omega
   rw[b,d,m] at rt;simp only[abS,w.nodes,w.addr hx,ld,m,(w.has hx).Ag,w.f0 hx,d,rt.Ag,b,CC,BT,DO,CY,Gn,DN,AL,AM]
  .by_cases b:(A.nd x).C0=0;.rw[b] at rt;simp only[abS,w.nodes,w.addr hx,ld,(w.has c).Ag,w.addr c,w.f0 c,g,d,rt.Ag,b,CC,BT,DO,CY,Gn,DN,AL,AM]
   .obtain⟨h1,h2,j⟩:=i b;obtain⟨K,V,r,l⟩:=tail b;simp only[abS,w.nodes,w.addr hx,ld,(w.has c).Ag,w.addr c,w.f0 c,g,d,rt.Ag,b,(w.has h1).Ag,w.addr h1,l,r.Ag,w.f11 h1,j,CC,BT,DO,CY,Gn,DN,AL,AM]
def aAx{e:Int}(w:SA h a n ss A)(ok:CX A e)(hx:A.has x)(hb:ss.length<=900000000):Cx cx 34 [.ptr (some (a,0)),.int .i64 x] h ff h:=by
 obtain⟨r,hr⟩:=ok.X4;have b:∀y,A.has y->A.up y=0\/(A.has (A.up y)/\r (A.up y)<r y):=λy hy=>by
  by_cases h0:A.up y=0;.exact .inl h0
  .exact .inr ⟨X5 ok hy h0,hr y hy h0⟩
 have ln:Ay (.len false) [.CL n 0 (ss.length+1) 13]=some (.int .i64 ((ss.length+1:Nat):Int)):=rfl;rw[Aj,uv,t34];simp only[abS,(n_ w hx).Ag];refine BI (λs:Int×Nat=>[ff,.int .i64 s.1,.int .i64 (s.2:Int)]) (λs h1=>s.2<=ss.length+1/\(s.1=0\/(A.has s.1/\r s.1<r x))/\h1=h) (λs=>ss.length+1 -s.2) (A.up x,0) rfl ⟨A7 _,b x hx,rfl⟩ ?_;rintro⟨y,k⟩ h1 ⟨hk,hy,rfl⟩;simp only at hk hy;rcases hy with rfl|⟨hy,c⟩
 .simp only[abS,↓reduceIte,CC,BT]
 .have d:¬y=0:=by have:=hy.1;omega
  have f:¬y=x:=λe=>by rw[e] at c;omega
  rcases Bg k (ss.length+1) with hlt|GW
  .simp only[abS,↓reduceIte,d,w.nodes,ln,(Ab:(k:Int)<((ss.length+1:Nat):Int)),f,(n_ w hy).Ag,Ci (Ab:k<9223372036854775807),CC];exact A8.next (A.up y,k+1) rfl ⟨hlt,(b y hy).imp id λh=>⟨h.1,Nat.lt_trans h.2 c⟩,rfl⟩ Hc
  .simp only[abS,↓reduceIte,d,w.nodes,ln,(Ab:¬(k:Int)<((ss.length+1:Nat):Int)),CC]
def bC{lo:Nat}:∀{Ao:List (List Aa)} {l:List D8},Ao.length=l.length->(∀k (h1:k<Ao.length) (h2:k<l.length),Qw h lo l[k] Ao[k])->
  ∃ss:List SN,l=ss.map SN.x/\Ao=ss.map SN.row/\(∀s∈ss,Ff s.x.AT s.kv)/\∀s∈ss,FE h s.av s.x.Av
 |[],[],_,_=>⟨[],rfl,rfl,Aw,Aw⟩
 |[],_::_,hl,_=>by simp at hl
 |_::_,[],hl,_=>by simp at hl
 |r::Ao,y::l,hl,b=>by
  obtain⟨ss,j,i,g,f⟩:=bC (Ao:=Ao) (l:=l) (by simpa using hl) λk h1 h2=>by have:=b (k+1) (by simpa using h1) (by simpa using h2);simpa using this
  obtain⟨K,V,e,d,c,_⟩:=b 0 Aw Aw;simp only[zf] at e d c;refine⟨⟨y,K,V⟩::ss,by rw[j];rfl,by rw[i,e];rfl,λs hs=>?_,λs hs=>?_⟩
  .rcases Az.1 hs with rfl|hs
   .exact d
   .exact g s hs
  .rcases Az.1 hs with rfl|hs
   .exact c
   .exact f s hs
def xK{lo:Nat}{v:Aa}(hv:LO h lo v A.n)(hne:A.n≠[])(hb:A.n.length<=900000000):
  ∃ss:List SN,ss.length=A.n.length/\OM h 13 168 [I 0,I 0,.slnil,I 0,I 0,S [],.slnil,S [],S [],S [],ff,I 0,I 0] (I 1) (I 1)=some (h++[.cells SN.z.row],.CL h.length 0 1 13)/\
   FX (h++[.cells SN.z.row]) 13 168 (.CL h.length 0 1 13) v=some (h++[DJ.DK,DJ.cells ((SN.z::ss).map SN.row).flatten],.CL (h.length+1) 0 (ss.length+1) 13)/\
   ∀t,SA (h++[DJ.DK,DJ.cells ((SN.z::ss).map SN.row).flatten]++[DJ.cells [.CL (h.length+1) 0 (ss.length+1) 13,.slnil]]++t) (h.length+2) (h.length+1) ss A:=by
 have af:AQ=140737488355328:=rfl;obtain⟨Ao,e,c,j⟩:=hv;obtain⟨ss,d,i,g,f⟩:=bC c j;have hl:ss.length=A.n.length:=by rw[d,As]
 refine⟨ss,hl,rfl,?_,λt=>⟨d,Aw,Aw,g,λs hs=>?_⟩⟩
 .have aEH:Ao≠[]:=by rintro rfl;exact hne (CB (by simpa using c.symm))
  have hg:=MT (h:=h++[.cells SN.z.row]) (id:=h.length) (Ao:=[SN.z.row]) (r2:=Ao) (z:=13) (b:=168) (v:=v) (by simp;rfl) Bj Aw e aEH (by rw[c];simp;omega);rw[BR] at hg;rw[hg,i];simp[KW]
 .rw[AB,AB];exact(f s hs).Kr
def aAy{lo:Nat}{v:Aa}(ok:CX A 0)(hv:LO h lo v A.n)(hne:A.n≠[])(hb:A.n.length<=900000000)(hk:∀y,(A.nd y).AT.length<=1000000000)(ha:∀y,(A.nd y).Av.length<=1000000000):∃t,Cx cx 11 [v] h tt (h++t):=by
 obtain⟨ss,hl,g1,g2,g3⟩:=xK hv hne hb;have vc:v.cells=[v]:=by obtain⟨Ao,i,_⟩:=hv;exact Bu.cells i
 obtain⟨t0,b⟩:∃t0,h++[DJ.DK,DJ.cells ((SN.z::ss).map SN.row).flatten]++[DJ.cells [.CL (h.length+1) 0 (ss.length+1) 13,.slnil]]=h++t0:=⟨_,AB _ _ _⟩;have w:=g3 [];rw[BQ,b] at w;have s:(h++[DJ.DK,DJ.cells ((SN.z::ss).map SN.row).flatten]).length=h.length+2:=Aw;have ln:Ay (.len false) [.CL (h.length+1) 0 (ss.length+1) 13]=some (.int .i64 ((ss.length+1:Nat):Int)):=rfl;refine⟨t0,?_⟩;rw[Aj,uf,t11];refine Xf g1 ?_;simp only[abS,Nat.reduceLeDiff,↓reduceIte,BD,g2,s,b];obtain⟨a0,ea⟩:∃a0,h.length+2=a0:=⟨_,rfl⟩;obtain⟨e,f⟩:∃e,h.length+1=e:=⟨_,rfl⟩;rw[ea,f] at w;rw[f] at ln;rw[ea];obtain⟨H,g⟩:∃H,h++t0=H:=⟨_,rfl⟩;rw[g] at w⊢;have p:=w.len;refine BI (λk:Nat=>[ff,.int .i64 (k:Int)]) (λk h1=>1<=k/\k<=ss.length+1/\h1=H) (λk=>ss.length+1 -k) 1 rfl ⟨Af _,Ab,rfl⟩ ?_;rintro k h1 ⟨Y3,S0,rfl⟩;rcases Bg k (ss.length+1) with hlt|GW
 .have hx:A.has (k:Int):=by unfold Ar.has;omega
  have c:=ok.NW _ hx;have av:=(w.Ŋ hx).fl;have ld:=w.ld hx;have d:=aAu (h:=h1) c (w.IG hx) av;have r2:=aAr av (ha _) c.yB;obtain⟨u,l,hu⟩:=aAs av (ha _);rw[c.Cl] at hu;have o:=Bu.Gi hu;have m:=av.len;have rs:∀{Q:IN} {h:Ah} {kk:Aa->IT},W cx (.Co 29 [.int .i64 (A.nd k).AW] kk) Q h↔W cx (kk tt) Q h:=λ{Q h kk}=>by have:=(oa (A.nd k).AW).Co (h:=h) (Q:=Q) (k:=kk) rfl rfl;rwa [Bf (show BS.HR (A.nd k).AW from c.sp)] at this
  rw[Ni] at ld d;simp only[abS,w.nodes,ln,(Ab:(k:Int)<((ss.length+1:Nat):Int)),w.addr hx,ld,d.Ag,rs,r2.Ag,m,l.Ag,o,(aAv w ok hx hk).Ag,(aAw w ok hx).Ag,CC,BT,Ci (Ab:k<9223372036854775807)];exact A8.next (k+1) rfl ⟨Ab,hlt,rfl⟩ Ab
 .simp only[abS,w.nodes,ln,(Ab:¬(k:Int)<((ss.length+1:Nat):Int))];refine BI (λk:Nat=>[ff,.int .i64 (k:Int)]) (λk h2=>1<=k/\k<=ss.length+1/\h2=h1) (λk=>ss.length+1 -k) 1 rfl ⟨Af _,Ab,rfl⟩ ?_;rintro j h2 ⟨r,q,rfl⟩;rcases Bg j (ss.length+1) with hlt|GW
  .have hx:A.has (j:Int):=by unfold Ar.has;omega
   simp only[abS,w.nodes,ln,(Ab:(j:Int)<((ss.length+1:Nat):Int)),(aAx w ok hx Ab).Ag,Ci (Ab:j<9223372036854775807)];exact A8.next (j+1) rfl ⟨Ab,hlt,rfl⟩ Ab
  .simp only[abS,w.nodes,ln,(Ab:¬(j:Int)<((ss.length+1:Nat):Int)),g]
end
end Go.Am
end
