/- Lemmas -/
import Derived.Test.YtmfdhadocnndiaaGreatDoorS26
import Derived.Test.YtmfdhadocnndiaaGreatDoorS7
set_option linter.all false
set_option maxRecDepth 100000
section
namespace Go.Am
open Go
abbrev xZ:Ty:= .st [.int .i64,.str,.str]
abbrev P_:Ty:= .st [.int .i64,.str,.sl xZ,.int .i64,.int .i64,.bool,.str,.int .i32,.int .i64]
abbrev aEh:Ty:= .st [.int .i64,.str,.sl xZ,.bool,.bool]
abbrev X6:Ty:= .st [.bool,aEh]
def Wo{U:Type}{P:List Aa->Prop}{f:U->List Aa}{Q:U->Prop}(h:∀r,P r->∃a,r=f a/\Q a):∀{Af:List (List Aa)},(∀r∈Af,P r)->∃l:List U,Af=l.map f/\∀a∈l,Q a
 |[],_=>⟨[],rfl,Av⟩
 |r::Af,hr=>by obtain⟨a,rfl,hq⟩:=h r (hr r Av);obtain⟨l,rfl,hl⟩:=Wo h (Af:=Af) λr h=>hr r (by simp[h]);exact⟨a::l,rfl,by simpa[hq] using hl⟩
def fU{U:Type}{e:Ty}{f:U->List Aa}{Q:U->Prop}(h:∀r,WT e r->∃a,r=f a/\Q a){v:Aa}(hv:WT (.sl e) [v]):∃l:List U,Bn (Ty.size e) (l.map f) v/\l.length<=maxLen/\∀a∈l,Q a:=by
 unfold WT at hv;rcases hv with b|⟨Af,b,hl,hr⟩
 .cases b;exact⟨[],.nil,Av,Av⟩
 .cases b;obtain⟨l,rfl,hq⟩:=Wo h hr;exact⟨l,.mk,by simpa using hl,hq⟩
def MB{r:List Aa}{k:IntKind}(h:WT (.int k) r):∃n,r=[.int k n]/\(Lit.int k n).wf=true:=h
def Qb{r:List Aa}(h:WT .str r):∃s:Au,r=[.str s]:=let⟨n,e,_⟩:=h;⟨n,e⟩
def Qc{r:List Aa}(h:WT .bool r):∃b,r=[.bool b]:=h
def Du{t:Ty}{ts:List Ty}{l:List Aa}(h:nO (t::ts) l):∃a b,l=a++b/\WT t a/\nO ts b:=h
def Qd{l:List Aa}(h:nO [] l):l=[]:=h
def Wp{e:Ty}{r:List Aa}(h:WT (.sl e) r):∃v,r=[v]/\WT (.sl e) [v]:=by have h':=h;unfold WT at h';rcases h' with rfl|⟨Af,rfl,_⟩<;>exact⟨_,rfl,h⟩
def aD(r:List Aa)(h:WT xZ r):∃a:A0,r=a.row/\True:=by obtain⟨g,d,rfl,h1,h⟩:=Du h;obtain⟨f,c,rfl,h2,h⟩:=Du h;obtain⟨e,b,rfl,h3,h⟩:=Du h;obtain rfl:=Qd h;obtain⟨n,rfl,_⟩:=MB h1;obtain⟨s,rfl⟩:=Qb h2;obtain⟨t,rfl⟩:=Qb h3;exact⟨⟨n,s,t⟩,rfl,trivial⟩
def yr(r:List Aa)(h:WT P_ r):∃a:QO,r=a.row/\(-2147483648<=a.q.r/\a.q.r<=2147483647):=by obtain⟨N,E,rfl,h1,h⟩:=Du h;obtain⟨M,D,rfl,h2,h⟩:=Du h;obtain⟨L,C,rfl,h3,h⟩:=Du h;obtain⟨K,B,rfl,u,h⟩:=Du h;obtain⟨J,A,rfl,t,h⟩:=Du h;obtain⟨I,z,rfl,s,h⟩:=Du h;obtain⟨H,y,rfl,p,h⟩:=Du h;obtain⟨G,x,rfl,o,h⟩:=Du h;obtain⟨F,w,rfl,n,h⟩:=Du h;obtain rfl:=Qd h;obtain⟨j,rfl,_⟩:=MB h1;obtain⟨d,rfl⟩:=Qb h2;obtain⟨v,rfl,h3⟩:=Wp h3;obtain⟨l,h3,_,_⟩:=fU aD h3;obtain⟨i,rfl,_⟩:=MB u;obtain⟨g,rfl,_⟩:=MB t;obtain⟨b6,rfl⟩:=Qc s;obtain⟨c,rfl⟩:=Qb p;obtain⟨f,rfl,b⟩:=MB o;obtain⟨e,rfl,_⟩:=MB n;refine⟨⟨⟨j,d,l,i,g,b6,c,f,e⟩,v,h3⟩,rfl,?_⟩;have m:IntKind.i32.min= -2147483648:=rfl;have k:IntKind.i32.max=2147483647:=rfl;simp[Lit.wf,m,k] at b;exact b
def fV{v:Aa}(h:nQ X6 v):∃(s:GN) (av:Aa),v= .agg (aB s av)/\Cw s.AE av:=by obtain⟨r,rfl,h⟩:=h;obtain⟨z,p,rfl,h1,h⟩:=Du h;obtain⟨y,o,rfl,h2,h⟩:=Du h;obtain rfl:=Qd h;obtain⟨b1,rfl⟩:=Qc h1;obtain⟨x,n,rfl,h3,h⟩:=Du h2;obtain⟨w,m,rfl,f,h⟩:=Du h;obtain⟨u,k,rfl,a,h⟩:=Du h;obtain⟨t,j,rfl,e,h⟩:=Du h;obtain⟨q,i,rfl,d,h⟩:=Du h;obtain rfl:=Qd h;obtain⟨c,rfl,_⟩:=MB h3;obtain⟨b,rfl⟩:=Qb f;obtain⟨v,rfl,a⟩:=Wp a;obtain⟨l,a,_,_⟩:=fU aD a;obtain⟨b6,rfl⟩:=Qc e;obtain⟨g,rfl⟩:=Qc d;exact⟨⟨b1,c,b,l,b6,g⟩,v,rfl,a⟩
def yA{v:Aa}(h:nQ (.sl P_) v):∃l:List QO,xY l v/\∀x∈l,-2147483648<=x.q.r/\x.q.r<=2147483647:=by have h:WT (.sl P_) [v]:=h;obtain⟨l,h1,_,h2⟩:=fU yr h;exact⟨l,h1,h2⟩
def FO(l:List A0):Prop:=l.length<=20/\∀x∈l,x.name.length<=400/\x.value.length<=400
instance(l:List A0):Decidable (FO l):=by unfold FO;infer_instance
def FO.lz{l:List A0}(h:FO l):FZ l:=⟨by have:=h.1;omega,λa ha=>by have:=h.2 a ha;omega⟩
section
variable{h:Ah}
def f9{v:Aa}{l:List A0}(hv:Cw l v)(h:Ah):Co cx 15 [v] h (.bool (decide (FO l))) h:=by
 have HZ:Bn 3 (l.map A0.row) v:=hv;have a:=Bn.FL hv;rw[Aj,s_,t15];refine BF (λn:Nat=>[ff,I (n:Int)]) (λn h1=>n<=l.length/\n<=21/\(∀x∈l.take n,x.name.length<=400/\x.value.length<=400)/\h1=h) (λn=>l.length-n) 0 rfl ⟨AZ _,AZ _,Av,rfl⟩ ?_;rintro n h1 ⟨hn,hb,ha,rfl⟩;rcases A8 n l.length with hlt|GR
 .have b:=Bn.Dw (k:= .i64) hv hlt;rw[A0.row] at b;have Yc:¬(l[n].name.length<=400/\l[n].value.length<=400)->¬FO l:=λh1 h2=>h1 (h2.2 _ (AP hlt));by_cases MR:n<=20
  .by_cases c:(400:Int)<(l[n].name.length:Int);.have e:decide (FO l)=false:=A4 (Yc Ab);rw[e];simp only[abS,a,(Ab:(n:Int)<(l.length:Int)),(Ab:(n:Int)<=20),b,c]
   .by_cases d:(400:Int)<(l[n].value.length:Int);.have e:decide (FO l)=false:=A4 (Yc Ab);rw[e];simp only[abS,a,(Ab:(n:Int)<(l.length:Int)),(Ab:(n:Int)<=20),b,c,d]
    .simp only[abS,a,(Ab:(n:Int)<(l.length:Int)),(Ab:(n:Int)<=20),b,c,d,Cu (Ab:n<9223372036854775807)];refine A7.next (n+1) rfl ⟨hlt,Ab,λx hx=>?_,rfl⟩ Ab;rw[AL hlt,An,Eg] at hx;rcases hx with hx|rfl
     .exact ha x hx
     .exact⟨Ab,Ab⟩
  .have e:decide (FO l)=false:=A4 λh=>by have:=h.1;omega
   rw[e];simp only[abS,a,(Ab:(n:Int)<(l.length:Int)),(Ab:¬(n:Int)<=20),(Ab:¬(l.length:Int)<=20),Ck]
 .rw[AT GR] at ha;have f:decide (FO l)=decide ((l.length:Int)<=20):=by rw[DM];exact⟨λh=>by have:=h.1;omega,λh=>⟨Ab,ha⟩⟩
  rw[f];simp only[abS,a,(Ab:¬(n:Int)<(l.length:Int))]
def Wq(s:GN):Prop:=s.name.length<=60/\FO s.AE
instance(s:GN):Decidable (Wq s):=by unfold Wq;infer_instance
def f5(s:GN){av:Aa}(hv:Cw s.AE av)(h:Ah):Co cx 5 [.agg [I s.AY,.str s.name,av,.bool s.CS,.bool s.OW]] h (.bool (decide (Wq s))) h:=by
 have b:=f9 hv h;have g_:av.cells=[av]:=Bn.cells hv;rw[Aj,đ,t5];by_cases a:(s.name.length:Int)<=60
 .have e:decide (Wq s)=decide (FO s.AE):=by rw[DM];exact⟨λh=>h.2,λh=>⟨Ab,h⟩⟩
  rw[e];simp only[abS,a,b.Ag]
 .have e:decide (Wq s)=false:=A4 λh=>by have:=h.1;omega
  rw[e];simp only[abS,a]
def fW(q:l8):Prop:=q.name.length<=60/\q.s.length<=200/\FO q.AE
instance(q:l8):Decidable (fW q):=by unfold fW;infer_instance
def fW.ok{q:l8}(h:fW q)(hr: -2147483648<=q.r/\q.r<=2147483647):yk q:=⟨by have:=h.1;omega,h.2.2.lz,by have:=h.2.1;omega,hr⟩
def NC(l:List QO)(m:Nat):Prop:=l.length<=m/\∀x∈l,fW x.q
instance(l:List QO)(m:Nat):Decidable (NC l m):=by unfold NC;infer_instance
def f4{v:Aa}{l:List QO}(hv:xY l v){m:Nat}(hm:m<=1000)(h:Ah):Co cx 4 [v,I (m:Int)] h (.bool (decide (NC l m))) h:=by
 have a:=Bn.FL hv;rw[Aj,Đ,t4];refine BF (λn:Nat=>[ff,I (n:Int)]) (λn h1=>n<=l.length/\n<=m+1/\(∀x∈l.take n,fW x.q)/\h1=h) (λn=>l.length-n) 0 rfl ⟨AZ _,AZ _,Av,rfl⟩ ?_;rintro n h1 ⟨hn,hb,ha,rfl⟩;rcases A8 n l.length with hlt|GR
 .have b:=Bn.Dw (k:= .i64) hv hlt;have c:=f9 l[n].ok h1;have Yc:¬fW l[n].q->¬NC l m:=λh1 h2=>h1 (h2.2 _ (AP hlt));rw[QO.row,P9] at b;by_cases MR:n<=m
  .by_cases f:(60:Int)<(l[n].q.name.length:Int);.have e:decide (NC l m)=false:=A4 (Yc λh=>by have:=h.1;omega);rw[e];simp only[abS,a,(Ab:(n:Int)<(l.length:Int)),(Ab:(n:Int)<=(m:Int)),b,f]
   .by_cases g:(200:Int)<(l[n].q.s.length:Int);.have e:decide (NC l m)=false:=A4 (Yc λh=>by have:=h.2.1;omega);rw[e];simp only[abS,a,(Ab:(n:Int)<(l.length:Int)),(Ab:(n:Int)<=(m:Int)),b,f,g]
    .by_cases d:FO l[n].q.AE
     .rw[AW d] at c;simp only[abS,a,(Ab:(n:Int)<(l.length:Int)),(Ab:(n:Int)<=(m:Int)),b,f,g,c.Ag,Cu (Ab:n<9223372036854775807)];refine A7.next (n+1) rfl ⟨hlt,Ab,λx hx=>?_,rfl⟩ Ab;rw[AL hlt,An,Eg] at hx;rcases hx with hx|rfl
      .exact ha x hx
      .exact⟨Ab,Ab,d⟩
     .have e:decide (NC l m)=false:=A4 (Yc λh=>d h.2.2);rw[A4 d] at c;rw[e];simp only[abS,a,(Ab:(n:Int)<(l.length:Int)),(Ab:(n:Int)<=(m:Int)),b,f,g,c.Ag]
  .have e:decide (NC l m)=false:=A4 λh=>by have:=h.1;omega
   rw[e];simp only[abS,a,(Ab:(n:Int)<(l.length:Int)),(Ab:¬(n:Int)<=(m:Int)),(Ab:¬(l.length:Int)<=(m:Int)),Ck]
 .rw[AT GR] at ha;have i:decide (NC l m)=decide ((l.length:Int)<=(m:Int)):=by rw[DM];exact⟨λh=>by have:=h.1;omega,λh=>⟨Ab,ha⟩⟩
  rw[i];simp only[abS,a,(Ab:¬(n:Int)<(l.length:Int))]
end
def Q9{Q:Iw}{h:Ah}{k:Aa->IT}:W cx (.Cx 6 [] k) Q h↔W cx (k (.bool true)) Q h:=N7.Cx pX rfl rfl
section
variable{h h':Ah}{bi a lo:Nat}{o c t v:Aa}{G G' F F':Nat->Prop}{b:BS}{q:l8}{av:Aa}{j m:Nat}
def yt(w:BX h bi a o c t G b)(f:Fin b j):∃v u,Co cx 11 [Pt a 0] h v (h++u)/\Ls (h++u) h.length v b.a.n:=by obtain⟨n,m,ps,d⟩:=w.w.pa;exact aEe d f.sz.rm.U7 (λx=>f.sz.rm.U7.AX f.ok.ok x) (by have:=f.sz.rm.n;omega)
def La.len{l:List Int}(hv:La h lo v l):Ax (.len false) [v]=some (I (l.length:Int)):=hv.L1.len
end
section
variable{h:Ah}{a n:Nat}{m:Option Nat}{ps:List PN}{A:Ar}{x:Int}
def yB{v:Aa}{l:List Int}(hv:Q2 h v l)(hb:l.length<=1000000000)(x:Int):Co cx 111 [v,I x] h (I (BV (λy=>decide (x=y)) 0 l)) h:=by
 rw[Aj,cu,ĕ];refine BF (λk:Nat=>[I 0,I (k:Int)]) (λk h1=>k<=l.length/\BV (λy=>decide (x=y)) 0 l=BV (λy=>decide (x=y)) k (l.drop k)/\h1=h) (λk=>l.length-k) 0 rfl ⟨AZ _,rfl,rfl⟩ ?_;rintro k h1 ⟨hk,ha,rfl⟩;rcases A8 k l.length with hlt|GR
 .obtain⟨p,f,d⟩:=hv.at_ k hlt;rw[AB hlt,BV] at ha;simp only[abS,hv.len,(Ab:(k:Int)<(l.length:Int)),f,d,Cu (Ab:k<9223372036854775807)];refine⟨λh2=>?_,λh2=>?_⟩;.rw[ha,Ad (by simp[h2])]
  .rw[Ac (by simpa using λe=>h2 e.symm)] at ha;exact A7.next (k+1) rfl ⟨hlt,ha,rfl⟩ Ab
 .rw[A6 GR,BV] at ha;simp only[abS,hv.len,(Ab:¬(k:Int)<(l.length:Int)),ha]
end
structure SN where
 x:Ek
 kv:Aa
 av:Aa
def SN.row(p:SN):List Aa:=[.int .i64 p.x.kind,.int .i64 p.x.DA,p.kv,.int .i64 p.x.CQ,.int .i64 p.x.AY,.str p.x.name,p.av,.str p.x.data,.str p.x.z_,.str p.x.sys,.bool p.x.CS,.int .i64 p.x.cont,.int .i64 p.x.CJ]
def SN.z:SN:=⟨{},.slnil,.slnil⟩
def l_(l:List SN):∀r∈l.map SN.row,r.length=13:=LR (f:=SN.row) (λ_=>rfl) l
structure SA(h:Ah)(a n:Nat)(ss:List SN)(A:Ar):Prop where
 e:A.n=ss.map SN.x
 ha:h[a]?=some (.cells [.CI n 0 (ss.length+1) 13,.slnil])
 hn:h[n]?=some (.cells ((SN.z::ss).map SN.row).flatten)
 kd:∀s∈ss,EC s.x.AX s.kv
 at_:∀s∈ss,Ex h s.av s.x.AE
def nS(x:Int):Nat:=x.toNat*13
def pS(ss:List SN)(x:Int):SN:=(SN.z::ss).getD x.toNat SN.z
section
variable{h h':Ah}{a n:Nat}{ss:List SN}{A:Ar}{x:Int}
def SA.len(w:SA h a n ss A):A.n.length=ss.length:=by rw[w.e,As]
def SA.nodes(w:SA h a n ss A):Bk h none (.ptr (some (a,0)))=some (.CI n 0 (ss.length+1) 13):=by simp only[Bk,w.ha];rfl
def SA.at(w:SA h a n ss A)(hx:A.has x):x.toNat<ss.length+1/\(x.toNat:Int)=x:=by have h1:=hx.1;have h2:=hx.2;rw[w.len] at h2;omega
def SA.pn(w:SA h a n ss A)(hx:A.has x):(SN.z::ss)[x.toNat]?=some (pS ss x)/\(pS ss x).x=A.nd x/\pS ss x∈ss:=by
 have h1:=(w.at hx).1;have h2:=hx.1;have hl:x.toNat<(SN.z::ss).length:=by simpa using h1
 refine⟨by unfold pS;rw[Ay,Ak hl];rfl,?_⟩;obtain⟨k,hk⟩:∃k,x.toNat=k+1:=⟨x.toNat-1,Ab⟩;have SX:k<ss.length:=Ab;have b:pS ss x=ss[k]:=by unfold pS;rw[hk,aA1,Ay,Ak SX];rfl
 refine⟨?_,by rw[b];exact AP _⟩;rw[b];unfold Ar.nd;rw[Ad hx,w.e,hk,JY,Ay,Cj,Ak SX];rfl
def SA.CC(w:SA h a n ss A)(hx:A.has x){k:Nat}(hk:k<13):Bk h none (.ptr (some (n,nS x+k)))=(pS ss x).row[k]?:=by unfold nS;simp only[Bk,w.hn,E5];exact L0 (l_ _) hk (by rw[Cj,(w.pn hx).1];rfl)
def SA.addr(w:SA h a n ss A)(hx:A.has x):Ax (.ER 13) [.CI n 0 (ss.length+1) 13,.int .i64 x]=some (.ptr (some (n,nS x))):=by obtain⟨h1,h2⟩:=w.at hx;have:=E8 (k:= .i64) (id:=n) (z:=13) h1;rwa [h2] at this
def SA.f0(w:SA h a n ss A)(hx:A.has x):Bk h none (.ptr (some (n,nS x)))=some (.int .i64 (A.nd x).kind):=by have:=w.CC hx (k:=0) Br;rw[Bb] at this;rw[this,<-(w.pn hx).2.1];rfl
def SA.f1(w:SA h a n ss A)(hx:A.has x):Bk h none (.ptr (some (n,nS x+1)))=some (.int .i64 (A.nd x).DA):=by rw[w.CC hx Br,<-(w.pn hx).2.1];rfl
def SA.f2(w:SA h a n ss A)(hx:A.has x):Bk h none (.ptr (some (n,nS x+2)))=some (pS ss x).kv:=by rw[w.CC hx Br];rfl
def SA.f11(w:SA h a n ss A)(hx:A.has x):Bk h none (.ptr (some (n,nS x+11)))=some (.int .i64 (A.nd x).cont):=by rw[w.CC hx Br,<-(w.pn hx).2.1];rfl
def SA.f12(w:SA h a n ss A)(hx:A.has x):Bk h none (.ptr (some (n,nS x+12)))=some (.int .i64 (A.nd x).CJ):=by rw[w.CC hx Br,<-(w.pn hx).2.1];rfl
def SA.Kq(w:SA h a n ss A)(hx:A.has x):EC (A.nd x).AX (pS ss x).kv:=by rw[<-(w.pn hx).2.1];exact w.kd _ (w.pn hx).2.2
def SA.Ī(w:SA h a n ss A)(hx:A.has x):Ex h (pS ss x).av (A.nd x).AE:=by rw[<-(w.pn hx).2.1];exact w.at_ _ (w.pn hx).2.2
def EK(x:Ek)(K V:Aa):List Aa:=[.int .i64 x.kind,.int .i64 x.DA,K,.int .i64 x.CQ,.int .i64 x.AY,.str x.name,V,.str x.data,.str x.z_,.str x.sys,.bool x.CS,.int .i64 x.cont,.int .i64 x.CJ]
def SA.ld(w:SA h a n ss A)(hx:A.has x):Bk h (some 13) (.ptr (some (n,nS x)))=some (.agg (EK (A.nd x) (pS ss x).kv (pS ss x).av)):=by
 obtain⟨h1,h2⟩:=w.at hx;have hlt:x.toNat<(SN.z::ss).length:=by simpa using h1
 have:=Q6 (l_ _) w.hn (i:=x.toNat) (by simpa using h1);rw[C3] at this;have e:=(w.pn hx).1;rw[Ak hlt,Bs] at e;rw[e] at this;rw[<-(w.pn hx).2.1];exact this
def ů(w:SA h a n ss A):Co cx 110 [.ptr (some (a,0)),.int .i64 x] h (.bool (decide (A.has x))) h:=by
 have hl:=w.len;rw[Aj,ct,Ĕ];by_cases h0:0<x
 .have e:decide (A.has x)=decide (x<((ss.length+1:Nat):Int)):=by rw[DM];unfold Ar.has;omega
  rw[e];simp only[Cn,dG,h0,w.nodes,show Ax (.len false) [.CI n 0 (ss.length+1) 13]=some (.int .i64 ((ss.length+1:Nat):Int)) from rfl]
 .have e:decide (A.has x)=false:=by rw[A4];unfold Ar.has;omega
  rw[e];simp only[abS,h0]
def ma(w:SA h a n ss A)(hx:A.has x):Co cx 112 [.ptr (some (a,0)),.int .i64 x] h (.int .i64 (A.up x)) h:=by
 rw[Aj,cw,Ė];by_cases hp:(A.nd x).DA=0
 .have e:A.up x=(A.nd x).CJ:=by unfold Ar.up;rw[Ac (by simpa using hp)]
  simp only[abS,w.nodes,w.addr hx,w.f1 hx,hp,w.f12 hx,e,Ct,BM]
 .have e:A.up x=(A.nd x).DA:=by unfold Ar.up;rw[Ad (by simpa using hp)]
  simp only[abS,w.nodes,w.addr hx,w.f1 hx,hp,e,Ct]
def yC(y:Ek)(K V:Aa)(h:Ah):Co cx 109 [.agg (EK y K V)] h (.bool (decide (PO y))) h:=by rw[Aj,cr,t109,EK];simp only[Cn,PO];refine⟨λh1=>⟨λh2=>?_,λh2=>?_⟩,λh1=>?_⟩<;>simp[*]
structure X7(h:Ah)(v:Aa)(l:List A0):Prop where
 len:Ax (.len false) [v]=some (.int .i64 (l.length:Int))
 at_:∀k (hk:k<l.length),∃id o,Ax (.ER 3) [v,.int .i64 (k:Int)]=some (.ptr (some (id,o)))/\Bk h none (.ptr (some (id,o)))=some (.int .i64 l[k].AY)/\Bk h none (.ptr (some (id,o+1)))=some (.str l[k].name)/\Bk h (some 3) (.ptr (some (id,o)))=some (.agg [.int .i64 l[k].AY,.str l[k].name,.str l[k].value])
def Ex.fl{v:Aa}{l:List A0}(hv:Ex h v l):X7 h v l:=by
 rcases hv with⟨rfl,rfl⟩|⟨id,rfl,hc,_⟩
 .exact⟨rfl,λk hk=>by simp at hk⟩
 .refine⟨rfl,λk hk=>⟨id,k*3,E8 hk,?_⟩⟩;have hg:(l.map A0.row)[k]?=some l[k].row:=by rw[Cj,Ak hk];rfl
  have ld:∀j,j<3->Bk h none (.ptr (some (id,k*3+j)))=l[k].row[j]?:=λj hj=>by simp only[Bk,hc,E5];exact L0 (wR l) hj hg
  have l0:=ld 0 Br;rw[Bb] at l0;have lr:=Q6 (wR l) hc (i:=k) (by simpa using hk);rw[C3] at lr;exact⟨l0,ld 1 Br,lr⟩
def mb(s:Int):N7 cx 54 [.int .i64 s] (.bool (decide (BS.Ir s))):=by rw[TN,tz,t54];unfold BS.Ir;by_cases h1:0<=s<;>by_cases h2:s<=7<;>simp[h1,h2]
def Ű{v:Aa}{l:List A0}(hv:X7 h v l)(hb:l.length<=1000000000)(hs:∀y∈l,BS.Ir y.AY):Co cx 55 [v] h tt h:=by
 rw[Aj,t_,t55];refine BF (λk:Nat=>[ff,.int .i64 (k:Int)]) (λk h1=>k<=l.length/\h1=h) (λk=>l.length-k) 0 rfl ⟨AZ _,rfl⟩ ?_;rintro k h1 ⟨hk,rfl⟩;have hvl:=hv.len;rcases A8 k l.length with hlt|GR
 .obtain⟨id,o,d,c,_⟩:=hv.at_ k hlt;have b:∀{Q:Iw} {h:Ah} {kk:Aa->IT},W cx (.Cx 54 [.int .i64 l[k].AY] kk) Q h↔W cx (kk (.bool (decide (BS.Ir l[k].AY)))) Q h:=(mb _).Cx rfl rfl;simp only[abS,hvl,(Ab:(k:Int)<(l.length:Int)),d,c,b,AW (hs _ (AP hlt)),Cu (Ab:k<9223372036854775807)];exact A7.next (k+1) rfl ⟨hlt,rfl⟩ Ab
 .simp only[abS,hvl,(Ab:¬(k:Int)<(l.length:Int))]
def ű{v:Aa}{l:List A0}(hv:X7 h v l)(hb:l.length<=1000000000):∃u,Co cx 56 [v] h u h/\Cw (Cp l) u:=by
 have hm:AN=140737488355328:=rfl;have hvl:=hv.len;have Ng:Ev cx 56 [v] h λr h'=>Cw (Cp l) r/\h'=h:=by
  unfold Ev;rw[ua,t56];refine BF (λs:Aa×Nat=>[s.1,.int .i64 (s.2:Int)]) (λs h1=>s.2<=l.length/\Cw (Cp (l.take s.2)) s.1/\h1=h) (λs=>l.length-s.2) (.slnil,0) rfl ⟨AZ _,.inr ⟨rfl,rfl⟩,rfl⟩ ?_;rintro⟨u,k⟩ h1 ⟨hk,hu,rfl⟩;simp only at hk hu;rcases A8 k l.length with hlt|GR
  .have YH:=Bn.FL hu;have gV:=NX (l:=l.take k);rw[Aw] at gV;obtain⟨id,o,p,c,d,t⟩:=hv.at_ k hlt;simp only[abS,↓reduceIte,hvl,(Ab:(k:Int)<(l.length:Int))];refine Gu (i:=2) (λj:Nat=>[.bool (((Cp (l.take k)).take j).any λz=>decide (CV l[k]=CV z)),.int .i64 (j:Int)]) (λj h2=>j<=(Cp (l.take k)).length/\h2=h1) (λj=>(Cp (l.take k)).length-j) (λj h2=>j=(Cp (l.take k)).length/\h2=h1) 0 rfl ⟨AZ _,rfl⟩ ?_ ?_
   .rintro j h2 ⟨hj,rfl⟩;rcases A8 j (Cp (l.take k)).length with Yn|w
    .have m:=Bn.Dw (k:= .i64) hu Yn;rw[A0.row] at m;have es:((Cp (l.take k)).take (j+1)).any (λz=>decide (CV l[k]=CV z))=(((Cp (l.take k)).take j).any (λz=>decide (CV l[k]=CV z))||decide (CV l[k]=CV (Cp (l.take k))[j])):=by rw[AL Yn,qC];simp
     by_cases e:(Cp (l.take k))[j].AY=l[k].AY
     .by_cases q:(Cp (l.take k))[j].name=l[k].name
      .have Ų:decide (CV l[k]=CV (Cp (l.take k))[j])=true:=by simp[CV,e,q]
       simp only[abS,YH,(Ab:(j:Int)<((Cp (l.take k)).length:Int)),p,c,d,m,Cg e,AW q,Cu (Ab:j<9223372036854775807)];exact .next (j+1) (by rw[es,Ų,Bool.or_true]) ⟨Yn,rfl⟩ Ab
      .have Ų:decide (CV l[k]=CV (Cp (l.take k))[j])=false:=by simp[CV];exact λ_ h=>q h.symm
       simp only[abS,YH,(Ab:(j:Int)<((Cp (l.take k)).length:Int)),p,c,d,m,Cg e,A4 q,Cu (Ab:j<9223372036854775807)];exact .next (j+1) (by rw[es,Ų,gi]) ⟨Yn,rfl⟩ Ab
     .have Ų:decide (CV l[k]=CV (Cp (l.take k))[j])=false:=by simp[CV];exact λh=>absurd h.symm e
      simp only[abS,YH,(Ab:(j:Int)<((Cp (l.take k)).length:Int)),p,c,m,e,Cu (Ab:j<9223372036854775807)];exact .next (j+1) (by rw[es,Ų,gi]) ⟨Yn,rfl⟩ Ab
    .simp only[abS,YH,(Ab:¬(j:Int)<((Cp (l.take k)).length:Int))];exact .HT j rfl ⟨Ab,rfl⟩
   .rintro j h2 ⟨rfl,rfl⟩;have g:Cp (l.take (k+1))=if(Cp (l.take k)).any (λz=>decide (CV l[k]=CV z)) then Cp (l.take k) else Cp (l.take k)++[l[k]]:=by rw[AL hlt];exact N2
    have em:Ax (.Cb 3) [.agg [.int .i64 l[k].AY,.str l[k].name,.str l[k].value]]=some (.sl 3 [[.int .i64 l[k].AY,.str l[k].name,.str l[k].value]]):=rfl;have a1:=Bn.V6 (f:=A0.row) (b:=40) (a:=l[k]) hu Ab;rw[A0.row] at a1;rw[B6];cases hq:(Cp (l.take k)).any (λz=>decide (CV l[k]=CV z)) with
    |true=>rw[Ad hq] at g;simp only[abS,↓reduceIte,Cu (Ab:k<9223372036854775807)];exact A7.next (u,k+1) rfl ⟨hlt,by rw[g];exact hu,rfl⟩ Gp
    |false=>rw[Ac (by rw[hq];decide)] at g;simp only[abS,Nat.reduceLeDiff,↓reduceIte,p,t,em,a1,Cu (Ab:k<9223372036854775807)];exact A7.next (_,k+1) rfl ⟨hlt,by rw[g];exact .mk,rfl⟩ Gp
  .rw[AT GR] at hu;simp only[abS,↓reduceIte,hvl,(Ab:¬(k:Int)<(l.length:Int))];exact⟨_,rfl,hu⟩
 obtain⟨r,h',hr,hu,rfl⟩:=Ng.ret;exact⟨r,hr,hu⟩
def ų{y:Ek}{K V:Aa}(ok:iX y)(hK:EC y.AX K)(D:X7 h V y.AE):Co cx 53 [.agg (EK y K V)] h tt h:=by
 have f:=yC y K V h;have t:=Bn.FL hK;have s:=D.len;have G:=ok.k;rw[EK] at f;rw[Aj,tw,t53,EK];have F:¬y.kind<1:=Ab;have E:¬y.kind>6:=Ab;have m:¬y.kind=4->¬y.kind=1->¬y.kind=2->y.AX=[]:=λa b c=>CE λhn=>by rcases ok.AX hn with h|h|h<;>contradiction
 have o:=ok.elem;have l:=ok.nm;have j:=ok.dt;have g:=ok.data;have i:=ok.CS;have C:=ok.MM;have r:=ok.K4;have ht:PO y->y.kind=4:=λh=>h.1;by_cases p:PO y
 .have d:=ht p;have e:y.CJ=0:=CE λhn=>by have:=r hn;omega
  obtain⟨z,w⟩:=j Ab;have v:=g Ab Ab;have u:=i Ab;rw[AW p] at f;simp only[d,z,w,v,u,e] at f;simp only[abS,t,s,f.Ag,d,z,w,v,u,e,Int.reduceLT,Int.reduceEq,Int.reduceGT,AG,AK,IP,Hl,Ct,BM,CR,Ck,Ey,C2,AD,AF];try decide
 .rw[A4 p] at f;have B:y.cont=0:=CE λhn=>p (C hn);have q:y.kind=1\/y.kind=2\/y.kind=3\/y.kind=4\/y.kind=5\/y.kind=6:=Ab;rcases q with d|d|d|d|d|d
  all_goals
   have e:y.kind≠2->y.CJ=0:=λh2=>CE λhn=>h2 (r hn);rw[d] at m o l j g i e;simp only[Int.reduceEq,AD,AF,AK,AG,Ct] at m o l j g i e;simp only[d,B,e,m,o,l,j,g,i] at f;simp only[abS,t,s,f.Ag,d,B,e,m,o,l,j,g,i,Bq,Qk,O5,Int.reduceLT,Int.reduceEq,Int.reduceGT,AG,AK,IP,Hl,Ct,BM,CR,Ck,Ey,C2,AD,AF];try decide
def yD{l:List Int}(hn:l.Nodup){k:Nat}(hk:k<l.length):BV (λy=>decide (l[k]=y)) 0 l=(k:Int):=by
 obtain⟨j,hj,e,g,_⟩:=P4 (AP hk);rw[e];rw[Ak hj,Bs] at g;have:j=k:=by
  rcases aHc j k with h|h|h
  .exact absurd g (I1.1 (NH.1 hn) j k hj hk h)
  .exact h
  .exact absurd g.symm (I1.1 (NH.1 hn) k j hk hj h)
 rw[this]
def SA.has(w:SA h a n ss A)(hx:A.has x):Co cx 110 [.ptr (some (a,0)),.int .i64 x] h tt h:=by have:=ů (x:=x) w;rwa [AW hx] at this
def Ŵ{e:Int}(w:SA h a n ss A)(ok:DS A e)(hx:A.has x)(hb:∀y,(A.nd y).AX.length<=1000000000):Co cx 57 [.ptr (some (a,0)),.int .i64 x] h tt h:=by
 have c:=Bn.FL (w.Kq hx);have root:=(ok.Nv x hx).root;have Zv:=(ok.Nv x hx).Zv;have lf:=hb x;have ld:=w.ld hx;rw[EK] at ld;rw[Aj,ub,t57];by_cases hp:(A.nd x).DA=0
 .simp only[abS,w.nodes,w.addr hx,ld,hp,Ct,BM,CR,Ck,Ey,C2,AD,AF];refine BF (λk:Nat=>[ff,.int .i64 (k:Int)]) (λk h1=>k<=(A.nd x).AX.length/\h1=h) (λk=>(A.nd x).AX.length-k) 0 rfl ⟨AZ _,rfl⟩ ?_;rintro k h1 ⟨hk,rfl⟩;rcases A8 k (A.nd x).AX.length with hlt|GR
  .obtain⟨hy,b⟩:=ok.Kq x hx _ (AP hlt);obtain⟨p,g,f⟩:=(EC.L1 (h:=h1) (w.Kq hx)).at_ k hlt;have r2:=yB (h:=h1) (w.Kq hx).L1 lf ((A.nd x).AX[k]);rw[yD Zv hlt] at r2;simp only[abS,c,(Ab:(k:Int)<((A.nd x).AX.length:Int)),g,f,(w.has hy).Ag,w.nodes,w.addr hy,w.f1 hy,b,r2.Ag,Ct,BM,Cu (Ab:k<9223372036854775807)];exact A7.next (k+1) rfl ⟨hlt,rfl⟩ Ab
  .simp only[abS,c,(Ab:¬(k:Int)<((A.nd x).AX.length:Int))]
 .obtain⟨d,hm⟩:=ok.DA x hx hp;obtain⟨m,l⟩:=root hp;obtain⟨i,hi,o,_⟩:=P4 hm;have j:=yB (h:=h) (w.Kq d).L1 (hb _) x;rw[o] at j;simp only[abS,w.nodes,w.addr hx,ld,hp,(w.has d).Ag,m,l,w.addr d,w.f2 d,j.Ag,(Ab:¬(i:Int)<0),Ct];refine BF (λk:Nat=>[ff,.int .i64 (k:Int)]) (λk h1=>k<=(A.nd x).AX.length/\h1=h) (λk=>(A.nd x).AX.length-k) 0 rfl ⟨AZ _,rfl⟩ ?_;rintro k h1 ⟨hk,rfl⟩;rcases A8 k (A.nd x).AX.length with hlt|GR
  .obtain⟨hy,b⟩:=ok.Kq x hx _ (AP hlt);obtain⟨p,g,f⟩:=(EC.L1 (h:=h1) (w.Kq hx)).at_ k hlt;have r2:=yB (h:=h1) (w.Kq hx).L1 lf ((A.nd x).AX[k]);rw[yD Zv hlt] at r2;simp only[abS,c,(Ab:(k:Int)<((A.nd x).AX.length:Int)),g,f,(w.has hy).Ag,w.nodes,w.addr hy,w.f1 hy,b,r2.Ag,Ct,BM,Cu (Ab:k<9223372036854775807)];exact A7.next (k+1) rfl ⟨hlt,rfl⟩ Ab
  .simp only[abS,c,(Ab:¬(k:Int)<((A.nd x).AX.length:Int))]
def ŵ(w:SA h a n ss A)(ok:DS A 0)(hx:A.has x):Co cx 58 [.ptr (some (a,0)),.int .i64 x] h tt h:=by
 obtain⟨c,g⟩:=ok.CQ x hx;have q:=ok.TX x hx;have j:x≠0:=by have:=hx.1;omega
 have rt:=yC (A.nd x) (pS ss x).kv (pS ss x).av h;have ld:=w.ld hx;rw[EK] at ld rt;have p:PO (A.nd x)->A.has (A.nd x).cont/\(A.nd (A.nd x).cont).kind=2/\(A.nd (A.nd x).cont).CJ=x:=λt=>ok.cont x hx (ok.yR x hx j t);have i:(A.nd x).CJ≠0->A.has (A.nd x).CJ/\PO (A.nd (A.nd x).CJ)/\(A.nd (A.nd x).CJ).cont=x:=λh0=>⟨(ok.CJ x hx h0).1,(ok.Nv _ (ok.CJ x hx h0).1).MM (by rw[(ok.CJ x hx h0).2];exact j),(ok.CJ x hx h0).2⟩
 rw[Aj,uc,t58];have tail:(A.nd x).CJ≠0->∃K V,Co cx 109 [.agg (EK (A.nd (A.nd x).CJ) K V)] h tt h/\Bk h (some 13) (.ptr (some (n,nS (A.nd x).CJ)))=some (.agg (EK (A.nd (A.nd x).CJ) K V)):=λh0=>by obtain⟨h1,h2,_⟩:=i h0;have r:=yC (A.nd (A.nd x).CJ) (pS ss (A.nd x).CJ).kv (pS ss (A.nd x).CJ).av h;rw[AW h2] at r;exact⟨_,_,r,w.ld h1⟩
 by_cases f:PO (A.nd x)
 .obtain⟨e,o,m⟩:=p f;have d:¬(A.nd x).kind=1:=by rw[f.1];decide
  rw[AW f] at rt;by_cases b:(A.nd x).CJ=0;.rw[b] at rt;simp only[abS,w.nodes,w.addr hx,ld,(w.has c).Ag,w.addr c,w.f0 c,g,d,rt.Ag,(w.has e).Ag,w.addr e,w.f0 e,o,w.f12 e,m,b,Ct,BM,CR,Ck,Ey,C2,AD,AF]
  .obtain⟨h1,h2,h3⟩:=i b;obtain⟨K,V,r,l⟩:=tail b;simp only[abS,w.nodes,w.addr hx,ld,(w.has c).Ag,w.addr c,w.f0 c,g,d,rt.Ag,(w.has e).Ag,w.addr e,w.f0 e,o,w.f12 e,m,b,(w.has h1).Ag,w.addr h1,l,r.Ag,w.f11 h1,h3,Ct,BM,CR,Ck,Ey,C2,AD,AF]
 .rw[A4 f] at rt;by_cases d:(A.nd x).kind=1
  .have k:=q d;have b:(A.nd x).CJ=0:=CE λh0=>by have:=(ok.Nv x hx).K4 h0;omega
   rw[b,d,k] at rt;simp only[abS,w.nodes,w.addr hx,ld,k,(w.has hx).Ag,w.f0 hx,d,rt.Ag,b,Ct,BM,CR,Ck,Ey,C2,AD,AF]
  .by_cases b:(A.nd x).CJ=0;.rw[b] at rt;simp only[abS,w.nodes,w.addr hx,ld,(w.has c).Ag,w.addr c,w.f0 c,g,d,rt.Ag,b,Ct,BM,CR,Ck,Ey,C2,AD,AF]
   .obtain⟨h1,h2,h3⟩:=i b;obtain⟨K,V,r,l⟩:=tail b;simp only[abS,w.nodes,w.addr hx,ld,(w.has c).Ag,w.addr c,w.f0 c,g,d,rt.Ag,b,(w.has h1).Ag,w.addr h1,l,r.Ag,w.f11 h1,h3,Ct,BM,CR,Ck,Ey,C2,AD,AF]
def Ŷ{e:Int}(w:SA h a n ss A)(ok:DS A e)(hx:A.has x)(hb:ss.length<=900000000):Co cx 59 [.ptr (some (a,0)),.int .i64 x] h ff h:=by
 obtain⟨r,hr⟩:=ok.U4;have b:∀y,A.has y->A.up y=0\/(A.has (A.up y)/\r (A.up y)<r y):=λy hy=>by
  by_cases h0:A.up y=0;.exact .inl h0
  .exact .inr ⟨TZ ok hy h0,hr y hy h0⟩
 have ln:Ax (.len false) [.CI n 0 (ss.length+1) 13]=some (.int .i64 ((ss.length+1:Nat):Int)):=rfl;rw[Aj,ud,t59];simp only[abS,(ma w hx).Ag];refine BF (λs:Int×Nat=>[ff,.int .i64 s.1,.int .i64 (s.2:Int)]) (λs h1=>s.2<=ss.length+1/\(s.1=0\/(A.has s.1/\r s.1<r x))/\h1=h) (λs=>ss.length+1 -s.2) (A.up x,0) rfl ⟨AZ _,b x hx,rfl⟩ ?_;rintro⟨y,k⟩ h1 ⟨hk,hy,rfl⟩;simp only at hk hy;rcases hy with rfl|⟨hy,c⟩
 .simp only[abS,↓reduceIte,Ct,BM]
 .have d:¬y=0:=by have:=hy.1;omega
  have f:¬y=x:=λe=>by rw[e] at c;omega
  rcases A8 k (ss.length+1) with hlt|GR
  .simp only[abS,↓reduceIte,d,w.nodes,ln,(Ab:(k:Int)<((ss.length+1:Nat):Int)),f,(ma w hy).Ag,Cu (Ab:k<9223372036854775807),Ct];exact A7.next (A.up y,k+1) rfl ⟨hlt,(b y hy).imp id λh=>⟨h.1,yw h.2 c⟩,rfl⟩ Gp
  .simp only[abS,↓reduceIte,d,w.nodes,ln,(Ab:¬(k:Int)<((ss.length+1:Nat):Int)),Ct]
def aE{lo:Nat}:∀{Af:List (List Aa)} {l:List Ek},Af.length=l.length->(∀k (h1:k<Af.length) (h2:k<l.length),P2 h lo l[k] Af[k])->
  ∃ss:List SN,l=ss.map SN.x/\Af=ss.map SN.row/\(∀s∈ss,EC s.x.AX s.kv)/\∀s∈ss,Ex h s.av s.x.AE
 |[],[],_,_=>⟨[],rfl,rfl,Av,Av⟩
 |[],_::_,hl,_=>by simp at hl
 |_::_,[],hl,_=>by simp at hl
 |r::Af,y::l,hl,b=>by
  obtain⟨ss,i,g,f,e⟩:=aE (Af:=Af) (l:=l) (by simpa using hl) λk h1 h2=>by have:=b (k+1) (by simpa using h1) (by simpa using h2);simpa using this
  obtain⟨K,V,d,hK,c,_⟩:=b 0 Av Av;simp only[zb] at d hK c;refine⟨⟨y,K,V⟩::ss,by rw[i];rfl,by rw[g,d];rfl,λs hs=>?_,λs hs=>?_⟩
  .rcases Az.1 hs with rfl|hs
   .exact hK
   .exact f s hs
  .rcases Az.1 hs with rfl|hs
   .exact c
   .exact e s hs
def yu{lo:Nat}{v:Aa}(hv:Ls h lo v A.n)(hne:A.n≠[])(hb:A.n.length<=900000000):
  ∃ss:List SN,ss.length=A.n.length/\Od h 13 168 [I 0,I 0,.slnil,I 0,I 0,S [],.slnil,S [],S [],S [],ff,I 0,I 0] (I 1) (I 1)=some (h++[.cells SN.z.row],.CI h.length 0 1 13)/\
   ET (h++[.cells SN.z.row]) 13 168 (.CI h.length 0 1 13) v=some (h++[DH.DD,DH.cells ((SN.z::ss).map SN.row).flatten],.CI (h.length+1) 0 (ss.length+1) 13)/\
   ∀t,SA (h++[DH.DD,DH.cells ((SN.z::ss).map SN.row).flatten]++[DH.cells [.CI (h.length+1) 0 (ss.length+1) 13,.slnil]]++t) (h.length+2) (h.length+1) ss A:=by
 have yQ:AN=140737488355328:=rfl;obtain⟨Af,e,c,j⟩:=hv;obtain⟨ss,d,i,g,f⟩:=aE c j;have hl:ss.length=A.n.length:=by rw[d,As]
 refine⟨ss,hl,rfl,?_,λt=>⟨d,Av,Av,g,λs hs=>?_⟩⟩
 .have aEl:Af≠[]:=by rintro rfl;exact hne (B4 (by simpa using c.symm))
  have hg:=Mp (h:=h++[.cells SN.z.row]) (id:=h.length) (Af:=[SN.z.row]) (r2:=Af) (z:=13) (b:=168) (v:=v) (by simp;rfl) Br Av e aEl (by rw[c];simp;omega);rw[BN] at hg;rw[hg,i];simp[KF]
 .rw[AA,AA];exact(f s hs).Ja
def ŷ{lo:Nat}{v:Aa}(ok:DS A 0)(hv:Ls h lo v A.n)(hne:A.n≠[])(hb:A.n.length<=900000000)(hk:∀y,(A.nd y).AX.length<=1000000000)(ha:∀y,(A.nd y).AE.length<=1000000000):∃t,Co cx 14 [v] h tt (h++t):=by
 obtain⟨ss,hl,g1,g2,g3⟩:=yu hv hne hb;have vc:v.cells=[v]:=by obtain⟨Af,i,_⟩:=hv;exact Bn.cells i
 obtain⟨t0,b⟩:∃t0,h++[DH.DD,DH.cells ((SN.z::ss).map SN.row).flatten]++[DH.cells [.CI (h.length+1) 0 (ss.length+1) 13,.slnil]]=h++t0:=⟨_,AA _ _ _⟩;have w:=g3 [];rw[Bi,b] at w;have s:(h++[DH.DD,DH.cells ((SN.z::ss).map SN.row).flatten]).length=h.length+2:=Av;have ln:Ax (.len false) [.CI (h.length+1) 0 (ss.length+1) 13]=some (.int .i64 ((ss.length+1:Nat):Int)):=rfl;refine⟨t0,?_⟩;rw[Aj,sx,t14];refine bD g1 ?_;simp only[abS,Nat.reduceLeDiff,↓reduceIte,Bl,g2,s,b];obtain⟨a0,ea⟩:∃a0,h.length+2=a0:=⟨_,rfl⟩;obtain⟨e,f⟩:∃e,h.length+1=e:=⟨_,rfl⟩;rw[ea,f] at w;rw[f] at ln;rw[ea];obtain⟨H,g⟩:∃H,h++t0=H:=⟨_,rfl⟩;rw[g] at w⊢;have p:=w.len;refine BF (λk:Nat=>[ff,.int .i64 (k:Int)]) (λk h1=>1<=k/\k<=ss.length+1/\h1=H) (λk=>ss.length+1 -k) 1 rfl ⟨Ae _,Ab,rfl⟩ ?_;rintro k h1 ⟨SX,O7,rfl⟩;rcases A8 k (ss.length+1) with hlt|GR
 .have hx:A.has (k:Int):=by unfold Ar.has;omega
  have c:=ok.Nv _ hx;have av:=(w.Ī hx).fl;have ld:=w.ld hx;have d:=ų (h:=h1) c (w.Kq hx) av;have r2:=Ű av (ha _) c.uA;obtain⟨u,l,hu⟩:=ű av (ha _);rw[c.Cp] at hu;have o:=Bn.FL hu;have m:=av.len;have rs:∀{Q:Iw} {h:Ah} {kk:Aa->IT},W cx (.Cx 54 [.int .i64 (A.nd k).AY] kk) Q h↔W cx (kk tt) Q h:=λ{Q h kk}=>by have:=(mb (A.nd k).AY).Cx (h:=h) (Q:=Q) (k:=kk) rfl rfl;rwa [AW (show BS.Ir (A.nd k).AY from c.sp)] at this
  rw[EK] at ld d;simp only[abS,w.nodes,ln,(Ab:(k:Int)<((ss.length+1:Nat):Int)),w.addr hx,ld,d.Ag,rs,r2.Ag,m,l.Ag,o,(Ŵ w ok hx hk).Ag,(ŵ w ok hx).Ag,Ct,BM,Cu (Ab:k<9223372036854775807)];exact A7.next (k+1) rfl ⟨Ab,hlt,rfl⟩ Ab
 .simp only[abS,w.nodes,ln,(Ab:¬(k:Int)<((ss.length+1:Nat):Int))];refine BF (λk:Nat=>[ff,.int .i64 (k:Int)]) (λk h2=>1<=k/\k<=ss.length+1/\h2=h1) (λk=>ss.length+1 -k) 1 rfl ⟨Ae _,Ab,rfl⟩ ?_;rintro j h2 ⟨r,q,rfl⟩;rcases A8 j (ss.length+1) with hlt|GR
  .have hx:A.has (j:Int):=by unfold Ar.has;omega
   simp only[abS,w.nodes,ln,(Ab:(j:Int)<((ss.length+1:Nat):Int)),(Ŷ w ok hx Ab).Ag,Cu (Ab:j<9223372036854775807)];exact A7.next (j+1) rfl ⟨Ab,hlt,rfl⟩ Ab
  .simp only[abS,w.nodes,ln,(Ab:¬(j:Int)<((ss.length+1:Nat):Int)),g]
end
end Go.Am
end
