/- Lemmas -/
import Derived.Test.YtemolpggcmbieaaGreatDoorZ26
import Derived.Test.YtemolpggcmbieaaGreatDoorZ7
set_option linter.all false
set_option maxRecDepth 100000
section
namespace Go.Am
open Go
abbrev yD:Ty:= .st [.int .i64,.str,.str]
abbrev tOp:Ty:= .st [.int .i64,.str,.sl yD,.int .i64,.int .i64,.bool,.str,.int .i32,.int .i64]
abbrev aL3:Ty:= .st [.int .i64,.str,.sl yD,.bool,.bool]
abbrev dZ:Ty:= .st [.bool,aL3]
def ZQ{U:Type}{P:List Aa->Prop}{f:U->List Aa}{Q:U->Prop}(h:∀r,P r->∃a,r=f a/\Q a):∀{Aw:List (List Aa)},(∀r∈Aw,P r)->∃l:List U,Aw=l.map f/\∀a∈l,Q a
 |[],_=>⟨[],rfl,Ax⟩
 |r::Aw,hr=>by obtain⟨a,rfl,hq⟩:=h r (hr r Ax);obtain⟨l,rfl,hl⟩:=ZQ h (Aw:=Aw) λr h=>hr r (by simp[h]);exact⟨a::l,rfl,by simpa[hq] using hl⟩
def eA{U:Type}{e:Ty}{f:U->List Aa}{Q:U->Prop}(h:∀r,Yn e r->∃a,r=f a/\Q a){v:Aa}(hv:Yn (.sl e) [v]):∃l:List U,Bz (Ty.size e) (l.map f) v/\l.length<=maxLen/\∀a∈l,Q a:=by
 unfold Yn at hv;rcases hv with b|⟨Aw,b,hl,hr⟩
 .cases b;exact⟨[],.nil,Ax,Ax⟩
 .cases b;obtain⟨l,rfl,hq⟩:=ZQ h hr;exact⟨l,.mk,by simpa using hl,hq⟩
def KL{r:List Aa}{k:IntKind}(h:Yn (.int k) r):∃n,r=[.int k n]/\(Lit.int k n).wf=true:=h
def Ly{r:List Aa}(h:Yn .str r):∃s:Ak,r=[.str s]:=let⟨n,e,_⟩:=h;⟨n,e⟩
def JV{r:List Aa}(h:Yn .bool r):∃b,r=[.bool b]:=h
def CE{t:Ty}{ts:List Ty}{l:List Aa}(h:ak (t::ts) l):∃a b,l=a++b/\Yn t a/\ak ts b:=h
def PF{l:List Aa}(h:ak [] l):l=[]:=h
def TN{e:Ty}{r:List Aa}(h:Yn (.sl e) r):∃v,r=[v]/\Yn (.sl e) [v]:=by have h':=h;unfold Yn at h';rcases h' with rfl|⟨Aw,rfl,_⟩<;>exact⟨_,rfl,h⟩
def XR(r:List Aa)(h:Yn yD r):∃a:A7,r=a.row/\True:=by obtain⟨i,e,rfl,h1,h⟩:=CE h;obtain⟨g,d,rfl,h2,h⟩:=CE h;obtain⟨f,c,rfl,b,h⟩:=CE h;obtain rfl:=PF h;obtain⟨n,rfl,_⟩:=KL h1;obtain⟨s,rfl⟩:=Ly h2;obtain⟨t,rfl⟩:=Ly b;exact⟨⟨n,s,t⟩,rfl,trivial⟩
def aC9(r:List Aa)(h:Yn tOp r):∃a:QO,r=a.row/\(-2147483648<=a.q.r/\a.q.r<=2147483647):=by obtain⟨O,F,rfl,h1,h⟩:=CE h;obtain⟨N,E,rfl,h2,h⟩:=CE h;obtain⟨M,D,rfl,b,h⟩:=CE h;obtain⟨L,C,rfl,w,h⟩:=CE h;obtain⟨K,B,rfl,u,h⟩:=CE h;obtain⟨J,A,rfl,t,h⟩:=CE h;obtain⟨I,z,rfl,s,h⟩:=CE h;obtain⟨H,y,rfl,p,h⟩:=CE h;obtain⟨G,x,rfl,o,h⟩:=CE h;obtain rfl:=PF h;obtain⟨k,rfl,_⟩:=KL h1;obtain⟨e,rfl⟩:=Ly h2;obtain⟨v,rfl,b⟩:=TN b;obtain⟨l,b,_,_⟩:=eA XR b;obtain⟨j,rfl,_⟩:=KL w;obtain⟨i,rfl,_⟩:=KL u;obtain⟨b6,rfl⟩:=JV t;obtain⟨d,rfl⟩:=Ly s;obtain⟨g,rfl,c⟩:=KL p;obtain⟨f,rfl,_⟩:=KL o;refine⟨⟨⟨k,e,l,j,i,b6,d,g,f⟩,v,b⟩,rfl,?_⟩;have n:IntKind.i32.min= -2147483648:=rfl;have m:IntKind.i32.max=2147483647:=rfl;simp[Lit.wf,n,m] at c;exact c
def pS{v:Aa}(h:mX dZ v):∃(s:GF) (av:Aa),v= .agg (Qo s av)/\A8 s.Av av:=by obtain⟨r,rfl,h⟩:=h;obtain⟨A,q,rfl,h1,h⟩:=CE h;obtain⟨z,p,rfl,h2,h⟩:=CE h;obtain rfl:=PF h;obtain⟨b1,rfl⟩:=JV h1;obtain⟨y,o,rfl,g,h⟩:=CE h2;obtain⟨x,n,rfl,f,h⟩:=CE h;obtain⟨w,m,rfl,a,h⟩:=CE h;obtain⟨u,k,rfl,e,h⟩:=CE h;obtain⟨t,j,rfl,d,h⟩:=CE h;obtain rfl:=PF h;obtain⟨c,rfl,_⟩:=KL g;obtain⟨b,rfl⟩:=Ly f;obtain⟨v,rfl,a⟩:=TN a;obtain⟨l,a,_,_⟩:=eA XR a;obtain⟨b6,rfl⟩:=JV e;obtain⟨i,rfl⟩:=JV d;exact⟨⟨b1,c,b,l,b6,i⟩,v,rfl,a⟩
def uk{v:Aa}(h:mX (.sl tOp) v):∃l:List QO,ZP l v/\∀x∈l,-2147483648<=x.q.r/\x.q.r<=2147483647:=by have h:Yn (.sl tOp) [v]:=h;obtain⟨l,h1,_,h2⟩:=eA aC9 h;exact⟨l,h1,h2⟩
def E8(l:List A7):Prop:=l.length<=20/\∀x∈l,x.name.length<=400/\x.value.length<=400
instance(l:List A7):Decidable (E8 l):=by unfold E8;infer_instance
def E8.OF{l:List A7}(h:E8 l):EM l:=⟨by have:=h.1;omega,λa ha=>by have:=h.2 a ha;omega⟩
section
variable{h:Ah}
def f9{v:Aa}{l:List A7}(hv:A8 l v)(h:Ah):Ca cx 12 [v] h (.bool (decide (E8 l))) h:=by
 have Gc:Bz 3 (l.map A7.row) v:=hv;have a:=Bz.Ha hv;rw[Ae,aAy,t12];refine B1 (λn:Nat=>[ff,I (n:Int)]) (λn h1=>n<=l.length/\n<=21/\(∀x∈l.take n,x.name.length<=400/\x.value.length<=400)/\h1=h) (λn=>l.length-n) 0 rfl ⟨Bd _,Bd _,Ax,rfl⟩ ?_;rintro n h1 ⟨hn,hb,ha,rfl⟩;rcases Bk n l.length with hlt|Hh
 .have b:=Bz.Dh (k:= .i64) hv hlt;rw[A7.row] at b;have eZ:¬(l[n].name.length<=400/\l[n].value.length<=400)->¬E8 l:=λh1 h2=>h1 (h2.2 _ (A5 hlt));by_cases Qm:n<=20
  .by_cases c:(400:Int)<(l[n].name.length:Int);.have e:decide (E8 l)=false:=Ai (eZ Ac);rw[e];simp only[abS,a,(Ac:(n:Int)<(l.length:Int)),(Ac:(n:Int)<=20),b,c]
   .by_cases d:(400:Int)<(l[n].value.length:Int);.have e:decide (E8 l)=false:=Ai (eZ Ac);rw[e];simp only[abS,a,(Ac:(n:Int)<(l.length:Int)),(Ac:(n:Int)<=20),b,c,d]
    .simp only[abS,a,(Ac:(n:Int)<(l.length:Int)),(Ac:(n:Int)<=20),b,c,d,CR (Ac:n<9223372036854775807)];refine By.next (n+1) rfl ⟨hlt,Ac,λx hx=>?_,rfl⟩ Ac;rw[AS hlt,Aq,AU] at hx;rcases hx with hx|rfl
     .exact ha x hx
     .exact⟨Ac,Ac⟩
  .have e:decide (E8 l)=false:=Ai λh=>by have:=h.1;omega
   rw[e];simp only[abS,a,(Ac:(n:Int)<(l.length:Int)),(Ac:¬(n:Int)<=20),(Ac:¬(l.length:Int)<=20),Fc]
 .rw[Be Hh] at ha;have f:decide (E8 l)=decide ((l.length:Int)<=20):=by rw[Dn];exact⟨λh=>by have:=h.1;omega,λh=>⟨Ac,ha⟩⟩
  rw[f];simp only[abS,a,(Ac:¬(n:Int)<(l.length:Int))]
def UC(s:GF):Prop:=s.name.length<=60/\E8 s.Av
instance(s:GF):Decidable (UC s):=by unfold UC;infer_instance
def f5(s:GF){av:Aa}(hv:A8 s.Av av)(h:Ah):Ca cx 11 [.agg [I s.A9,.str s.name,av,.bool s.CS,.bool s.HQ]] h (.bool (decide (UC s))) h:=by
 have b:=f9 hv h;have fm:av.cells=[av]:=Bz.cells hv;rw[Ae,aAx,t11];by_cases a:(s.name.length:Int)<=60
 .have e:decide (UC s)=decide (E8 s.Av):=by rw[Dn];exact⟨λh=>h.2,λh=>⟨Ac,h⟩⟩
  rw[e];simp only[abS,a,b.Ad]
 .have e:decide (UC s)=false:=Ai λh=>by have:=h.1;omega
  rw[e];simp only[abS,a]
def pT(q:dz):Prop:=q.name.length<=60/\q.s.length<=200/\E8 q.Av
instance(q:dz):Decidable (pT q):=by unfold pT;infer_instance
def pT.ok{q:dz}(h:pT q)(hr: -2147483648<=q.r/\q.r<=2147483647):í q:=⟨by have:=h.1;omega,h.2.2.OF,by have:=h.2.1;omega,hr⟩
def Nr(l:List QO)(m:Nat):Prop:=l.length<=m/\∀x∈l,pT x.q
instance(l:List QO)(m:Nat):Decidable (Nr l m):=by unfold Nr;infer_instance
def f4{v:Aa}{l:List QO}(hv:ZP l v){m:Nat}(hm:m<=1000)(h:Ah):Ca cx 10 [v,I (m:Int)] h (.bool (decide (Nr l m))) h:=by
 have a:=Bz.Ha hv;rw[Ae,aAw,t10];refine B1 (λn:Nat=>[ff,I (n:Int)]) (λn h1=>n<=l.length/\n<=m+1/\(∀x∈l.take n,pT x.q)/\h1=h) (λn=>l.length-n) 0 rfl ⟨Bd _,Bd _,Ax,rfl⟩ ?_;rintro n h1 ⟨hn,hb,ha,rfl⟩;rcases Bk n l.length with hlt|Hh
 .have b:=Bz.Dh (k:= .i64) hv hlt;have c:=f9 l[n].ok h1;have eZ:¬pT l[n].q->¬Nr l m:=λh1 h2=>h1 (h2.2 _ (A5 hlt));rw[QO.row,SD] at b;by_cases Qm:n<=m
  .by_cases f:(60:Int)<(l[n].q.name.length:Int);.have e:decide (Nr l m)=false:=Ai (eZ λh=>by have:=h.1;omega);rw[e];simp only[abS,a,(Ac:(n:Int)<(l.length:Int)),(Ac:(n:Int)<=(m:Int)),b,f]
   .by_cases g:(200:Int)<(l[n].q.s.length:Int);.have e:decide (Nr l m)=false:=Ai (eZ λh=>by have:=h.2.1;omega);rw[e];simp only[abS,a,(Ac:(n:Int)<(l.length:Int)),(Ac:(n:Int)<=(m:Int)),b,f,g]
    .by_cases d:E8 l[n].q.Av
     .rw[Al d] at c;simp only[abS,a,(Ac:(n:Int)<(l.length:Int)),(Ac:(n:Int)<=(m:Int)),b,f,g,c.Ad,CR (Ac:n<9223372036854775807)];refine By.next (n+1) rfl ⟨hlt,Ac,λx hx=>?_,rfl⟩ Ac;rw[AS hlt,Aq,AU] at hx;rcases hx with hx|rfl
      .exact ha x hx
      .exact⟨Ac,Ac,d⟩
     .have e:decide (Nr l m)=false:=Ai (eZ λh=>d h.2.2);rw[Ai d] at c;rw[e];simp only[abS,a,(Ac:(n:Int)<(l.length:Int)),(Ac:(n:Int)<=(m:Int)),b,f,g,c.Ad]
  .have e:decide (Nr l m)=false:=Ai λh=>by have:=h.1;omega
   rw[e];simp only[abS,a,(Ac:(n:Int)<(l.length:Int)),(Ac:¬(n:Int)<=(m:Int)),(Ac:¬(l.length:Int)<=(m:Int)),Fc]
 .rw[Be Hh] at ha;have i:decide (Nr l m)=decide ((l.length:Int)<=(m:Int)):=by rw[Dn];exact⟨λh=>by have:=h.1;omega,λh=>⟨Ac,ha⟩⟩
  rw[i];simp only[abS,a,(Ac:¬(n:Int)<(l.length:Int))]
end
section
variable{h h':Ah}{bi a lo:Nat}{o c t v:Aa}{G G' F F':Nat->Prop}{b:BS}{q:dz}{av:Aa}{j m:Nat}
def ņ(s:GF)(hv:A8 s.Av av)(hl:EM s.Av){l:List QO}(ho:ZP l v)(hb:l.length<=60)(hq:∀x∈l,í x.q)(h:Ah):
  ∃h' bi F,Ca cx 7 [.agg (Qo s av),v] h (Pt bi 0) h'/\PB h' bi (L5 s.b l) F/\Ew h (λ_=>False) h' F:=by
 obtain⟨h1,bi,F,i,w0,w⟩:=aL2 s hv hl h;have Pb:Ev cx 7 [.agg (Qo s av),v] h λr h'=>r= Pt bi 0/\∃F,PB h' bi (L5 s.b l) F/\Ew h (λ_=>False) h' F:=by
  unfold Ev;have fm:av.cells=[av]:=Bz.cells hv;have p:=Bz.Ha ho;rw[aFC,t7];rw[Qo] at i⊢;simp only[abS,i.Ad];refine B1 (λn:Nat=>[I (n:Int)]) (λn h2=>n<=l.length/\∃F,PB h2 bi (L5 s.b (l.take n)) F/\Ew h (λ_=>False) h2 F) (λn=>l.length-n) 0 rfl ⟨Bd _,F,w0,w⟩ ?_;rintro n E ⟨RN,C,e,f⟩;rcases Bk n l.length with hlt|Hh
  .have z:=Bz.Dh (k:= .i64) ho hlt;have d:Fin (L5 s.b (l.take n)) (39+1):=XQ (j:=40) (l:=l.take n) (s.ID.le (by rw[AB];omega)) λx hx=>hq x (A4 hx);obtain⟨D,B,g,y,u⟩:=aL1 e d (hq _ (A5 hlt)) l[n].ok;have hr:SD l[n].q l[n].v=l[n].row:=rfl;rw[hr] at g;simp only[abS,p,(Ac:(n:Int)<(l.length:Int)),z,QO.DS,QO.KV,Ab,g.Ad,CR (Ac:n<9223372036854775807)];exact By.next (n+1) rfl ⟨hlt,B,by rw[AS hlt,XP];exact y,f.trans u⟩ Ac
  .rw[Be Hh] at e;simp only[abS,p,(Ac:¬(n:Int)<(l.length:Int))];exact⟨_,rfl,rfl,C,e,f⟩
 obtain⟨r,h',hr,rfl,F',w',x'⟩:=Pb.ret;exact⟨h',bi,F',hr,w',x'⟩
end
section
variable{h:Ah}{a n:Nat}{m:Option Nat}{ps:List PN}{A:Ar}{x:Int}
end
end Go.Am
end
