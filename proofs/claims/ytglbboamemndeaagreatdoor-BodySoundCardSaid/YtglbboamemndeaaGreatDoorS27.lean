/- Lemmas -/
import Derived.Test.YtglbboamemndeaaGreatDoorS26
import Derived.Test.YtglbboamemndeaaGreatDoorS7
set_option linter.all false
set_option maxRecDepth 100000
section
namespace Go.Am
open Go
abbrev yH:Ty:= .st [.int .i64,.str,.str]
abbrev tOp:Ty:= .st [.int .i64,.str,.sl yH,.int .i64,.int .i64,.bool,.str,.int .i32,.int .i64]
abbrev aIX:Ty:= .st [.int .i64,.str,.sl yH,.bool,.bool]
abbrev jK:Ty:= .st [.bool,aIX]
def aE{U:Type}{P:List Aa->Prop}{f:U->List Aa}{Q:U->Prop}(h:∀r,P r->∃a,r=f a/\Q a):∀{Av:List (List Aa)},(∀r∈Av,P r)->∃l:List U,Av=l.map f/\∀a∈l,Q a
 |[],_=>⟨[],rfl,Ax⟩
 |r::Av,hr=>by obtain⟨a,rfl,hq⟩:=h r (hr r Ax);obtain⟨l,rfl,hl⟩:=aE h (Av:=Av) λr h=>hr r (by simp[h]);exact⟨a::l,rfl,by simpa[hq] using hl⟩
def Yd{U:Type}{e:Ty}{f:U->List Aa}{Q:U->Prop}(h:∀r,YM e r->∃a,r=f a/\Q a){v:Aa}(hv:YM (.sl e) [v]):∃l:List U,Bz (Ty.size e) (l.map f) v/\l.length<=maxLen/\∀a∈l,Q a:=by
 unfold YM at hv;rcases hv with b|⟨Av,b,hl,hr⟩
 .cases b;exact⟨[],.nil,Ax,Ax⟩
 .cases b;obtain⟨l,rfl,hq⟩:=aE h hr;exact⟨l,.mk,by simpa using hl,hq⟩
def KH{r:List Aa}{k:IntKind}(h:YM (.int k) r):∃n,r=[.int k n]/\(Lit.int k n).wf=true:=h
def LD{r:List Aa}(h:YM .str r):∃s:Aj,r=[.str s]:=let⟨n,e,_⟩:=h;⟨n,e⟩
def JX{r:List Aa}(h:YM .bool r):∃b,r=[.bool b]:=h
def Ct{t:Ty}{ts:List Ty}{l:List Aa}(h:aq (t::ts) l):∃a b,l=a++b/\YM t a/\aq ts b:=h
def NF{l:List Aa}(h:aq [] l):l=[]:=h
def TP{e:Ty}{r:List Aa}(h:YM (.sl e) r):∃v,r=[v]/\YM (.sl e) [v]:=by have h':=h;unfold YM at h';rcases h' with rfl|⟨Av,rfl,_⟩<;>exact⟨_,rfl,h⟩
def Ye(r:List Aa)(h:YM yH r):∃a:AZ,r=a.row/\True:=by obtain⟨i,e,rfl,h1,h⟩:=Ct h;obtain⟨g,d,rfl,h2,h⟩:=Ct h;obtain⟨f,c,rfl,b,h⟩:=Ct h;obtain rfl:=NF h;obtain⟨n,rfl,_⟩:=KH h1;obtain⟨s,rfl⟩:=LD h2;obtain⟨t,rfl⟩:=LD b;exact⟨⟨n,s,t⟩,rfl,trivial⟩
def aAv(r:List Aa)(h:YM tOp r):∃a:QO,r=a.row/\(-2147483648<=a.q.r/\a.q.r<=2147483647):=by obtain⟨O,F,rfl,h1,h⟩:=Ct h;obtain⟨N,E,rfl,h2,h⟩:=Ct h;obtain⟨M,D,rfl,b,h⟩:=Ct h;obtain⟨L,C,rfl,w,h⟩:=Ct h;obtain⟨K,B,rfl,u,h⟩:=Ct h;obtain⟨J,A,rfl,t,h⟩:=Ct h;obtain⟨I,z,rfl,s,h⟩:=Ct h;obtain⟨H,y,rfl,p,h⟩:=Ct h;obtain⟨G,x,rfl,o,h⟩:=Ct h;obtain rfl:=NF h;obtain⟨k,rfl,_⟩:=KH h1;obtain⟨e,rfl⟩:=LD h2;obtain⟨v,rfl,b⟩:=TP b;obtain⟨l,b,_,_⟩:=Yd Ye b;obtain⟨j,rfl,_⟩:=KH w;obtain⟨i,rfl,_⟩:=KH u;obtain⟨b6,rfl⟩:=JX t;obtain⟨d,rfl⟩:=LD s;obtain⟨g,rfl,c⟩:=KH p;obtain⟨f,rfl,_⟩:=KH o;refine⟨⟨⟨k,e,l,j,i,b6,d,g,f⟩,v,b⟩,rfl,?_⟩;have n:IntKind.i32.min= -2147483648:=rfl;have m:IntKind.i32.max=2147483647:=rfl;simp[Lit.wf,n,m] at c;exact c
def uM{v:Aa}(h:qV jK v):∃(s:Hd) (av:Aa),v= .agg (SL s av)/\A6 s.As av:=by obtain⟨r,rfl,h⟩:=h;obtain⟨A,q,rfl,h1,h⟩:=Ct h;obtain⟨z,p,rfl,h2,h⟩:=Ct h;obtain rfl:=NF h;obtain⟨b1,rfl⟩:=JX h1;obtain⟨y,o,rfl,g,h⟩:=Ct h2;obtain⟨x,n,rfl,f,h⟩:=Ct h;obtain⟨w,m,rfl,a,h⟩:=Ct h;obtain⟨u,k,rfl,e,h⟩:=Ct h;obtain⟨t,j,rfl,d,h⟩:=Ct h;obtain rfl:=NF h;obtain⟨c,rfl,_⟩:=KH g;obtain⟨b,rfl⟩:=LD f;obtain⟨v,rfl,a⟩:=TP a;obtain⟨l,a,_,_⟩:=Yd Ye a;obtain⟨b6,rfl⟩:=JX e;obtain⟨i,rfl⟩:=JX d;exact⟨⟨b1,c,b,l,b6,i⟩,v,rfl,a⟩
def tg{v:Aa}(h:qV (.sl tOp) v):∃l:List QO,oG l v/\∀x∈l,-2147483648<=x.q.r/\x.q.r<=2147483647:=by have h:YM (.sl tOp) [v]:=h;obtain⟨l,h1,_,h2⟩:=Yd aAv h;exact⟨l,h1,h2⟩
def Fb(l:List AZ):Prop:=l.length<=20/\∀x∈l,x.name.length<=400/\x.value.length<=400
instance(l:List AZ):Decidable (Fb l):=by unfold Fb;infer_instance
def Fb.OL{l:List AZ}(h:Fb l):E1 l:=⟨by have:=h.1;omega,λa ha=>by have:=h.2 a ha;omega⟩
section
variable{h:Ai}
def f9{v:Aa}{l:List AZ}(hv:A6 l v)(h:Ai):B2 cx 21 [v] h (.bool (decide (Fb l))) h:=by
 have Hq:Bz 3 (l.map AZ.row) v:=hv;have a:=Bz.GO hv;rw[Ae,š];refine BM (λn:Nat=>[ff,I (n:Int)]) (λn h1=>n<=l.length/\n<=21/\(∀x∈l.take n,x.name.length<=400/\x.value.length<=400)/\h1=h) (λn=>l.length-n) 0 rfl ⟨Bc _,Bc _,Ax,rfl⟩ ?_;rintro n h1 ⟨hn,hb,ha,rfl⟩;rcases Bl n l.length with hlt|GS
 .have b:=Bz.DB (k:= .i64) hv hlt;rw[AZ.row] at b;have kE:¬(l[n].name.length<=400/\l[n].value.length<=400)->¬Fb l:=λh1 h2=>h1 (h2.2 _ (Bb hlt));by_cases Qt:n<=20
  .by_cases c:(400:Int)<(l[n].name.length:Int);.have e:decide (Fb l)=false:=Ah (kE Ac);rw[e];simp only[abS,a,(Ac:(n:Int)<(l.length:Int)),(Ac:(n:Int)<=20),b,c]
   .by_cases d:(400:Int)<(l[n].value.length:Int);.have e:decide (Fb l)=false:=Ah (kE Ac);rw[e];simp only[abS,a,(Ac:(n:Int)<(l.length:Int)),(Ac:(n:Int)<=20),b,c,d]
    .simp only[abS,a,(Ac:(n:Int)<(l.length:Int)),(Ac:(n:Int)<=20),b,c,d,CE (Ac:n<9223372036854775807)];refine Br.next (n+1) rfl ⟨hlt,Ac,λx hx=>?_,rfl⟩ Ac;rw[AP hlt,Aq,AQ] at hx;rcases hx with hx|rfl
     .exact ha x hx
     .exact⟨Ac,Ac⟩
  .have e:decide (Fb l)=false:=Ah λh=>by have:=h.1;omega
   rw[e];simp only[abS,a,(Ac:(n:Int)<(l.length:Int)),(Ac:¬(n:Int)<=20),(Ac:¬(l.length:Int)<=20),C0]
 .rw[A8 GS] at ha;have f:decide (Fb l)=decide ((l.length:Int)<=20):=by rw[C7];exact⟨λh=>by have:=h.1;omega,λh=>⟨Ac,ha⟩⟩
  rw[f];simp only[abS,a,(Ac:¬(n:Int)<(l.length:Int))]
def Uw(s:Hd):Prop:=s.name.length<=60/\Fb s.As
instance(s:Hd):Decidable (Uw s):=by unfold Uw;infer_instance
def f5(s:Hd){av:Aa}(hv:A6 s.As av)(h:Ai):B2 cx 14 [.agg [I s.Be,.str s.name,av,.bool s.CL,.bool s.IG]] h (.bool (decide (Uw s))) h:=by
 have b:=f9 hv h;have vt:av.cells=[av]:=Bz.cells hv;rw[Ae,Š];by_cases a:(s.name.length:Int)<=60
 .have e:decide (Uw s)=decide (Fb s.As):=by rw[C7];exact⟨λh=>h.2,λh=>⟨Ac,h⟩⟩
  rw[e];simp only[abS,a,b.Ad]
 .have e:decide (Uw s)=false:=Ah λh=>by have:=h.1;omega
  rw[e];simp only[abS,a]
def uN(q:d_):Prop:=q.name.length<=60/\q.s.length<=200/\Fb q.As
instance(q:d_):Decidable (uN q):=by unfold uN;infer_instance
def uN.ok{q:d_}(h:uN q)(hr: -2147483648<=q.r/\q.r<=2147483647):ĉ q:=⟨by have:=h.1;omega,h.2.2.OL,by have:=h.2.1;omega,hr⟩
def NG(l:List QO)(m:Nat):Prop:=l.length<=m/\∀x∈l,uN x.q
instance(l:List QO)(m:Nat):Decidable (NG l m):=by unfold NG;infer_instance
def f4{v:Aa}{l:List QO}(hv:oG l v){m:Nat}(hm:m<=1000)(h:Ai):B2 cx 13 [v,I (m:Int)] h (.bool (decide (NG l m))) h:=by
 have a:=Bz.GO hv;rw[Ae,ş];refine BM (λn:Nat=>[ff,I (n:Int)]) (λn h1=>n<=l.length/\n<=m+1/\(∀x∈l.take n,uN x.q)/\h1=h) (λn=>l.length-n) 0 rfl ⟨Bc _,Bc _,Ax,rfl⟩ ?_;rintro n h1 ⟨hn,hb,ha,rfl⟩;rcases Bl n l.length with hlt|GS
 .have b:=Bz.DB (k:= .i64) hv hlt;have c:=f9 l[n].ok h1;have kE:¬uN l[n].q->¬NG l m:=λh1 h2=>h1 (h2.2 _ (Bb hlt));rw[QO.row,SK] at b;by_cases Qt:n<=m
  .by_cases f:(60:Int)<(l[n].q.name.length:Int);.have e:decide (NG l m)=false:=Ah (kE λh=>by have:=h.1;omega);rw[e];simp only[abS,a,(Ac:(n:Int)<(l.length:Int)),(Ac:(n:Int)<=(m:Int)),b,f]
   .by_cases g:(200:Int)<(l[n].q.s.length:Int);.have e:decide (NG l m)=false:=Ah (kE λh=>by have:=h.2.1;omega);rw[e];simp only[abS,a,(Ac:(n:Int)<(l.length:Int)),(Ac:(n:Int)<=(m:Int)),b,f,g]
    .by_cases d:Fb l[n].q.As
     .rw[Ak d] at c;simp only[abS,a,(Ac:(n:Int)<(l.length:Int)),(Ac:(n:Int)<=(m:Int)),b,f,g,c.Ad,CE (Ac:n<9223372036854775807)];refine Br.next (n+1) rfl ⟨hlt,Ac,λx hx=>?_,rfl⟩ Ac;rw[AP hlt,Aq,AQ] at hx;rcases hx with hx|rfl
      .exact ha x hx
      .exact⟨Ac,Ac,d⟩
     .have e:decide (NG l m)=false:=Ah (kE λh=>d h.2.2);rw[Ah d] at c;rw[e];simp only[abS,a,(Ac:(n:Int)<(l.length:Int)),(Ac:(n:Int)<=(m:Int)),b,f,g,c.Ad]
  .have e:decide (NG l m)=false:=Ah λh=>by have:=h.1;omega
   rw[e];simp only[abS,a,(Ac:(n:Int)<(l.length:Int)),(Ac:¬(n:Int)<=(m:Int)),(Ac:¬(l.length:Int)<=(m:Int)),C0]
 .rw[A8 GS] at ha;have i:decide (NG l m)=decide ((l.length:Int)<=(m:Int)):=by rw[C7];exact⟨λh=>by have:=h.1;omega,λh=>⟨Ac,ha⟩⟩
  rw[i];simp only[abS,a,(Ac:¬(n:Int)<(l.length:Int))]
end
section
variable{h h':Ai}{bi a lo:Nat}{o c t v:Aa}{G G' F F':Nat->Prop}{b:BS}{q:d_}{av:Aa}{j m:Nat}
def aEF(s:Hd)(hv:A6 s.As av)(hl:E1 s.As){l:List QO}(ho:oG l v)(hb:l.length<=60)(hq:∀x∈l,ĉ x.q)(h:Ai):
  ∃h' bi F,B2 cx 6 [.agg (SL s av),v] h (Pt bi 0) h'/\PB h' bi (ND s.b l) F/\EH h (λ_=>False) h' F:=by
 obtain⟨h1,bi,F,i,w0,w⟩:=aIW s hv hl h;have OT:Ev cx 6 [.agg (SL s av),v] h λr h'=>r= Pt bi 0/\∃F,PB h' bi (ND s.b l) F/\EH h (λ_=>False) h' F:=by
  unfold Ev;have vt:av.cells=[av]:=Bz.cells hv;have p:=Bz.GO ho;rw[aC3];rw[SL] at i⊢;simp only[abS,i.Ad];refine BM (λn:Nat=>[I (n:Int)]) (λn h2=>n<=l.length/\∃F,PB h2 bi (ND s.b (l.take n)) F/\EH h (λ_=>False) h2 F) (λn=>l.length-n) 0 rfl ⟨Bc _,F,w0,w⟩ ?_;rintro n E ⟨RO,C,e,f⟩;rcases Bl n l.length with hlt|GS
  .have z:=Bz.DB (k:= .i64) ho hlt;have d:Fin (ND s.b (l.take n)) (39+1):=Yc (j:=40) (l:=l.take n) (s.IE.le (by rw[AB];omega)) λx hx=>hq x (A0 hx);obtain⟨D,B,g,y,u⟩:=aIV e d (hq _ (Bb hlt)) l[n].ok;have hr:SK l[n].q l[n].v=l[n].row:=rfl;rw[hr] at g;simp only[abS,p,(Ac:(n:Int)<(l.length:Int)),z,QO.DW,QO.KT,Ab,g.Ad,CE (Ac:n<9223372036854775807)];exact Br.next (n+1) rfl ⟨hlt,B,by rw[AP hlt,Yb];exact y,f.trans u⟩ Ac
  .rw[A8 GS] at e;simp only[abS,p,(Ac:¬(n:Int)<(l.length:Int))];exact⟨_,rfl,rfl,C,e,f⟩
 obtain⟨r,h',hr,rfl,F',w',x'⟩:=OT.ret;exact⟨h',bi,F',hr,w',x'⟩
end
section
variable{h:Ai}{a n:Nat}{m:Option Nat}{ps:List PN}{A:Ar}{x:Int}
def th{v:Aa}{l:List Int}(hv:XX h v l)(hb:l.length<=1000000000)(x:Int):B2 cx 91 [v,I x] h (I (BT (λy=>decide (x=y)) 0 l)) h:=by
 rw[Ae,ŭ];refine BM (λk:Nat=>[I 0,I (k:Int)]) (λk h1=>k<=l.length/\BT (λy=>decide (x=y)) 0 l=BT (λy=>decide (x=y)) k (l.drop k)/\h1=h) (λk=>l.length-k) 0 rfl ⟨Bc _,rfl,rfl⟩ ?_;rintro k h1 ⟨hk,ha,rfl⟩;rcases Bl k l.length with hlt|GS
 .obtain⟨p,f,d⟩:=hv.at_ k hlt;rw[Ay hlt,BT] at ha;simp only[abS,hv.len,(Ac:(k:Int)<(l.length:Int)),f,d,CE (Ac:k<9223372036854775807)];refine⟨λh2=>?_,λh2=>?_⟩;.rw[ha,Ag (by simp[h2])]
  .rw[Af (by simpa using λe=>h2 e.symm)] at ha;exact Br.next (k+1) rfl ⟨hlt,ha,rfl⟩ Ac
 .rw[AV GS,BT] at ha;simp only[abS,hv.len,(Ac:¬(k:Int)<(l.length:Int)),ha]
end
end Go.Am
end
