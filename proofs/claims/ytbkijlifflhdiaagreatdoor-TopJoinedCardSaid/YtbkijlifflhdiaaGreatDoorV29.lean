/- Lemmas -/
import Derived.Test.YtbkijlifflhdiaaGreatDoorV28
import Derived.Test.YtbkijlifflhdiaaGreatDoorV7
set_option linter.all false
set_option maxRecDepth 100000
section
namespace Go.Am
open Go
abbrev vV:Ty:= .st [.int .i64,.str,.str]
abbrev wm:Ty:= .st [.int .i64,.str,.sl vV,.int .i64,.int .i64,.bool,.str,.int .i32,.int .i64]
abbrev aDj:Ty:= .st [.int .i64,.str,.sl vV,.bool,.bool]
abbrev XT:Ty:= .st [.bool,aDj]
def Wg{U:Type}{P:List Aa->Prop}{f:U->List Aa}{Q:U->Prop}(h:∀r,P r->∃a,r=f a/\Q a):∀{An:List (List Aa)},(∀r∈An,P r)->∃l:List U,An=l.map f/\∀a∈l,Q a
 |[],_=>⟨[],rfl,Au⟩
 |r::An,hr=>by obtain⟨a,rfl,hq⟩:=h r (hr r Au);obtain⟨l,rfl,hl⟩:=Wg h (An:=An) λr h=>hr r (by simp[h]);exact⟨a::l,rfl,by simpa[hq] using hl⟩
def fF{U:Type}{e:Ty}{f:U->List Aa}{Q:U->Prop}(h:∀r,WI e r->∃a,r=f a/\Q a){v:Aa}(hv:WI (.sl e) [v]):∃l:List U,Bu (Ty.size e) (l.map f) v/\l.length<=maxLen/\∀a∈l,Q a:=by
 unfold WI at hv;rcases hv with e1|⟨An,e1,hl,hr⟩
 .cases e1;exact⟨[],.nil,Au,Au⟩
 .cases e1;obtain⟨l,rfl,hq⟩:=Wg h hr;exact⟨l,.mk,by simpa using hl,hq⟩
def Mp{r:List Aa}{k:IntKind}(h:WI (.int k) r):∃n,r=[.int k n]/\(Lit.int k n).wf=true:=h
def PO{r:List Aa}(h:WI .str r):∃s:Aq,r=[.str s]:=let⟨n,e,_⟩:=h;⟨n,e⟩
def PQ{r:List Aa}(h:WI .bool r):∃b,r=[.bool b]:=h
def Dc{t:Ty}{ts:List Ty}{l:List Aa}(h:lW (t::ts) l):∃a b,l=a++b/\WI t a/\lW ts b:=h
def PR{l:List Aa}(h:lW [] l):l=[]:=h
def Wh{e:Ty}{r:List Aa}(h:WI (.sl e) r):∃v,r=[v]/\WI (.sl e) [v]:=by have h':=h;unfold WI at h';rcases h' with rfl|⟨An,rfl,_⟩<;>exact⟨_,rfl,h⟩
def ZX(r:List Aa)(h:WI vV r):∃a:AS,r=a.row/\True:=by obtain⟨i,e,rfl,h1,h⟩:=Dc h;obtain⟨g,d,rfl,h2,h⟩:=Dc h;obtain⟨f,c,rfl,b,h⟩:=Dc h;obtain rfl:=PR h;obtain⟨n,rfl,_⟩:=Mp h1;obtain⟨s,rfl⟩:=PO h2;obtain⟨t,rfl⟩:=PO b;exact⟨⟨n,s,t⟩,rfl,trivial⟩
def uh(r:List Aa)(h:WI wm r):∃a:QO,r=a.row/\(-2147483648<=a.q.r/\a.q.r<=2147483647):=by obtain⟨N,E,rfl,h1,h⟩:=Dc h;obtain⟨M,D,rfl,h2,h⟩:=Dc h;obtain⟨L,C,rfl,b,h⟩:=Dc h;obtain⟨K,B,rfl,u,h⟩:=Dc h;obtain⟨J,A,rfl,t,h⟩:=Dc h;obtain⟨I,z,rfl,s,h⟩:=Dc h;obtain⟨H,y,rfl,p,h⟩:=Dc h;obtain⟨G,x,rfl,h8,h⟩:=Dc h;obtain⟨F,w,rfl,o,h⟩:=Dc h;obtain rfl:=PR h;obtain⟨k,rfl,_⟩:=Mp h1;obtain⟨e,rfl⟩:=PO h2;obtain⟨v,rfl,b⟩:=Wh b;obtain⟨l,b,_,_⟩:=fF ZX b;obtain⟨j,rfl,_⟩:=Mp u;obtain⟨i,rfl,_⟩:=Mp t;obtain⟨b6,rfl⟩:=PQ s;obtain⟨d,rfl⟩:=PO p;obtain⟨g,rfl,c⟩:=Mp h8;obtain⟨f,rfl,_⟩:=Mp o;refine⟨⟨⟨k,e,l,j,i,b6,d,g,f⟩,v,b⟩,rfl,?_⟩;have n:IntKind.i32.min= -2147483648:=rfl;have m:IntKind.i32.max=2147483647:=rfl;simp[Lit.wf,n,m] at c;exact c
def fG{v:Aa}(h:lX XT v):∃(s:Fc) (av:Aa),v= .agg (RU s av)/\Cl s.AB av:=by obtain⟨r,rfl,h⟩:=h;obtain⟨A,q,rfl,h1,h⟩:=Dc h;obtain⟨z,p,rfl,h2,h⟩:=Dc h;obtain rfl:=PR h;obtain⟨b1,rfl⟩:=PQ h1;obtain⟨y,o,rfl,g,h⟩:=Dc h2;obtain⟨x,n,rfl,f,h⟩:=Dc h;obtain⟨w,m,rfl,a,h⟩:=Dc h;obtain⟨u,k,rfl,e,h⟩:=Dc h;obtain⟨t,j,rfl,d,h⟩:=Dc h;obtain rfl:=PR h;obtain⟨c,rfl,_⟩:=Mp g;obtain⟨b,rfl⟩:=PO f;obtain⟨v,rfl,a⟩:=Wh a;obtain⟨l,a,_,_⟩:=fF ZX a;obtain⟨b6,rfl⟩:=PQ e;obtain⟨i,rfl⟩:=PQ d;exact⟨⟨b1,c,b,l,b6,i⟩,v,rfl,a⟩
def vW{v:Aa}(h:lX (.sl wm) v):∃l:List QO,ZS l v/\∀x∈l,-2147483648<=x.q.r/\x.q.r<=2147483647:=by have h:WI (.sl wm) [v]:=h;obtain⟨l,h1,_,h2⟩:=fF uh h;exact⟨l,h1,h2⟩
def Fu(l:List AS):Prop:=l.length<=20/\∀x∈l,x.name.length<=400/\x.value.length<=400
instance(l:List AS):Decidable (Fu l):=by unfold Fu;infer_instance
def Fu.jg{l:List AS}(h:Fu l):E6 l:=⟨by have:=h.1;omega,λa ha=>by have:=h.2 a ha;omega⟩
section
variable{h:Ag}
def f9{v:Aa}{l:List AS}(hv:Cl l v)(h:Ag):Cm cx 17 [v] h (.bool (decide (Fu l))) h:=by
 have Gv:Bu 3 (l.map AS.row) v:=hv;have a:=Bu.GF hv;rw[Ak,pg,t17];refine BL (λn:Nat=>[ff,I (n:Int)]) (λn h1=>n<=l.length/\n<=21/\(∀x∈l.take n,x.name.length<=400/\x.value.length<=400)/\h1=h) (λn=>l.length-n) 0 rfl ⟨A8 _,A8 _,Au,rfl⟩ ?_;rintro n h1 ⟨hn,hb,ha,rfl⟩;rcases BH n l.length with hlt|HK
 .have e1:=Bu.Dl (k:= .i64) hv hlt;rw[AS.row] at e1;have X0:¬(l[n].name.length<=400/\l[n].value.length<=400)->¬Fu l:=λh1 h2=>h1 (h2.2 _ (AX hlt));by_cases M4:n<=20
  .by_cases c1:(400:Int)<(l[n].name.length:Int);.have e:decide (Fu l)=false:=Bk (X0 Ab);rw[e];simp only[abS,a,(Ab:(n:Int)<(l.length:Int)),(Ab:(n:Int)<=20),e1,c1]
   .by_cases c2:(400:Int)<(l[n].value.length:Int);.have e:decide (Fu l)=false:=Bk (X0 Ab);rw[e];simp only[abS,a,(Ab:(n:Int)<(l.length:Int)),(Ab:(n:Int)<=20),e1,c1,c2]
    .simp only[abS,a,(Ab:(n:Int)<(l.length:Int)),(Ab:(n:Int)<=20),e1,c1,c2,CQ (Ab:n<9223372036854775807)];refine A6.next (n+1) rfl ⟨hlt,Ab,λx hx=>?_,rfl⟩ Ab;rw[AL hlt,Al,D2] at hx;rcases hx with hx|rfl
     .exact ha x hx
     .exact⟨Ab,Ab⟩
  .have e:decide (Fu l)=false:=Bk λh=>by have:=h.1;omega
   rw[e];simp only[abS,a,(Ab:(n:Int)<(l.length:Int)),(Ab:¬(n:Int)<=20),(Ab:¬(l.length:Int)<=20),FC]
 .rw[AT HK] at ha;have b:decide (Fu l)=decide ((l.length:Int)<=20):=by rw[Eb];exact⟨λh=>by have:=h.1;omega,λh=>⟨Ab,ha⟩⟩
  rw[b];simp only[abS,a,(Ab:¬(n:Int)<(l.length:Int))]
def Wi(s:Fc):Prop:=s.name.length<=60/\Fu s.AB
instance(s:Fc):Decidable (Wi s):=by unfold Wi;infer_instance
def f5(s:Fc){av:Aa}(hv:Cl s.AB av)(h:Ag):Cm cx 6 [.agg [I s.AY,.str s.name,av,.bool s.CB,.bool s.TS]] h (.bool (decide (Wi s))) h:=by
 have a:=f9 hv h;have u_:av.cells=[av]:=Bu.cells hv;rw[Ak,T_,t6];by_cases c1:(s.name.length:Int)<=60
 .have e:decide (Wi s)=decide (Fu s.AB):=by rw[Eb];exact⟨λh=>h.2,λh=>⟨Ab,h⟩⟩
  rw[e];simp only[abS,c1,a.Ah]
 .have e:decide (Wi s)=false:=Bk λh=>by have:=h.1;omega
  rw[e];simp only[abS,c1]
def fH(q:eW):Prop:=q.name.length<=60/\q.s.length<=200/\Fu q.AB
instance(q:eW):Decidable (fH q):=by unfold fH;infer_instance
def fH.ok{q:eW}(h:fH q)(hr: -2147483648<=q.r/\q.r<=2147483647):jc q:=⟨by have:=h.1;omega,h.2.2.jg,by have:=h.2.1;omega,hr⟩
def Nq(l:List QO)(m:Nat):Prop:=l.length<=m/\∀x∈l,fH x.q
instance(l:List QO)(m:Nat):Decidable (Nq l m):=by unfold Nq;infer_instance
def f4{v:Aa}{l:List QO}(hv:ZS l v){m:Nat}(hm:m<=1000)(h:Ag):Cm cx 5 [v,I (m:Int)] h (.bool (decide (Nq l m))) h:=by
 have a:=Bu.GF hv;rw[Ak,S_,t5];refine BL (λn:Nat=>[ff,I (n:Int)]) (λn h1=>n<=l.length/\n<=m+1/\(∀x∈l.take n,fH x.q)/\h1=h) (λn=>l.length-n) 0 rfl ⟨A8 _,A8 _,Au,rfl⟩ ?_;rintro n h1 ⟨hn,hb,ha,rfl⟩;rcases BH n l.length with hlt|HK
 .have e1:=Bu.Dl (k:= .i64) hv hlt;have b:=f9 l[n].ok h1;have X0:¬fH l[n].q->¬Nq l m:=λh1 h2=>h1 (h2.2 _ (AX hlt));rw[QO.row,OM] at e1;by_cases M4:n<=m
  .by_cases c1:(60:Int)<(l[n].q.name.length:Int);.have e:decide (Nq l m)=false:=Bk (X0 λh=>by have:=h.1;omega);rw[e];simp only[abS,a,(Ab:(n:Int)<(l.length:Int)),(Ab:(n:Int)<=(m:Int)),e1,c1]
   .by_cases c2:(200:Int)<(l[n].q.s.length:Int);.have e:decide (Nq l m)=false:=Bk (X0 λh=>by have:=h.2.1;omega);rw[e];simp only[abS,a,(Ab:(n:Int)<(l.length:Int)),(Ab:(n:Int)<=(m:Int)),e1,c1,c2]
    .by_cases c:Fu l[n].q.AB
     .rw[Bs c] at b;simp only[abS,a,(Ab:(n:Int)<(l.length:Int)),(Ab:(n:Int)<=(m:Int)),e1,c1,c2,b.Ah,CQ (Ab:n<9223372036854775807)];refine A6.next (n+1) rfl ⟨hlt,Ab,λx hx=>?_,rfl⟩ Ab;rw[AL hlt,Al,D2] at hx;rcases hx with hx|rfl
      .exact ha x hx
      .exact⟨Ab,Ab,c⟩
     .have e:decide (Nq l m)=false:=Bk (X0 λh=>c h.2.2);rw[Bk c] at b;rw[e];simp only[abS,a,(Ab:(n:Int)<(l.length:Int)),(Ab:(n:Int)<=(m:Int)),e1,c1,c2,b.Ah]
  .have e:decide (Nq l m)=false:=Bk λh=>by have:=h.1;omega
   rw[e];simp only[abS,a,(Ab:(n:Int)<(l.length:Int)),(Ab:¬(n:Int)<=(m:Int)),(Ab:¬(l.length:Int)<=(m:Int)),FC]
 .rw[AT HK] at ha;have d:decide (Nq l m)=decide ((l.length:Int)<=(m:Int)):=by rw[Eb];exact⟨λh=>by have:=h.1;omega,λh=>⟨Ab,ha⟩⟩
  rw[d];simp only[abS,a,(Ab:¬(n:Int)<(l.length:Int))]
end
section
variable{h h':Ag}{bi a lo:Nat}{o c t v:Aa}{G G' F F':Nat->Prop}{b:BS}{q:eW}{av:Aa}{j m:Nat}
def ŀ(s:Fc)(hv:Cl s.AB av)(hl:E6 s.AB){l:List QO}(ho:ZS l v)(hb:l.length<=60)(hq:∀x∈l,jc x.q)(h:Ag):
  ∃h' bi F,Cm cx 8 [.agg (RU s av),v] h (Pt bi 0) h'/\PB h' bi (JO s.b l) F/\ED h (λ_=>False) h' F:=by
 obtain⟨h1,bi,F,i,w0,w⟩:=aDc s hv hl h;have Oq:Ev cx 8 [.agg (RU s av),v] h λr h'=>r= Pt bi 0/\∃F,PB h' bi (JO s.b l) F/\ED h (λ_=>False) h' F:=by
  unfold Ev;have u_:av.cells=[av]:=Bu.cells hv;have p:=Bu.GF ho;rw[U_,t8];rw[RU] at i⊢;simp only[abS,i.Ah];refine BL (λn:Nat=>[I (n:Int)]) (λn h2=>n<=l.length/\∃F,PB h2 bi (JO s.b (l.take n)) F/\ED h (λ_=>False) h2 F) (λn=>l.length-n) 0 rfl ⟨A8 _,F,w0,w⟩ ?_;rintro n D ⟨P1,B,e,f⟩;rcases BH n l.length with hlt|HK
  .have e1:=Bu.Dl (k:= .i64) ho hlt;have d:Fin (JO s.b (l.take n)) (39+1):=Un (j:=40) (l:=l.take n) (s.II.le (by rw[Av];omega)) λx hx=>hq x (AN hx);obtain⟨C,z,g,y,u⟩:=aDb e d (hq _ (AX hlt)) l[n].ok;have hr:OM l[n].q l[n].v=l[n].row:=rfl;rw[hr] at g;simp only[abS,p,(Ab:(n:Int)<(l.length:Int)),e1,QO.Di,QO.Jj,Af,g.Ah,CQ (Ab:n<9223372036854775807)];exact A6.next (n+1) rfl ⟨hlt,z,by rw[AL hlt,Um];exact y,f.trans u⟩ Ab
  .rw[AT HK] at e;simp only[abS,p,(Ab:¬(n:Int)<(l.length:Int))];exact⟨_,rfl,rfl,B,e,f⟩
 obtain⟨r,h',hr,rfl,F',w',x'⟩:=Oq.ret;exact⟨h',bi,F',hr,w',x'⟩
def aDk(s:Fc)(hv:Cl s.AB av)(hl:E6 s.AB){l:List QO}(ho:ZS l v)(hb:l.length<=60)(hq:∀x∈l,jc x.q)(h:Ag):
  ∃h' bi F,Cm cx 8 [.agg (RU s av),v] h (Pt bi 0) h'/\PB h' bi (JO s.b l) F:=by
 obtain⟨h',bi,F,r,w,_⟩:=ŀ s hv hl ho hb hq h;exact⟨h',bi,F,r,w⟩
def BX.ui(w:BX h bi a o c t G b){i:Nat}(hi:Bn bi G i):i<h.length:=by
 rcases hi with rfl|hi
 .exact w.lt
 .exact w.w.lt hi
def JG.aDl{l:List DB}(w:JG h lo v l)(x:ED h F h' F')(hF:∀i,F i->i<lo):JG h' lo v l:=w.DH (λi h1 h2=>x.old i h2 λhf=>by have:=hF i hf;omega) x.len
def vX(w:BX h bi a o c t G b)(f:Fin b j):∃v u,Cm cx 9 [Pt a 0] h v (h++u)/\JG (h++u) h.length v b.a.n:=by obtain⟨n,m,ps,d⟩:=w.w.pa;exact aDi d f.sz.rm.TZ (λx=>f.sz.rm.TZ.AP f.ok.ok x) (by have:=f.sz.rm.n;omega)
def fI(f:Fin b j){v':Aa}(e:Uo h v b.a.n)(d:Uo h v' b.a.n):Cm cx 16 [v,v'] h tt h:=by refine f90 e d (by have:=f.sz.rm.n;omega) λx hx=>?_;obtain⟨k,hk,rfl⟩:=List.getElem_of_mem hx;have:=(vU hk).2;rw[<-this];exact⟨by have:=f.sz.rm.at_ ((k:Int)+1);omega,f.sz.rm.TZ.AP f.ok.ok _⟩
end
section
variable{h:Ag}{a n:Nat}{m:Option Nat}{ps:List PN}{A:Ar}{x:Int}
end
def Kx{Q:IA}{h:Ag}{k:Aa->IT}:W cx (.Ck 7 [] k) Q h↔W cx (k (.bool true)) Q h:=OA.Ck fE rfl rfl
def Ł{h:Ag}{bi a:Nat}{o c t:Aa}{G:Nat->Prop}{b:BS}{x:Int}(w:BX h bi a o c t G b)(g:J1 b.a)(ok:C8 b.a 0)(j:Jd b.a)(NS:∀y,(b.a.nd y).AP.length<=1000000000)(hx:b.a.has x):
  ∃h' d,Cm cx 15 [.ptr (some (a,0)),.int .i64 x] h (I 0) h'/\BX h' bi a o c t d b/\ED h (Bn bi G) h' (Bn bi d):=by
 obtain⟨h',d,r,w',x'⟩:=w.step (A':=b.a) (R:=λh'=>Cm cx 15 [.ptr (some (a,0)),.int .i64 x] h (I 0) h') (λn m ps f=>by obtain⟨h',KD,r,wp,e⟩:=aDe f g ok j NS hx;exact⟨h',n,m,KD,by rw[Ak];exact r,wp,e⟩)
 exact⟨h',d,r,w',x'⟩
def oH(s:Fc){av:Aa}(hv:Cl s.AB av){l:List QO}{v:Aa}(ho:ZS l v)(hr:∀x∈l,-2147483648<=x.q.r/\x.q.r<=2147483647):Ev cx 4 [.agg (RU s av),v] [] λr _=>r= .bool true:=by
 have f:Cm cx 5 [v,I 60] [] (.bool (decide (Nq l 60))) []:=f4 ho (m:=60) Be [];have g:=f5 s hv [];have u_:av.cells=[av]:=Bu.cells hv;have d:=Bu.GF ho;unfold Ev;rw[R_,t4,RU];by_cases c1:Nq l 60;rotate_left;.rw[Bk c1] at f;simp only[abS,f.Ah,Kx];exact⟨_,rfl,rfl⟩
 rw[Bs c1] at f;by_cases c2:Wi s;rotate_left;.rw[Bk c2] at g;simp only[abS,f.Ah,g.Ah,Kx];exact⟨_,rfl,rfl⟩
 rw[Bs c2] at g;have aIG:=c1.1;simp only[abS,f.Ah,g.Ah];refine BL (λk:Nat=>[ff,.int .i64 (k:Int)]) (λk h1=>k<=l.length/\(∀x∈l.take k,QR x.q)/\h1=[]) (λk=>l.length-k) 0 rfl ⟨A8 _,Au,rfl⟩ ?_;rintro n h0 ⟨hn,Qc,rfl⟩;rcases BH n l.length with hlt|HK
 .have e1:=Bu.Dl (k:= .i64) ho hlt;rw[QO.row,OM] at e1;have nx:QR l[n].q->∀x∈l.take (n+1),QR x.q:=λhq x hx=>by
   rw[AL hlt,Al,D2] at hx;rcases hx with hx|rfl
   .exact Qc x hx
   .exact hq
  have ł:=CQ (Ab:n<9223372036854775807);by_cases e:l[n].q.k=5
  .by_cases a0:l[n].q.a=0;.simp only[abS,d,(Ab:(n:Int)<(l.length:Int)),e1,e,a0,CF,B0,(Ab:¬(5:Int)=1),(Ab:¬(5:Int)=4),ł];exact A6.next (n+1) rfl ⟨hlt,nx ⟨.inr (.inr (.inl e)),λ_=>a0⟩,rfl⟩ Ab
   .simp only[abS,d,(Ab:(n:Int)<(l.length:Int)),e1,e,a0,CF,B0,(Ab:¬(5:Int)=1),(Ab:¬(5:Int)=4),Kx];exact⟨_,rfl,rfl⟩
  .by_cases D:l[n].q.k=1;.simp only[abS,d,(Ab:(n:Int)<(l.length:Int)),e1,D,CF,B0,(Ab:¬(1:Int)=5),ł];exact A6.next (n+1) rfl ⟨hlt,nx ⟨.inl D,λh=>absurd h e⟩,rfl⟩ Ab
   .by_cases C:l[n].q.k=4;.simp only[abS,d,(Ab:(n:Int)<(l.length:Int)),e1,C,CF,B0,(Ab:¬(4:Int)=1),(Ab:¬(4:Int)=5),ł];exact A6.next (n+1) rfl ⟨hlt,nx ⟨.inr (.inl C),λh=>absurd h e⟩,rfl⟩ Ab
    .by_cases ZQ:l[n].q.k=15;.simp only[abS,d,(Ab:(n:Int)<(l.length:Int)),e1,ZQ,CF,B0,(Ab:¬(15:Int)=1),(Ab:¬(15:Int)=4),(Ab:¬(15:Int)=5),ł];exact A6.next (n+1) rfl ⟨hlt,nx ⟨.inr (.inr (.inr (.inl ZQ))),λh=>absurd h e⟩,rfl⟩ Ab
     .by_cases kH:l[n].q.k=18;.simp only[abS,d,(Ab:(n:Int)<(l.length:Int)),e1,kH,CF,B0,(Ab:¬(18:Int)=1),(Ab:¬(18:Int)=4),(Ab:¬(18:Int)=5),(Ab:¬(18:Int)=15),ł];exact A6.next (n+1) rfl ⟨hlt,nx ⟨.inr (.inr (.inr (.inr kH))),λh=>absurd h e⟩,rfl⟩ Ab
      .simp only[abS,d,(Ab:(n:Int)<(l.length:Int)),e1,D,C,e,ZQ,kH,CF,Kx];exact⟨_,rfl,rfl⟩
 .rw[AT HK] at Qc;obtain⟨h1,bi,F,M,w1⟩:=aDk s hv c2.2.jg ho c1.1 (λx hx=>(c1.2 x hx).ok (hr x hx)) [];have II:Fin (JO s.b l) (39+1):=Un (j:=40) (s.II.le (by have:=c1.1;omega)) λx hx=>(c1.2 x hx).ok (hr x hx);have J:=kJ (vS s) s.II.ok Qc;clear f g;generalize JO s.b l=b at*;rw[RU] at M;obtain⟨a,o,c,t,G,wp,hc,e1⟩:=w1;have rm:=II.sz.rm;have NS:=λy=>rm.TZ.AP II.ok.ok y;obtain⟨B,L,T,N⟩:=vX wp II;have p:∀i,Bn bi G i->i<h1.length:=λi hi=>wp.ui hi;have z:=wp.J5 (u:=L);have l0:=wp.l0;obtain⟨An,sl,X,Z⟩:=id N;have w:Ax (.len false) [B]=some (.int .i64 (b.a.n.length:Int)):=by have:=sl.len;rwa [X] at this
  have vc:B.cells=[B]:=Bu.cells sl;have W:b.a.n.length<=900000000:=by have:=rm.n;omega
  simp only[abS,d,(Ab:¬(n:Int)<(l.length:Int)),M.Ah,l0,T.Ah];refine BL (λk:Nat=>[ff,.int .i64 (k:Int)]) (λk h2=>1<=k/\k<=b.a.n.length+1/\∃H,BX h2 bi a o c t H b/\ED (h1++L) (Bn bi G) h2 (Bn bi H)) (λk=>b.a.n.length+1 -k) 1 rfl ⟨Af _,Ab,G,z,.refl⟩ ?_;rintro k h2 ⟨XW,RJ,H,A,K⟩;have l2:=A.l0;rcases BH k (b.a.n.length+1) with E|Œ
  .have hx:b.a.has (k:Int):=by unfold Ar.has;omega
   obtain⟨h3,Y,S,P,O⟩:=Ł A rm.TZ II.ok.ok J NS hx;simp only[abS,w,(Ab:(k:Int)<=(b.a.n.length:Int)),l2,S.Ah,CF,B0,CQ (Ab:k<9223372036854775807)];exact A6.next (k+1) rfl ⟨Ab,E,Y,P,K.trans O⟩ Ab
  .obtain⟨v4,Q,R,V⟩:=vX A II;have U:=(N.aDl K p).DH (h':=h2++Q) (λi _ hi=>Ai hi) Au;have rs:=fI II U.rd V.rd;simp only[abS,w,(Ab:¬(k:Int)<=(b.a.n.length:Int)),l2,R.Ah,rs.Ah,Kx];exact⟨_,rfl,rfl⟩
def U5:∀l,R7 [XT,.sl wm] l->Ev cx 4 l [] λr _=>r= .bool true:=by rintro _ ⟨a,_,rfl,ha,b,_,rfl,hb,rfl⟩;obtain⟨s,av,rfl,hv⟩:=fG ha;obtain⟨l,ho,hr⟩:=vW hb;exact oH s hv ho hr
end Go.Am
end
