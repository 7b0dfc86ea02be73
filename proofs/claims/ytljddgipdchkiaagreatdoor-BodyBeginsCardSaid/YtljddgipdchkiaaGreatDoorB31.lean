/- Lemmas -/
import Derived.Test.YtljddgipdchkiaaGreatDoorB30
import Derived.Test.YtljddgipdchkiaaGreatDoorB28
set_option linter.all false
set_option maxRecDepth 100000
section
end
section
end
section
end
section
end
section
end
section
end
section
end
section
end
section
end
section
end
section
end
section
end
section
end
section
end
section
namespace Go.Am
open Go
section
variable{h h':Ah}{ar n x:Int}{ps:List PN}{A:Ar}
def aHI{a n:Nat}{m:Option Nat}(w:PA h a n m ps A)(d:MZ A)(hd:A.has x/\(A.nd x).kind=1)(q:Bool):
  ∃h' IN,BH cx 108 [Pt a 0,I x,.bool q] h (I 0) h'/\PA h' a n m IN (A.set x {A.nd x with Cq:=q})/\DA h (λi=>i∈Ga a n m ps) h' (λi=>i∈Ga a n m IN):=by
 have hp:=(w.pn hd.1).2.1;obtain⟨h2,e,c,j,f,g⟩:=w.wr hd.1 (k:=10) AX (v:= .bool q) rfl (p:=⟨{A.nd x with Cq:=q},(pN ps x).kv,(pN ps x).av,by rw[<-hp];exact(pN ps x).ok⟩) (by simp only[PN.row];rw[hp];rfl) rfl rfl;refine⟨h2,_,?_,c,w.zM c j f g⟩;rw[Af,eD];simp only[abS,(nM (x:=x) w d).Ad,Ae hd.1,Ae hd.2,BW,Cw,(IH w d hd.1).Ad,e]
def S1(nm Gi sys:Ao)(d:Int):PN:=⟨{kind:=3,Cf:=d,name:=nm,Gi:=Gi,sys:=sys},.slnil,.slnil,rfl⟩
def aHJ{a n:Nat}{m:Option Nat}{nm Gi sys:Ao}(w:PA h a n m ps A)(e:MZ A)(hb:A.len+1<=1000000000)(hd:A.has x/\(A.nd x).kind=1):
  ∃h',BH cx 110 [Pt a 0,I x,.str nm,.str Gi,.str sys] h (.tuple [I (A.len+1),I 0]) h'/\PA h' a h.length m (ps++[S1 nm Gi sys x]) (A.add (S1 nm Gi sys x).x)/\(∀i,i<h.length->i≠a->i≠n->h'[i]?=h[i]?)/\h'.length=h.length+1:=by
 have bS:=w.len;obtain⟨h1,c,w1,d,l1⟩:=ub w Ab (S1 nm Gi sys x) rfl rfl;have r2:BH cx 235 [Pt a 0,I x,.agg (S1 nm Gi sys 0).row] h (.tuple [I (A.len+1),I 0]) h1:=by rw[PN.row] at c;rw[Af,VV,PN.row];simp only[abS,(nM (x:=x) w e).Ad,Ae hd.1,Ae hd.2,BW,Cw,S1] at c⊢;simp only[BC,c.Ad]
 refine⟨h1,?_,w1,d,l1⟩;simp only[PN.row,S1] at r2;rw[Af,eF];simp only[abS,Nat.reduceLeDiff,↓reduceIte,AP,r2.Ad]
end
section
variable{h h':Ah}{bi:Nat}{b b':BS}{F:Nat->Prop}{n o a:Nat}{t:HG}{av:Aa}
def wc(w:PB h bi b F)(g:Gz b n o a):∃ar,Bd h none (Pt bi 0)=some (Pt ar 0)/\vw h F 108 [Pt ar 0,I b.Cf,tt] (I 0) bi b.YH:=by
 obtain⟨ar,i,c,d,G,w,hc,rfl⟩:=w;obtain⟨h',G',r,w',x'⟩:=w.step (A':=b.YH.a) (R:=λh'=>BH cx 108 [Pt ar 0,I b.Cf,tt] h (I 0) h') λn m ps f=>by obtain⟨h1,Wc,r,w1,e⟩:=aHI f g.rm.Vd g.ok.Cf true;exact⟨h1,n,m,Wc,r,w1,e⟩
 exact⟨ar,w.l0,h',_,r,⟨ar,i,c,d,G',w',hc,rfl⟩,x'⟩
def aMz(w:PB h bi b F)(g:Gz b (n+1) o a)(nm Gi sys:Ao):∃ar,Bd h none (Pt bi 0)=some (Pt ar 0)/\vw h F 110 [Pt ar 0,I b.Cf,.str nm,.str Gi,.str sys] (.tuple [I (b.a.len+1),I 0]) bi {b with a:=b.a.add (S1 nm Gi sys b.Cf).x}:=by
 obtain⟨ar,f,c,d,G,w,hc,rfl⟩:=w;obtain⟨h',G',r,w',x'⟩:=w.step (A':=b.a.add (S1 nm Gi sys b.Cf).x) (R:=λh'=>BH cx 110 [Pt ar 0,I b.Cf,.str nm,.str Gi,.str sys] h (.tuple [I (b.a.len+1),I 0]) h') λn m ps e=>by obtain⟨h1,r,w1,i,l1⟩:=aHJ (nm:=nm) (Gi:=Gi) (sys:=sys) e g.rm.Vd (by have:=g.rm.n;unfold Ar.len;omega) g.ok.Cf;exact⟨h1,_,_,_,r,w1,e.Qu rfl i l1⟩
 exact⟨ar,w.l0,h',_,r,⟨ar,f,c,d,G',w',hc,rfl⟩,x'⟩
def aCZ(w:PB h bi b F)(g:Gz b n o a){e:Int}(ok:EA b.a e)(p x k:Int):∃f d,Bd h none (Pt bi 0)=some (Pt f 0)/\vw h F 111 [Pt f 0,I p,I x,I k] (I d) bi {b with a:=b.a.Fq p x k}:=by
 obtain⟨f,q,c,i,G,w,hc,rfl⟩:=w;obtain⟨h',G',⟨d,r⟩,w',x'⟩:=w.step (A':=b.a.Fq p x k) (R:=λh'=>∃d,BH cx 111 [Pt f 0,I p,I x,I k] h (I d) h') λn m ps l=>by obtain⟨d,h1,Wc,r,w1,j⟩:=Ű (p:=p) (x:=x) (b:=k) l g.rm.Vd ok;exact⟨h1,n,m,Wc,⟨d,r⟩,w1,j⟩
 exact⟨f,d,w.l0,h',_,r,⟨f,q,c,i,G',w',hc,rfl⟩,x'⟩
def aMA{qk:HG->Bool}(w:PB h bi b F)(g:Gz b (n+5) o a)(ht:t.Sm)(hv:Br t.Az av)(hq:∀h,BH cx 112 [.agg (Dm t av)] h (.bool (qk t)) h):vw h F 28 [Pt bi 0,.agg (Dm t av)] (.bool (b.Im qk t).2) bi (b.Im qk t).1:=by
 have YI:=w.YI;unfold BS.Im;by_cases A:¬t.ok;.rw[Ae A];have c:=Ĭ w t av;rw[Ay A] at c;refine⟨_,_,?_,w,.refl⟩;rw[Af,PQ];simp only[abS,↓reduceIte,c.Ad]
 rw[Ac A];have c:=Ĭ w t av;rw[AA (aOs.1 A)] at c;by_cases z:t.J4;.rw[Ae z];have d:=ī t av h;rw[AA z] at d;refine⟨_,_,?_,w,.refl⟩;rw[Af,PQ];simp only[abS,↓reduceIte,c.Ad,d.Ad]
 rw[Ac z];have d:=ī t av h;rw[Ay z] at d;by_cases v:t.k=4;.rw[Ae v];obtain⟨h1,K,j,w1,i⟩:=bD (s:=t.data) w (g.dn (n':=n+1) Ab) (by have:=ht.data;omega) b.Cf;refine⟨_,_,?_,w1,i⟩;rw[Af,PQ];simp only[abS,↓reduceIte,c.Ad,d.Ad,AW v,YI,j.Ad]
 rw[Ac v];by_cases f:t.k=1;rotate_left;.rw[Ae f];obtain⟨R,u,h1,K,j,w1,i⟩:=wc w g;obtain⟨h2,F2,r2,r,q⟩:=aHH w1 2;refine⟨_,_,?_,r,i.trans q⟩;rw[Af,PQ];simp only[abS,↓reduceIte,c.Ad,d.Ad,v,BW,eq_false f,Au,u,YI,j.Ad,r2.Ad,BS.again]
 rw[Ac (by simp[f])];have hd:=g.ok.Cf;have hx:rU {kind:=3,Cf:=b.Cf,name:=t.name,Gi:=t.Gi,sys:=t.sys}:=by constructor<;>simp[Cv,GA,YR]
 have QZ:=PK g.ok.ok hx (.inr ⟨AH,hd⟩) rfl rfl rfl rfl (λh=>absurd h.1 (AX:¬(3:Int)=4));obtain⟨R,u,h1,K,j,w1,i⟩:=aMz w (g.dn (n':=n+1) Ab) t.name t.Gi t.sys;have g1:Gz {b with a:=b.a.add (S1 t.name t.Gi t.sys b.Cf).x} n o a:=⟨g.ok.I4 QZ TH,(g.dn (n':=n+1) Ab).rm.IP (Kl (y:={kind:=3,Cf:=b.Cf,name:=t.name,Gi:=t.Gi,sys:=t.sys}) AH AH),g.AY,g.A8⟩;obtain⟨Q,S,p,h2,F2,r2,r,q⟩:=aCZ w1 g1 (e:=0) QZ b.Cf (b.a.len+1) 0;have l1:=w1.YI;have O:=r.YI;have g2:Gz (b.PX t) n o a:=(g.dn (n':=n+1) Ab).PX;have m:PB h2 bi (b.PX t) F2:=r;have l:=hq h2;dsimp only;cases J:qk t with
 |true=>rw[J] at l;rw[Ae rfl];obtain⟨H,G,P,T,N,M,L⟩:=wc m g2;have E:BH cx 108 [Pt H 0,I b.Cf,tt] h2 (I 0) P:=N;obtain⟨D,C,B⟩:=jY M 2;refine⟨_,_,?_,C,((i.trans q).trans L).trans B⟩;rw[Af,PQ];simp only[Dm,f] at c d l;simp only[abS,↓reduceIte,c.Ad,d.Ad,(AX:¬(1:Int)=4),f,Dm,BW,Av,u,YI,j.Ad,p,l1,r2.Ad,l.Ad,G,O,E.Ad,D]
 |false=>rw[J] at l;rw[Ac AH];obtain⟨D,C,B⟩:=jY m 2;refine⟨_,_,?_,C,(i.trans q).trans B⟩;rw[Af,PQ];simp only[Dm,f] at c d l;simp only[abS,↓reduceIte,c.Ad,d.Ad,(AX:¬(1:Int)=4),f,Dm,BW,Av,u,YI,j.Ad,p,l1,r2.Ad,l.Ad,D]
end
end Go.Am
end
section
end
section
namespace Go.Am
open Go
section
variable{av:Aa}
def qE1:Ao:=aSN
def qE2:Ao:=aSO
def qE3:Ao:=[72,84,77,76]
def qA:Ao:=aSQ
def qB:Ao:=aSL
def GF:List Ao:=[qE1,qE2,qE3]
def S2:List Ao:=[aS8,aS1,aTc,aSX,aSY,aTd,aST,aTa,aSS,aSM,aSH,aSJ,aS9,aSZ]
def NV:List Ao:=[qA,qB]
def bG{k:IntKind}{s:Ao}{b z:Nat}(hb:b<=s.length):AE (.KA z true false true) [.str s,.int k (b:Int)]=some (.str (s.take b)):=by
 have a:E3 (b:Int) s.length=some b:=by unfold E3;rw[Ae Ab];rfl
 simp[AE,JB,DX,a]
def Fm(p w:Ao):Bool:=decide (w.length<=p.length/\DR (p.take w.length)=DR w)
def Hp(p w:Ao):Bool:=decide (DR p=DR w)
def aME{v:Aa}{l:List Ao}(hv:HI l v)(hn:l.length<9223372036854775807)(h:Ah){f:FuncId}{caps:List Aa}{p:Ao->Bool}(hk:f<=99999)(hp:∀a∈l,BH cx f (.str a::caps) h (.bool (p a)) h):
  BH cx 367 [v,.func (.func f) [] caps] h (I (B8 p 0 l)) h:=by
 rw[Af,iL];have hlen:(l.map BZ).length=l.length:=Ak ..;simp only[BC,AU.len hv];refine Bf (λn:Nat=>[I 0,I (n:Int)]) (λn h1=>n<=l.length/\B8 p 0 l=B8 p n (l.drop n)/\h1=h) (λn=>l.length-n) 0 rfl ⟨AQ _,rfl,rfl⟩ ?_;rintro n h1 ⟨zH,ha,rfl⟩;rcases AN n l.length with hlt|D6
 .have i1:(n:Int)<((l.map BZ).length:Int):=by rw[hlen];omega
  have b:(l.map BZ)[n]'(by rw[hlen];exact hlt)=BZ l[n]:=AH;rw[AF hlt,B8] at ha;simp only[BC,aC,↓reduceIte,Di,hk,i1,AU.E2 hv (show n<(l.map BZ).length by rw[hlen];exact hlt),b,BZ,(hp _ (AL hlt)).Ad];rw[Cu];refine⟨λhe=>?_,λhe=>?_⟩;.rw[ha,Ae he]
  .rw[Ac (by simp[he])] at ha;simp only[BC,BI (Ab:n<9223372036854775807)];exact AK.next (n+1) rfl ⟨hlt,ha,rfl⟩ Ab
 .have i1:¬(n:Int)<((l.map BZ).length:Int):=by rw[hlen];omega
  rw[AO D6,B8] at ha;simp only[BC,i1,Au,Aq,An,ha]
def ĭ{U:Type}{p:U->Bool}{l:List U}:decide (0<=B8 p 0 l)=l.any p:=by
 have:l.any p=(l.find? p).isSome:=by rw[Lv,aOq,Nj]
 rw[this];rcases GQ (p:=p) (l:=l) (k:=0) with⟨h1,h2⟩|⟨n,a,h1,h2,b⟩
 .rw[h1,h2];simp
 .rw[h1,b];simp
def aMF{v:Aa}{l:List Ao}(hv:HI l v)(hn:l.length<9223372036854775807)(h:Ah){f:FuncId}{caps:List Aa}{p:Ao->Bool}(hk:f<=99999)(hp:∀a∈l,BH cx f (.str a::caps) h (.bool (p a)) h):
  BH cx 242 [v,.func (.func f) [] caps] h (.bool (l.any p)) h:=by
 rw[Af,gB];simp only[BC,(aME hv hn h hk hp).Ad,ĭ]
def aHL(t:HG)(ht:t.Gi.length<=AM)(w:Ao)(hw:w.length<=AM)(h:Ah):BH cx 241 [.str w,.CG (Dm t av)] h (.bool (Fm t.Gi w)) h:=by
 have hc:(t.Gi.take w.length).length<=AM:=by rw[As];omega
 rw[Af,gA,Dm];simp only[BC];refine⟨λh=>?_,λh=>?_⟩
 .have h:w.length<=t.Gi.length:=by omega
  simp only[BC,bG h,(Ă _ _ hc hw).BV rfl rfl,Fm,h]
 .have h:¬w.length<=t.Gi.length:=by omega
  simp[h,Fm]
def PZ(t:HG):Bool:=
 if t.k≠1 then false else if t.q=true then true else if t.hn=false then true else if t.name≠aSC then true else if t.hp=false then false
 else GF.any (Hp t.Gi)||S2.any (Fm t.Gi)||(!t.hs&&NV.any (Fm t.Gi))
def f75(t:HG)(ht:t.Gi.length<=AM)(h:Ah):BH cx 112 [.agg (Dm t av)] h (.bool (PZ t)) h:=by
 have c:=DF (ws:=S2) (args:=S2.map Aa.str) rfl AX;have g:=DF (ws:=GF) (args:=GF.map Aa.str) rfl AX;generalize y:(Aa.sl 1 (S2.map BZ))=F at c;generalize v:(Aa.sl 1 (GF.map BZ))=z2 at g;simp only[S2,GF,qE1,qE2,qE3,Bk,CW] at c g;try dsimp only at c g
 rw[<-y] at c;rw[<-v] at g;have w1:∀w∈S2,w.length<=AM:=EF;have B:∀w∈NV,w.length<=AM:=EF;have D:∀w∈GF,w.length<=AM:=EF;have hv:HI GF (.sl 1 (GF.map BZ)):= .mk;have hlen:(GF.map BZ).length=3:=rfl;have nO:GF.length=3:=rfl;have C:=λw hw=>aHL (av:=av) t ht w hw h;have i:=λk=>(aMF (l:=S2) .mk AX h (f:=241) (caps:=[.CG (Dm t av)]) (p:=Fm t.Gi) AX (λa ha=>aHL (av:=av) t ht a (w1 a ha) h)).Ad (k:=k) (Q:=λx vs h1=>x= .ret/\vs=[.bool (PZ t)]/\h1=h);have u:=λk=>(C qA (B _ (by simp[NV]))).Ad (k:=k) (Q:=λx vs h1=>x= .ret/\vs=[.bool (PZ t)]/\h1=h);have s:=λk=>(C qB (B _ (by simp[NV]))).Ad (k:=k) (Q:=λx vs h1=>x= .ret/\vs=[.bool (PZ t)]/\h1=h);have A:NV.any (Fm t.Gi)=(Fm t.Gi qA||Fm t.Gi qB):=by simp[NV]
 have hq:PZ t=PZ t:=rfl;conv at hq=>rhs;unfold PZ
 rw[A] at hq;rw[Af,eH,Dm];rw[Dm] at i u s;simp only[Pv,Qg,A9,BP,Nat.reduceAdd,↓reduceIte,Mi,Zz,ZA];by_cases e:t.k=1;rotate_left;.rw[Ae e] at hq;simp only[abS,e,BW,hq]
 rw[Ac (by simp[e])] at hq;simp only[abS,e,BW];cases r:t.q with
 |true=>rw[Ae r] at hq;simp only[BC,hq]
 |false=>
  rw[Ac (by simp[r])] at hq;simp only[BC];cases o:t.hn with
  |false=>rw[Ae o] at hq;simp only[abS,hq]
  |true=>
   rw[Ac (by simp[o])] at hq;simp only[abS];by_cases d:t.name=aSC;rotate_left;.rw[Ae d] at hq;simp only[abS,d,hq]
   rw[Ac (by simp[d])] at hq;simp only[abS,d];cases m:t.hp with
   |false=>rw[Ae m] at hq;simp only[abS,hq]
   |true=>
    rw[Ac (by simp[m])] at hq;simp only[abS,g,AU.len hv,hlen];refine Bf (λn:Nat=>[.bool false,I (n:Int)]) (λn h1=>n<=GF.length/\GF.any (Hp t.Gi)=(GF.drop n).any (Hp t.Gi)/\h1=h) (λn=>GF.length-n) 0 rfl ⟨AQ _,rfl,rfl⟩ ?_;rintro n h1 ⟨zH,ha,rfl⟩;rcases AN n GF.length with hlt|D6
    .have i1:(n:Int)<((3:Nat):Int):=by omega
     have A:(GF.map BZ)[n]'(by rw[hlen];omega)=BZ GF[n]:=AH;have E:decide (DR t.Gi=DR GF[n])=Hp t.Gi GF[n]:=rfl;rw[AF hlt,JH] at ha;simp only[BC,aC,i1,AU.E2 hv (show n<(GF.map BZ).length by rw[hlen];omega),A,BZ,(Ă _ _ ht (D _ (AL hlt))).BV rfl rfl,E,BI (Ab:n<9223372036854775807)];rw[Cu];refine⟨λb=>?_,λb=>?_⟩;.rw[b,Jn] at ha;rw[ha,Jn,Jn] at hq;rw[hq]
     .rw[b,EV] at ha;exact AK.next (n+1) rfl ⟨hlt,ha,rfl⟩ Ab
    .have i1:¬(n:Int)<((3:Nat):Int):=by omega
     rw[AO D6,MH] at ha;rw[ha,EV] at hq;simp only[abS,i1];cases j:t.hs with
     |true=>rw[j] at hq;rw[e,r,o,d,m,j] at i;simp only[abS,c,i];rw[hq];simp
     |false=>
      rw[j] at hq;rw[e,r,o,d,m,j] at i u s;simp only[qA,qB] at u s hq;simp only[abS,↓reduceIte,c,i,u,s,Di,Nat.reduceLeDiff];rw[Cu,Cu];refine⟨λb=>?_,λb=>⟨λz=>?_,λz=>?_⟩⟩;.rw[hq,b];simp
      .rw[hq,z];simp
      .rw[hq,b,z];simp
end
def Į{t:HG}{av:Aa}(hv:Br t.Az av)(hl:t.Az.length<=1000000):∃YT,Br t.Az YT/\∀h,BH cx 26 [.agg (Dm t av)] h (.agg (Dm t YT)) h:=by obtain⟨u,e,hu⟩:=AU.cZ (l:=([]:List A3)) (f:=A3.row) (v:= .slnil) (b:=40) (.inr ⟨rfl,rfl⟩) hv (by simp;have:AM=140737488355328:=rfl;omega);refine⟨u,hu,λh=>?_⟩;have hc:u.cells=[u]:=AU.cells hu;rw[Af,sN];simp only[BC,Nat.reduceLeDiff,↓reduceIte,Dm,e,hc,A9,BP,Mi,Zz]
section
variable{sa:List A3->Bool}{t:HG}{av:Aa}{h:Ah}
def HG.NT(sa:List A3->Bool)(t:HG):Bool:=decide (t.name.length<=60)&&(decide (t.Gi.length<=100)&&(decide (t.sys.length<=100)&&(decide (t.data.length<=200)&&sa t.Az)))
def aMI(j:∀{v:Aa} {l:List A3} (h:Ah),Br l v->BH cx 11 [v] h (.bool (sa l)) h)(hv:Br t.Az av)(h:Ah):BH cx 6 [.agg (Dm t av)] h (.bool (t.NT sa)) h:=by
 rw[Af,aE5];unfold HG.NT;have b:((t.name.length:Int)<=60)=(t.name.length<=60):=propext Ab;have d:((t.Gi.length:Int)<=100)=(t.Gi.length<=100):=propext Ab;have f:((t.sys.length:Int)<=100)=(t.sys.length<=100):=propext Ab;have i:((t.data.length:Int)<=200)=(t.data.length<=200):=propext Ab;by_cases a:t.name.length<=60;rotate_left;.simp only[abS,Nat.reduceLeDiff,↓reduceIte,Dm,b,a,Jk]
 by_cases c:t.Gi.length<=100;rotate_left;.simp only[abS,Nat.reduceLeDiff,↓reduceIte,Dm,b,a,d,c,Jk]
 by_cases e:t.sys.length<=100;rotate_left;.simp only[abS,Nat.reduceLeDiff,↓reduceIte,Dm,b,a,d,c,f,e,Jk]
 by_cases g:t.data.length<=200;rotate_left;.simp only[abS,Nat.reduceLeDiff,↓reduceIte,Dm,b,a,d,c,f,e,i,g,Jk]
 .simp only[abS,Nat.reduceLeDiff,↓reduceIte,Dm,b,a,d,c,f,e,i,g,Jk,(j h hv).Ad]
end
end Go.Am
end
section
end
section
end
section
end
section
end
section
end
section
end
section
end
section
end
section
namespace Go.Am
open Go
def Is(r:J6):Hb:=λx vs h=>r=(x,vs,h)
def Is.ret{C:FW}{f:FuncId}{args:List Aa}{h h':Ah}{v:Aa}(hw:W C (Ca C f args) (Is (.ret,[v],h')) h):BH C f args h v h':=
 hw.mono λx vs h1 e=>by unfold Is at e;cases e;exact⟨rfl,rfl,rfl⟩
def Is.of{C:FW}{f:FuncId}{args:List Aa}{h h':Ah}{v:Aa}(hr:BH C f args h v h'):W C (Ca C f args) (Is (.ret,[v],h')) h:=
 W.mono hr λx vs h1 ⟨c,b,a⟩=>by unfold Is;rw[c,b,a]
section
variable{C:FW}{fn':FuncId->List Aa->IT}
def we{rec:IT->Ah->Option J6}(U9:∀t h r,rec t h=some r->W C t (Is r) h)(ay:∀f args h r,rec (fn' f args) h=some r->W C (Ca C f args) (Is r) h):
  ∀(t:IT) (h:Ah) (r:J6),IT.step fn' rec t h=some r->W C t (Is r) h:=by
 intro t;induction t with
 |ret x vs=>intro h r d;simp only[IT.step,Bz] at d;exact ľ d.symm
 |fail=>intro h r d;simp[IT.step] at d
 |op o args k ih=>
  intro h r d;simp only[IT.step] at d;split at d;.rename_i v e;exact aDZ e (ih _ _ _ d)
  .cases d
 |cells n v k ih=>
  intro h r d;simp only[IT.step] at d;split at d;.rename_i hc;exact vC hc (ih _ _ _ d)
  .cases d
 |Gc c t e i u=>
  intro h r d;simp only[IT.step] at d;split at d;.exact vD (λ_=>i _ _ d) λh=>by cases h
  .exact vD (λh=>by cases h) λ_=>u _ _ d
  .cases d
 |load n p k ih=>
  intro h r d;simp only[IT.step] at d;split at d;.rename_i v e;exact kj e (ih _ _ _ d)
  .cases d
 |store n p v k ih=>
  intro h r d;simp only[IT.step] at d;split at d;.rename_i v e;exact vE e (ih _ _ d)
  .cases d
 |alloc n v k ih=>
  intro h r d;simp only[IT.step,Wk] at d;by_cases hc:v.cells.length=n;.rw[Ae hc] at d;exact vF hc (ih _ _ _ d)
  .rw[Ac hc] at d;cases d
 |call f args k ih=>
  intro h r d;simp only[IT.step] at d;split at d;.rename_i v h1 e;exact(Is.ret (ay _ _ _ _ e)).Ad.2 (ih _ _ _ d)
  .cases d
 |Ja g args k ih=>
  intro h r d;simp only[IT.step] at d;split at d
  .rename_i f a ht;split at d;.rename_i v h1 e;exact MU.2 ⟨(f,a),ht,(Is.ret (ay _ _ _ _ e)).Ad.2 (ih _ _ _ d)⟩
   .cases d
  .cases d
 |BV f args k ih=>
  intro h r d;simp only[IT.step] at d;split at d
  .rename_i Ho;split at d
   .rename_i v h1 e;split at d;.rename_i je;have hp:Jj C f args v:=(Is.ret (ay _ _ _ _ e)).ev rfl;exact(hp.BV Ho je).2 (ih _ _ _ d)
    .cases d
   .cases d
  .cases d
 |loop key init body k l j=>
  intro h r d;simp only[IT.step] at d;split at d;.rename_i vs h1 e;exact Px ((l _ _ _ e).mono λx ř h2 q=>by unfold Is at q;cases q;exact .inl ⟨rfl,U9 _ _ _ d⟩)
  .rename_i x vs h1 hne e;exact Px ((l _ _ _ e).mono λx ř h2 q=>by unfold Is at q;cases q;exact .inr ⟨λhx=>hne hx,j _ _ _ _ d⟩)
  .cases d
 |N0 key t k i j=>
  intro h r d;simp only[IT.step] at d;split at d;.rename_i x vs h1 e;exact lf ((i _ _ e).mono λx ř h2 q=>by unfold Is at q;cases q;exact j _ _ _ _ d)
  .cases d
 |same a b k ih=>
  intro h r d;simp only[IT.step] at d;split at d;.rename_i hc;exact kq hc (ih _ _ d)
  .cases d
 |O6 k ih=>intro h r d;simp only[IT.step] at d;exact ku (ih _ _ _ d)
 |Kv m key v k ih=>
  intro h r d;simp only[IT.step] at d;split at d;.rename_i h1 e;exact kx e (ih _ _ d)
  .cases d
 |L9 z ok m key k ih=>
  intro h r d;simp only[IT.step] at d;split at d;.rename_i h1 e;exact ky e (ih _ _ _ d)
  .cases d
 |make size bytes zero len cap k ih=>
  intro h r d;simp only[IT.step] at d;split at d;.rename_i h1 v e;exact pK e (ih _ _ _ d)
  .cases d
 |K9 size bytes s x k ih=>
  intro h r d;simp only[IT.step] at d;split at d;.rename_i h1 v e;exact vG e (ih _ _ _ d)
  .cases d
 |Fb s k ih=>
  intro h r d;simp only[IT.step] at d;split at d;.rename_i h1 v e;exact WB e (ih _ _ _ d)
  .cases d
 |O3 v k ih=>
  intro h r d;simp only[IT.step] at d;split at d;.rename_i h1 v e;exact Ŀ e (ih _ _ _ d)
  .cases d
 |O7 off p k ih=>
  intro h r d;simp only[IT.step] at d;split at d;.rename_i h1 e;exact vH e (ih _ _ d)
  .cases d
 |IP size bytes s x k ih=>
  intro h r d;simp only[IT.step] at d;split at d;.rename_i h1 v e;exact kz e (ih _ _ _ d)
  .cases d
 |Gx size bytes s x k ih=>
  intro h r d;simp only[IT.step] at d;split at d;.rename_i v e;exact ZD e (ih _ _ _ d)
  .cases d
 |mem o args k ih=>
  intro h r d;simp only[IT.step] at d;split at d;.rename_i h1 v e;exact ŀ e (ih _ _ _ d)
  .cases d
 |uV f args k ih=>
  intro h r d;simp only[IT.step] at d;split at d
  .rename_i v h1 e;split at d;.rename_i je;obtain⟨n,x,vs,h2,B,w⟩:=ay _ _ _ _ e;unfold Is at w;cases w;obtain⟨m,x',HQ,h',A,y⟩:=(ih _ _ _ d).succ;refine C2 ⟨max n m,x',HQ,h',?_,y⟩;have a1:=IT.Ia (HN n m) B;have a2:=IT.JT (λt h r=>IT.Ia (fn:=Ca C) (Hl n m)) _ _ _ A;simp only[IT.step];simp only[FW.run] at*;rw[a1];simp only[je,BL];exact a2
   .cases d
  .cases d
def aC0(C:FW)(fn':FuncId->List Aa->IT):Prop:=∀f args,fn' f args=Ca C f args\/∀n h r,IT.run fn' n (fn' f args) h=some r->W C (Ca C f args) (Is r) h
def j2(hs:aC0 C fn'):∀(n:Nat) (t:IT) (h:Ah) (r:J6),IT.run fn' n t h=some r->W C t (Is r) h
 |0,t,h,r,a=>by simp[IT.run] at a
 |n+1,t,h,r,a=>by
  refine we (rec:=IT.run fn' n) (j2 hs n) ?_ t h r a;intro f args h r a;rcases hs f args with e|e
  .rw[e] at a;exact j2 hs n _ _ _ a
  .exact e n h r a
def ja(hs:aC0 cx fn'){f:FuncId}{args:List Aa}{h:Ah}(n:Nat)(hr:X8 (IT.run fn' n (Ca cx f args) h)=true):Ev cx f args h λr _=>r= .bool true:=by obtain⟨h',e⟩:=Zm hr;exact(Is.ret (j2 hs n _ _ _ e)).ev rfl
def az(v:Aa):IT:= .Fb (.str []) λu=> .O3 u λ_=> .ret .ret [v]
def bH{n:Nat}{v:Aa}{h:Ah}{r:J6}(e:IT.run fn' n (az v) h=some r):r=(.ret,[v],h++[.CO]):=by
 cases n with
 |zero=>simp[IT.run] at e
 |succ n=>
  have e0:IQ h (.str [])=some (h++[.cells []],.CE h.length 0 0 1):=rfl;have a:Kw (h++[.cells []]) (.CE h.length 0 0 1)=some (h++[.CO],.sl 1 []):=by simp[Kw,CA]
  simp only[IT.run,az,IT.step,e0,a,Bz] at e;exact e.symm
end
theorem aHM{l:Ao}{ws:List Ao}(w:vy l ws)(s:Ao)(h:Ah):BH cx 243 [.str s,.str l] h (.bool (decide (s∈ws))) (h++[.CO]):=by have a:=aCX w h;have r2:=ă (C0 (ws:=ws)) (by have:=w.few;omega) s (h++[Dw.CO]);rw[Af,VX];simp only[BC,a.Ad,r2.Ad]
def eqB:Ao->Ao->Bool
 |[],[]=>true
 |a::s,b::t=>Nat.beq a.toNat b.toNat&&eqB s t
 |_,_=>false
theorem a_:∀{s t:Ao},eqB s t=true↔s=t
 |[],[]=>by simp[eqB]
 |[],b::t=>by simp[eqB]
 |a::s,[]=>by simp[eqB]
 |a::s,b::t=>by simp only[eqB,Bq,a_ (s:=s) (t:=t),E1,Nat.beq_eq];exact⟨λ⟨h1,h2⟩=>⟨UN.1 h1,h2⟩,λ⟨h1,h2⟩=>⟨by rw[h1],h2⟩⟩
def spN(n:Nat):Bool:=(Nat.ble 9 n&&Nat.ble n 13)||Nat.beq n 32
theorem aC2(c:UInt8):spN c.toNat=NS c:=by unfold spN NS;rw[Lv];simp only[OE,Bq,Nat.ble_eq,Nat.beq_eq,Cz]
def jv:Ao->Ao->List Ao
 |cur,[]=>match cur with
  |[]=>[]
  |_::_=>[cur.reverse]
 |cur,c::r=>match spN c.toNat with
  |true=>match cur with
   |[]=>jv [] r
   |_::_=>cur.reverse::jv [] r
  |false=>jv (c::cur) r
theorem j3:∀(s cur:Ao),jv cur s=wf cur.reverse s
 |[],[]=>by simp[jv,wf]
 |[],c::cur=>by simp[jv,wf]
 |c::r,cur=>by
  have h1:=aC2 c;cases hc:NS c with
  |true=>
   rw[hc] at h1;cases cur with
   |nil=>simp[jv,wf,h1,hc,j3 r []]
   |cons x cur=>simp[jv,wf,h1,hc,j3 r []]
  |false=>rw[hc] at h1;simp[jv,wf,h1,hc,j3 r (c::cur)]
def okB(l:Ao):Bool:=Nat.ble l.length 1000000&&l.all λc=>Nat.ble (c.toNat+1) 128
theorem bb{l:Ao}(h:okB l=true):vy l (jv [] l):=by unfold okB at h;simp only[Bq,Nat.ble_eq,Dv] at h;exact⟨h.1,λc hc=>by have:=h.2 c hc;omega,by rw[j3];rfl⟩
def uL(s:Ao)(l:List Ao):Bool:=l.any (eqB s)
theorem jb(s:Ao)(l:List Ao):uL s l=decide (s∈l):=by rw[Lv];simp only[uL,Nj,a_,Cz];exact⟨λ⟨x,h1,h2⟩=>h2▸h1,λh=>⟨s,h,rfl⟩⟩
theorem aHN(r:Int)(h:Ah):BH cx 233 [.int .i32 r] h (.bool (decide (YF r))) h:=by
 have b:∀(lo hi:Int) (h:Ah),BH cx 361 [.int .i32 lo,.int .i32 hi] h (.func (.func 414) [] [.CG [.int .i32 lo],.CG [.int .i32 hi]]) h:=λlo hi h=>by rw[Af,SK];simp only[abS]
 have e:∀(v:Aa) (h:Ah),v.cells=[v]->BH cx 360 [v] h (.func (.func 413) [] [.CG [v]]) h:=λv h hv=>by rw[Af,V4];simp only[abS,hv]
 have c:=aHD (L:=[(9,10),(12,13),(32,32)]) AX r h;have a:AE (.Dh 1) [.func (.func 414) [] [.CG [.int .i32 9],.CG [.int .i32 10]],.func (.func 414) [] [.CG [.int .i32 12],.CG [.int .i32 13]],.func (.func 414) [] [.CG [.int .i32 32],.CG [.int .i32 32]]]=some (.sl 1 ([((9:Int),(10:Int)),(12,13),(32,32)].map UJ)):=rfl;have d:∀v:Aa,Di (.func (.func 413) [] [v]) [.int .i32 r]=some (413,[.int .i32 r,v]):=λ_=>rfl;have r2:=e (.sl 1 ([((9:Int),(10:Int)),(12,13),(32,32)].map UJ)) h rfl;have e0:decide (YF r)=([((9:Int),(10:Int)),(12,13),(32,32)].any λp=>decide (p.1<=r/\r<=p.2)):=by
  have a:YF r↔((9<=r/\r<=10)\/(12<=r/\r<=13)\/(32<=r/\r<=32)):=by unfold YF;omega
  simp only[JH,MH,JF,<-Bool.decide_or,C5];exact a
 rw[e0,Af,VU];simp only[abS,(b 9 10 h).Ad,(b 12 13 h).Ad,(b 32 32 h).Ad,a,r2.Ad,d,c.Ad]
def wg(d:IT):List Aa->IT
 |[.str s,.str l]=>match okB l with
  |true=>az (.bool (uL s (jv [] l)))
  |false=>d
 |_=>d
def wh(d:IT):List Aa->IT
 |[.str l]=>match okB l with
  |true=>az (.sl 1 ((jv [] l).map BZ))
  |false=>d
 |_=>d
def wj(d:IT):List Aa->IT
 |[.int .i32 r]=> .ret .ret [.bool (decide (YF r))]
 |_=>d
noncomputable def aHO(f:FuncId)(args:List Aa):IT:=
 match Nat.beq f 243 with
 |true=>wg (Š f args) args
 |false=>match Nat.beq f 368 with
  |true=>wh (Š f args) args
  |false=>match Nat.beq f 233 with
   |true=>wj (Š f args) args
   |false=>Š f args
theorem į:aC0 cx aHO:=by
 intro f args;unfold aHO;split
 .rename_i hf;have hf:=M5 hf;subst hf;unfold wg;split
  .rename_i s l;split;.rename_i ho;refine .inr λn h r e=>?_;rw[bH e,jb];exact Is.of (aHM (bb ho) s h)
   .exact .inl (by rw[Rw])
  .exact .inl (by rw[Rw])
 .split
  .rename_i hf;have hf:=M5 hf;subst hf;unfold wh;split
   .rename_i l;split;.rename_i ho;refine .inr λn h r e=>?_;rw[bH e];exact Is.of (aCX (bb ho) h)
    .exact .inl (by rw[Rw])
   .exact .inl (by rw[Rw])
  .split
   .rename_i hf;have hf:=M5 hf;subst hf;unfold wj;split
    .rename_i a;refine .inr λn h r e=>?_;cases n with
     |zero=>simp[IT.run] at e
     |succ n=>simp only[IT.run,IT.step,Bz] at e;rw[<-e];exact Is.of (aHN a h)
    .exact .inl (by rw[Rw])
   .exact .inl (by rw[Rw])
theorem uM:Ev cx 7 [] [] λr _=>r= .bool true:=ja į 3000 Da
theorem j6:Jj cx 7 [] tt:=uM
end Go.Am
end
