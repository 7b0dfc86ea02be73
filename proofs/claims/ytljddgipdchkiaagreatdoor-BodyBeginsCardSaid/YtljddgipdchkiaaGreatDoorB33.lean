/- Lemmas -/
import Derived.Test.YtljddgipdchkiaaGreatDoorB31
set_option linter.all false
namespace Go.Am
open Go
set_option maxRecDepth 100000
section
variable{t:HG}{av:Aa}{h:Ah}
def aHR(r:Int):Jj cx 276 [.int .u8 r] (.bool (decide (YF r))):=by
 rw[Lk,Û];by_cases h1:r=9;.subst h1;simp[YF]
 by_cases h2:r=10;.subst h2;simp[YF]
 by_cases e:r=12;.subst e;simp[YF]
 by_cases d:r=13;.subst d;simp[YF]
 by_cases c:r=32;.subst c;simp[YF]
 have:¬YF r:=by unfold YF;omega
 simp[h1,h2,e,d,c,this]
def aHS(t:HG)(av:Aa)(h:Ah):BH cx 127 [.agg (Dm t av)] h (.bool (decide t.J4)) h:=by
 rw[Af,L_];by_cases d:t.k=5
 .by_cases h0:0<=t.r
  .by_cases h1:t.r<128
   .have e:IntKind.u8.wrap t.r=t.r:=by rw[IntKind.wrap_u8];omega
    have c:decide t.J4=decide (YF t.r):=C5.2 (by unfold HG.J4;exact⟨λh=>h.2,λh=>⟨d,h⟩⟩);simp only[abS,Dm,AW d,h0,h1,Qf,e,(aHR t.r).BV rfl rfl,c]
   .have c:decide t.J4=false:=Ay λh=>by unfold HG.J4 YF at h;have h2:=h.2;omega
    simp only[abS,Dm,AW d,h0,h1,c]
  .have c:decide t.J4=false:=Ay λh=>by unfold HG.J4 YF at h;have h2:=h.2;omega
   simp only[abS,Dm,AW d,h0,c]
 .have c:decide t.J4=false:=Ay λh=>d h.1;simp only[abS,Dm,d,c]
def aHT(t:HG)(av:Aa)(h:Ah):BH cx 126 [.agg (Dm t av)] h (.bool (decide ¬t.ok)) h:=by
 rw[Af,K_];by_cases h1:t.k<1;.have e:decide (¬t.ok)=true:=AA (by unfold HG.ok;omega);simp only[abS,Dm,h1,e,Dp,Dy]
 .by_cases h2:6<t.k;.have e:decide (¬t.ok)=true:=AA (by unfold HG.ok;omega);simp only[abS,Dm,h1,h2,e,Dp,Dy]
  .have e:decide (¬t.ok)=false:=Ay λh=>h (by unfold HG.ok;omega);simp only[abS,Dm,h1,h2,e,Dp,Dy]
structure Wd(l:Ao)(ws:List Ao):Prop where
 len:l.length<9223372036854775806
 w:∀s,FY l s=decide (s∈ws)
def aHU{l:Ao}{ws:List Ao}(h0:(decide (l.length<9223372036854775806))=true)(h1:Dg [] l=ws)(h2:ws.all (λw=> !w.isEmpty&& !w.contains 32)=true):Wd l ws:=⟨HZ h0,λs=>D7 h1 h2⟩
def aMK{l:Ao}{ws:List Ao}(w:Wd l ws)(ht:t.name.length<=1000)(av:Aa)(h:Ah):BH cx 132 [.agg (Dm t av),.str l] h (.bool (decide (t.st ws))) h:=by
 rw[Af,O_];by_cases c:t.k=2
 .have e:decide (t.st ws)=decide (t.name∈ws):=by unfold HG.st;simp[c]
  simp only[abS,Dm,AW c,HW w.len (Ab:t.name.length<9223372036854775807),w.w,e]
 .have e:decide (t.st ws)=false:=by unfold HG.st;simp[c]
  simp only[abS,Dm,c,e]
def aML{l:Ao}{ws:List Ao}(w:Wd l ws)(ht:t.name.length<=1000)(av:Aa)(h:Ah):BH cx 133 [.agg (Dm t av),.str l] h (.bool (decide (t.en ws))) h:=by
 rw[Af,P_];by_cases c:t.k=3
 .have e:decide (t.en ws)=decide (t.name∈ws):=by unfold HG.en;simp[c]
  simp only[abS,Dm,AW c,HW w.len (Ab:t.name.length<9223372036854775807),w.w,e]
 .have e:decide (t.en ws)=false:=by unfold HG.en;simp[c]
  simp only[abS,Dm,c,e]
def aMM(nm:Ao)(h:Ah):BH cx 134 [.str nm] h (.agg (Dm (Zt nm) .slnil)) h:=by rw[Af,Q_];simp only[abS,Nat.reduceLeDiff,↓reduceIte,AP,Dm,Zt];try rfl
def aC4(a b:Ao)(ha:a.length<=AM)(hb:b.length<=AM):Jj cx 279 [.str a,.str b] (.bool (Hp a b)):=by rw[Lk,Ü];simp only[BC,(tJ a ha).BV rfl rfl,(tJ b hb).BV rfl rfl,Hp]
def aMN(a b:Ao):Jj cx 381 [.str a,.str b] (.bool (decide (b.length<=a.length/\a.take b.length=b))):=by
 rw[Lk,ø];simp only[BC];refine⟨λh=>?_,λh=>?_⟩
 .have h:b.length<=a.length:=by omega
  simp only[BC,bG h,h];try simp
 .have h:¬b.length<=a.length:=by omega
  simp[h]
def Q2(s:Ao):(DR s).length=s.length:=by simp[DR]
def oS(s:Ao)(n:Nat):DR (s.take n)=(DR s).take n:=by simp[DR,Fs]
def aHV{v:Aa}{ws:List Ao}(hv:HI ws v)(p:Ao)(hp:p.length<=AM)(hw:∀w∈ws,w.length<=AM)(hn:ws.length<9223372036854775807)(h:Ah):BH cx 280 [.str p,v] h (.bool (ws.any (Fm p))) h:=by
 rw[Af,Ý];have hlen:(ws.map BZ).length=ws.length:=Ak ..;refine Bf (λn:Nat=>[.bool false,.int .i64 (n:Int)]) (λn h1=>n<=ws.length/\ws.any (Fm p)=(ws.drop n).any (Fm p)/\h1=h) (λn=>ws.length-n) 0 rfl ⟨AQ _,rfl,rfl⟩ ?_;rintro n h1 ⟨zH,ha,rfl⟩;rcases AN n ws.length with hlt|D6
 .have i1:(n:Int)<((ws.map BZ).length:Int):=by rw[hlen];omega
  have e:(ws.map BZ)[n]'(by rw[hlen];exact hlt)=BZ ws[n]:=AH;have d:decide ((DR ws[n]).length<=(DR p).length/\(DR p).take (DR ws[n]).length=DR ws[n])=Fm p ws[n]:=by rw[Q2,Q2,<-oS];rfl
  rw[AF hlt,JH] at ha;simp only[BC,aC,AU.len hv,i1,AU.E2 hv (show n<(ws.map BZ).length by rw[hlen];exact hlt),e,BZ,(tJ p hp).BV rfl rfl,(tJ _ (hw _ (AL hlt))).BV rfl rfl,(aMN _ _).BV rfl rfl,d,BI (Ab:n<9223372036854775807)];rw[Cu];refine⟨λc=>?_,λc=>?_⟩;.rw[ha,c,Jn]
  .rw[c,EV] at ha;exact AK.next (n+1) rfl ⟨hlt,ha,rfl⟩ Ab
 .have i1:¬(n:Int)<((ws.map BZ).length:Int):=by rw[hlen];omega
  rw[AO D6,MH] at ha;rw[ha];simp only[abS,AU.len hv,i1]
def aMO(t:HG)(ht:t.Gi.length<=AM)(h:Ah):BH cx 130 [.agg (Dm t av)] h (.bool (PZ t)) h:=by
 have e:=DF (ws:=S2) (args:=S2.map Aa.str) rfl AX;have d:=DF (ws:=NV) (args:=NV.map Aa.str) rfl AX;generalize i:(Aa.sl 1 (S2.map BZ))=p at e;generalize g:(Aa.sl 1 (NV.map BZ))=z2 at d;have w1:∀w∈S2,w.length<=AM:=EF;have r:∀w∈NV,w.length<=AM:=EF;have s:=aHV (ws:=S2) (v:=p) (by rw[<-i];exact .mk) t.Gi ht w1 AX h;have r2:=aHV (ws:=NV) (v:=z2) (by rw[<-g];exact .mk) t.Gi ht r AX h;have m:∀{Q:Hb} {h:Ah} {k:Aa->IT},W cx (.BV 279 [.str t.Gi,.str qE1] k) Q h↔W cx (k (.bool (Hp t.Gi qE1))) Q h:=(aC4 t.Gi qE1 ht EF).BV rfl rfl;have l:∀{Q:Hb} {h:Ah} {k:Aa->IT},W cx (.BV 279 [.str t.Gi,.str qE2] k) Q h↔W cx (k (.bool (Hp t.Gi qE2))) Q h:=(aC4 t.Gi qE2 ht EF).BV rfl rfl;have j:∀{Q:Hb} {h:Ah} {k:Aa->IT},W cx (.BV 279 [.str t.Gi,.str qE3] k) Q h↔W cx (k (.bool (Hp t.Gi qE3))) Q h:=(aC4 t.Gi qE3 ht EF).BV rfl rfl;have u:GF.any (Hp t.Gi)=(Hp t.Gi qE1||(Hp t.Gi qE2||Hp t.Gi qE3)):=by simp[GF]
 unfold PZ;rw[u];generalize Hp t.Gi qE1=b1 at*;generalize Hp t.Gi qE2=b2 at*;generalize Hp t.Gi qE3=b3 at*;generalize S2.any (Fm t.Gi)=b4 at*;generalize NV.any (Fm t.Gi)=b5 at*;simp only[S2,NV,qA,qB,qE1,qE2,qE3,Bk,CW] at e d m l j;try dsimp only at e d
 rw[Af,M_,Dm];by_cases c:t.k=1;rotate_left;.simp only[abS,c,BW,Au,BL]
 cases A:t.q with
 |true=>simp[abS,c]
 |false=>
 cases z:t.hn with
 |false=>simp[abS,c]
 |true=>
 by_cases f:t.name=aSC;rotate_left;.simp[abS,c,f]
 cases y:t.hp with
 |false=>simp[abS,c,f]
 |true=>
 cases x:t.hs<;>cases b1<;>(try(cases b2))<;>(try(cases b3))<;>(try(cases b4))<;>simp[abS,c,f,m,l,j,e,d,s.Ad,r2.Ad]
end
section
variable{h h':Ah}{bi:Nat}{b b':BS}{F:Nat->Prop}{n o a:Nat}{t:HG}{av:Aa}
def aHW{a n i:Nat}{ps:List RN}{A:Ar}{x:Int}(w:RA h a n i ps A)(hx:A.has x/\(A.nd x).kind=1)(q:Bool):
  ∃h' IN,BH cx 131 [.ptr (some (a,0)),.int .i64 x,.bool q] h (I 0) h'/\RA h' a n i IN (A.set x {A.nd x with Cq:=q})/\DA h (I9 a n i) h' (I9 a n i):=by
 obtain⟨h1,d,w1,c,_⟩:=w.wr hx.1 (k:=10) AX (v:= .bool q) rfl (p:=⟨{A.nd x with Cq:=q},(pR ps x).kv,(pR ps x).av,w.MK hx.1,w.jq hx.1⟩) (by simp only[RN.row];rw[(w.pn hx.1).2];rfl);refine⟨h1,_,?_,w1,c⟩;rw[Af,N_];simp only[abS,(HF (x:=x) w).Ad,AA hx.1,w.nodes,w.addr hx.1,w.f0 hx.1,hx.2,BW,d]
def wv(w:RB h bi b F)(g:Gz b n o a):∃d,Bd h none (.ptr (some (bi,0)))=some (.ptr (some (d,0)))/\Zu h F 131 [.ptr (some (d,0)),.int .i64 b.Cf,tt] (.int .i64 0) bi b.YH:=by
 obtain⟨d,k,c,e,G,w,hc,rfl⟩:=w;obtain⟨h',G',r,w',x'⟩:=w.step (A':=b.YH.a) (R:=λh'=>BH cx 131 [.ptr (some (d,0)),.int .i64 b.Cf,tt] h (.int .i64 0) h') λn i ps j=>by obtain⟨h1,Wc,r,w1,f⟩:=aHW j g.ok.Cf true;exact⟨h1,n,i,Wc,r,w1,f⟩
 exact⟨d,w.l0,h',_,r,⟨d,k,c,e,G',w',hc,rfl⟩,x'⟩
def aMP(w:RB h bi b F)(g:Gz b (n+1) o a)(nm Gi sys:Ao):∃d,Bd h none (.ptr (some (bi,0)))=some (.ptr (some (d,0)))/\Zu h F 128 [.ptr (some (d,0)),.int .i64 b.Cf,.agg [I 3,I 0,.slnil,I 0,I 0,.str nm,.slnil,S [],.str Gi,.str sys,ff,I 0,I 0]] (.tuple [.int .i64 (b.a.len+1),I 0]) bi {b with a:=b.a.add (S1 nm Gi sys b.Cf).x}:=by
 obtain⟨d,l,c,e,G,w,hc,rfl⟩:=w;obtain⟨h',G',r,w',x'⟩:=w.step (A':=b.a.add (S1 nm Gi sys b.Cf).x) (R:=λh'=>BH cx 128 [.ptr (some (d,0)),.int .i64 b.Cf,.agg [I 3,I 0,.slnil,I 0,I 0,.str nm,.slnil,S [],.str Gi,.str sys,ff,I 0,I 0]] h (.tuple [.int .i64 (b.a.len+1),I 0]) h') λn i ps f=>by obtain⟨h1,m,i1,j,w1,k⟩:=oL f (by have:=g.rm.n;unfold Ar.len;omega) ⟨(S1 nm Gi sys b.Cf).x,.slnil,.slnil,.inr ⟨rfl,rfl⟩,.inr ⟨rfl,rfl⟩⟩;refine⟨h1,m,i1,_,?_,w1,k⟩;simp only[RN.row,S1] at j;rw[Af,xI];simp only[abS,(oM f g.ok.Cf.1 g.ok.Cf.2).Ad,j.Ad,BW]
 exact⟨d,w.l0,h',_,r,⟨d,l,c,e,G',w',hc,rfl⟩,x'⟩
def aC5(w:RB h bi b F)(g:Gz b n o a)(p x bf:Int):∃d f,Bd h none (.ptr (some (bi,0)))=some (.ptr (some (d,0)))/\Zu h F 129 [.ptr (some (d,0)),.int .i64 p,.int .i64 x,.int .i64 bf] (.int .i64 f) bi {b with a:=b.a.Fq p x bf}:=by obtain⟨d,i,c,e,G,w,hc,rfl⟩:=w;obtain⟨f,h',G',r,w',x'⟩:=w.YB g.ok g.rm p x bf;exact⟨d,f,w.l0,h',_,r,⟨d,i,c,e,G',w',hc,rfl⟩,x'⟩
def ı:Wd aSC [aSC]:=aHU AX EF EF
def aHX:Wd aSP eHB:=aHU AX EF EF
def aMQ(w:RB h bi b F)(g:Gz b (n+5) o a)(hm:Nm b.a)(ht:t.Sm)(hv:Br t.Az av):Zu h F 39 [.ptr (some (bi,0)),.agg (Dm t av)] (.bool (b.EU t).2) bi (b.EU t).1:=by
 have YI:=w.YI;have e:=aHT t av h;have d:=aHS t av h;have f:=aMK (t:=t) ı ht.name av h;have j:=aML (t:=t) aHX ht.name av h;unfold BS.EU;by_cases x:¬t.ok;.rw[Ae x];rw[AA x] at e;refine⟨_,_,?_,w,.refl⟩;rw[Af,Rv];simp only[abS,↓reduceIte,e.Ad]
 rw[Ac x];rw[Ay x] at e;by_cases l:t.k=1;.rw[Ae l];refine⟨_,_,?_,w,.refl⟩;rw[Af,Rv];cases hw:decide t.J4<;>rw[hw] at d<;>simp only[abS,↓reduceIte,e.Ad,d.Ad,AW l]
 rw[Ac l];by_cases v:t.J4;.rw[Ae v];rw[AA v] at d;refine⟨_,_,?_,w,.refl⟩;rw[Af,Rv];simp only[abS,↓reduceIte,e.Ad,d.Ad]
 rw[Ac v];rw[Ay v] at d;by_cases q:t.odd eHB
 .rw[Ae q];have c:=q.1;have D:¬t.st [aSC]:=λh=>by have:=h.1;omega
  have A:¬t.en eHB:=λh=>q.2 h.2;rw[Ay D] at f;rw[Ay A] at j;refine⟨_,_,?_,w,.refl⟩;rw[Af,Rv];simp only[Dm,c] at e d f j;simp only[abS,↓reduceIte,Dm,c,e.Ad,d.Ad,f.Ad,j.Ad,(Ab:¬(3:Int)=1),(Ab:¬(3:Int)=4)]
 rw[Ac q];by_cases p:t.k=4;.rw[Ae p];obtain⟨h1,C,i,w1,m⟩:=bE (s:=t.data) w (g.dn (n':=n+1) Ab) hm (by have:=ht.data;omega) b.Cf;refine⟨_,_,?_,w1,m⟩;rw[Af,Rv];simp only[abS,↓reduceIte,e.Ad,d.Ad,l,AW p,YI,i.Ad]
 rw[Ac p];by_cases u:t.st [aSC];.rw[Ae u];rw[AA u] at f;obtain⟨h1,C,i,w1,m⟩:=aAk w (g.dn (n':=n+4) Ab) hm ht hv;obtain⟨r,z,y⟩:=YJ w1 3;refine⟨_,_,?_,z,m.trans y⟩;simp only[Dm] at i;rw[Af,Rv];simp only[Dm] at e d f;simp only[abS,Nat.reduceLeDiff,↓reduceIte,Dm,e.Ad,d.Ad,l,p,f.Ad,i.Ad,r]
 rw[Ac u];rw[Ay u] at f;obtain⟨h1,C,i,w1,m⟩:=aAk (t:=Zt aSC) (av:= .slnil) w (g.dn (n':=n+4) Ab) hm (jX AX) (.inr ⟨rfl,rfl⟩);obtain⟨r,z,y⟩:=YJ w1 3;have B:=aMM aSC h;refine⟨_,_,?_,z,m.trans y⟩;rw[Af,Rv];by_cases c:t.k=3;.have A:t.en eHB:=⟨c,Decidable.byContradiction λh=>q ⟨c,h⟩⟩;rw[AA A] at j;simp only[Dm,c] at e d f j;simp only[abS,↓reduceIte,Dm,c,e.Ad,d.Ad,f.Ad,j.Ad,(Ab:¬(3:Int)=1),(Ab:¬(3:Int)=4),B.Ad,i.Ad,r,BS.again]
 .simp only[abS,↓reduceIte,e.Ad,d.Ad,l,p,c,f.Ad,B.Ad,i.Ad,r,BS.again]
def aMR(w:RB h bi b F)(g:Gz b (n+5) o a)(hm:Nm b.a)(ht:t.Sm)(hp:t.Gi.length<=AM)(hv:Br t.Az av):Zu h F 38 [.ptr (some (bi,0)),.agg (Dm t av)] (.bool (b.Im PZ t).2) bi (b.Im PZ t).1:=by
 have YI:=w.YI;have c:=aHT t av h;have d:=aHS t av h;unfold BS.Im;by_cases z:¬t.ok;.rw[Ae z];rw[AA z] at c;refine⟨_,_,?_,w,.refl⟩;rw[Af,TJ];simp only[abS,↓reduceIte,c.Ad]
 rw[Ac z];rw[Ay z] at c;by_cases v:t.J4;.rw[Ae v];rw[AA v] at d;refine⟨_,_,?_,w,.refl⟩;rw[Af,TJ];simp only[abS,↓reduceIte,c.Ad,d.Ad]
 rw[Ac v];rw[Ay v] at d;by_cases e:t.k=4;.rw[Ae e];obtain⟨h1,H,j,w1,i⟩:=bE (s:=t.data) w (g.dn (n':=n+1) Ab) hm (by have:=ht.data;omega) b.Cf;refine⟨_,_,?_,w1,i⟩;rw[Af,TJ];simp only[abS,↓reduceIte,c.Ad,d.Ad,AW e,YI,j.Ad]
 rw[Ac e];by_cases f:t.k=1;rotate_left;.rw[Ae f];obtain⟨P,u,h1,H,j,w1,i⟩:=wv w g;obtain⟨K,r,q⟩:=YJ w1 2;refine⟨_,_,?_,r,i.trans q⟩;rw[Af,TJ];simp only[abS,↓reduceIte,c.Ad,d.Ad,e,f,u,YI,j.Ad,K,BS.again]
 rw[Ac (by simp[f])];have hd:=g.ok.Cf;have hx:rU {kind:=3,Cf:=b.Cf,name:=t.name,Gi:=t.Gi,sys:=t.sys}:=by constructor<;>simp[Cv,GA,YR]
 have QZ:=PK g.ok.ok hx (.inr ⟨AH,hd⟩) rfl rfl rfl rfl (λh=>absurd h.1 (AX:¬(3:Int)=4));obtain⟨P,u,h1,H,j,w1,i⟩:=aMP w (g.dn (n':=n+1) Ab) t.name t.Gi t.sys;have g1:Gz {b with a:=b.a.add (S1 t.name t.Gi t.sys b.Cf).x} n o a:=⟨g.ok.I4 QZ TH,(g.dn (n':=n+1) Ab).rm.IP (Kl (y:={kind:=3,Cf:=b.Cf,name:=t.name,Gi:=t.Gi,sys:=t.sys}) AH AH),g.AY,g.A8⟩;obtain⟨O,Q,p,h2,F2,r2,r,q⟩:=aC5 w1 g1 b.Cf (b.a.len+1) 0;have l1:=w1.YI;have M:=r.YI;have g2:Gz (b.PX t) n o a:=(g.dn (n':=n+1) Ab).PX;have m:RB h2 bi (b.PX t) F2:=r;have l:=aMO (av:=av) t hp h2;dsimp only;cases e:PZ t with
 |true=>rw[e] at l;rw[Ae rfl];obtain⟨G,E,N,R,L,J,I⟩:=wv m g2;have D:BH cx 131 [.ptr (some (G,0)),.int .i64 b.Cf,tt] h2 (.int .i64 0) N:=L;obtain⟨C,B,A⟩:=YJ J 2;refine⟨_,_,?_,B,((i.trans q).trans I).trans A⟩;rw[Af,TJ];simp only[Dm,f] at c d l;simp only[abS,Nat.reduceLeDiff,↓reduceIte,AP,c.Ad,d.Ad,(AX:¬(1:Int)=4),f,Dm,BW,Av,u,YI,j.Ad,p,l1,r2.Ad,l.Ad,E,M,D.Ad,C]
 |false=>rw[e] at l;rw[Ac AH];obtain⟨C,B,A⟩:=YJ m 2;refine⟨_,_,?_,B,(i.trans q).trans A⟩;rw[Af,TJ];simp only[Dm,f] at c d l;simp only[abS,Nat.reduceLeDiff,↓reduceIte,AP,c.Ad,d.Ad,(AX:¬(1:Int)=4),f,Dm,BW,Av,u,YI,j.Ad,p,l1,r2.Ad,l.Ad,C]
end
end Go.Am
