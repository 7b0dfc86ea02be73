/- Lemmas -/
import Derived.Test.YtljddgipdchkiaaGreatDoorB27
set_option linter.all false
noncomputable section
set_option maxHeartbeats 0
set_option maxRecDepth 100000
section
namespace Go.Am
open Go
def UI{nm:Ao}:∀{r:List Cs} {j:Nat},PL nm r=(j:Int)->∃hj:j<r.reverse.length,r.reverse[j].node≠0
 |[],j,e=>by rw[PL] at e;omega
 |x::r,j,e=>by
  rw[PL] at e;split at e;.omega
  .rename_i h0;split at e
   .have d:j=r.reverse.length:=by rw[KU];omega
    subst d;exact⟨AH,by simpa using h0⟩
   .obtain⟨hj,h1⟩:=UI e;refine⟨by simp at hj⊢;omega,?_⟩;simp only[EE];rw[Gf hj];exact h1
def uF{nm:Ao}{l:List Cs}{f:Nat}(e:GB nm l=(f:Int)):∃hf:f<l.length,l[f].node≠0:=by unfold GB at e;obtain⟨hj,h⟩:=UI e;simp only[Fj] at hj h;exact⟨hj,h⟩
def YE{l:List Cs}{n:Int}{q:Nat}(e:Ff n l=(q:Int)):oN n l=Be l q:=by unfold oN;rw[e,Ae Ab,AV]
section
variable{h h':Ah}{bi a:Nat}{o c t:Aa}{G G' F:Nat->Prop}{b:BS}{x:Int}{m:Nat}
variable{nm:Ao}{av:Aa}{l:List A3}{r:List Aa}{sp p:Int}
def B4.aHp{d:List Cs}(hc:B4 d c)(hb:d.length<=900000000)(nm:Ao)(h:Ah):BH cx 353 [c,.str nm] h (I (GB nm d)) h:=by obtain⟨fs,Hj,hv⟩:=hc;have:=aKC (h:=h) hv (by rw[<-Hj,Ak] at hb;omega) nm;rwa [zS,Hj] at this
def aHq(w:RX h bi a o c t G b)(hc:B4 b.A8 c)(ok:Eu b)(rm:B6 b (m+4*b.AY.length+10))(hnm:Nm b.a)(nm:Ao):
  ∃h' o' c' G',BH cx 224 [Pt bi 0,.str nm] h (.bool (b.round nm).1) h'/\RX h' bi a o' c' t G' (b.round nm).2/\B4 (b.round nm).2.A8 c'/\DA h (Bt bi G) h' (Bt bi G'):=by
 have ho:=rm.AY;have Td:=rm.A8;have UZ:∀i∈b.AY,i.name.length<9223372036854775807:=λi hi=>by have:=rm.YS i hi;omega
 have l3:=w.l3;have ld:Bd h none (Pt bi 2)=some o:=w.ld 2;have M:=hc.aHp Ab nm h;by_cases hf:GB nm b.A8<0
 .obtain⟨h2,o2,r2,U,x2⟩:=aHi w rm nm;have e:b.round nm=(false,b.Dl nm):=by unfold BS.round;simp only;rw[Ae hf]
  have ea:(b.Dl nm).A8=b.A8:=by
   unfold BS.Dl;split;.split<;>rfl
   .rfl
  rw[e];refine⟨h2,o2,c,G,?_,U,by rw[ea];exact hc,x2⟩;rw[Af,Qt];simp only[abS,l3,M.Ad,hf,r2.Ad]
 obtain⟨f,Ho,T⟩:=SV (Jq.1 hf);obtain⟨_,ė⟩:=uF T;have o8:¬(f:Int)<0:=Ab;rw[T] at M;have KI:=hc;obtain⟨fs,Hj,hv⟩:=KI;have aLB:b.A8.length=fs.length:=by rw[<-Hj,Ak]
 have efp:fs[f].c=b.A8[f]:=by simp only[<-Hj,CU]
 have V:=AU.BJ (k:= .i64) hv (Ab:f<fs.length);have Yq:=zX ok.fg Ho ė;have Kz:=rm.DD _ (AL Ho);have Wg:b.A8.getD f Cs.zero=b.A8[f]:=by rw[AJ,Ai Ho];rfl
 rw[<-efp] at Yq Kz Wg ė;generalize hfe:fs[f]=fe at*;have gu:fe.v.cells=[fe.v]:=AU.cells fe.ok;rw[Cj.row] at V;have r2:=Zo (h:=h) w.o Ab fe.c.node;by_cases hk:AR (Bw fe.c.node) b.AY<0
 .obtain⟨h2,c2,D,U,IV,x2⟩:=vr w hc Ab fe.c.node;rw[YE Yq] at U IV;have e:b.round nm=(false,{b with A8:=Be b.A8 f}):=by unfold BS.round;simp only;rw[Ac hf,T,AV,Wg,Ae hk]
  rw[e];refine⟨h2,o,c2,G,?_,U,IV,x2⟩;rw[Af,Qt];simp only[abS,Nat.reduceLeDiff,↓reduceIte,l3,M.Ad,o8,V,ld,r2.Ad,hk,D.Ad]
 obtain⟨k,R⟩:∃k:Nat,AR (Bw fe.c.node) b.AY=(k:Int):=⟨_,(GW (Jq.1 hk)).symm⟩;obtain⟨P7,hkq,_⟩:=II R;have nJ:¬(k:Int)<0:=Ab;rw[R] at r2;have D:=aKq (h:=h) w.o Ab UZ 1 fe.c.node;by_cases QG:J7 (Bw fe.c.node) (JN 1) b.AY.reverse=false
 .have e:b.round nm=(false,b):=by unfold BS.round;simp only;rw[Ac hf,T,AV,Wg,Ac hk,Ae (.inr QG)]
  rw[e];refine⟨h,o,c,G,?_,w,hc,.refl⟩;rw[QG] at D;rw[Af,Qt];simp only[abS,Nat.reduceLeDiff,↓reduceIte,l3,M.Ad,o8,V,ld,r2.Ad,nJ,AZ,D.Ad]
 have aCE:J7 (Bw fe.c.node) (JN 1) b.AY.reverse=true:=by simpa using QG
 rw[aCE] at D;by_cases hkz:k=0
 .have e:b.round nm=(false,b):=by unfold BS.round;simp only;rw[Ac hf,T,AV,Wg,Ac hk,Ae (.inl (by rw[R,hkz];rfl))]
  rw[e];refine⟨h,o,c,G,?_,w,hc,.refl⟩;rw[Af,Qt];simp only[abS,Nat.reduceLeDiff,↓reduceIte,l3,M.Ad,o8,V,ld,r2.Ad,nJ,AZ,D.Ad,AW (Ab:(k:Int)=0)]
 have oD:¬(k:Int)=0:=Ab;have r4:=aKr (h:=h) w.o Ab UZ fe.c.node;have hor:¬(AR (Bw fe.c.node) b.AY=0\/J7 (Bw fe.c.node) (JN 1) b.AY.reverse=false):=by rw[R];rintro(h|h);exact oD h;exact QG h
 by_cases hfa:D0 fe.c.node b.AY<0
 .have e:b.round nm=(false,{b with AY:=GU fe.c.node b.AY,A8:=Be b.A8 f}):=by unfold BS.round;simp only;rw[Ac hf,T,AV,Wg,Ac hk,Ac hor,Ae hfa]
  obtain⟨u,t1,r5,hu⟩:=aFz (h:=h) w.o Ab fe.c.node;have w1:=w.IA (u:=t1);have U:=w1.I8 hu;obtain⟨h3,c3,r6,w3,Nk,x3⟩:=vr U hc Dq fe.c.node;simp only at w3 Nk;rw[YE Yq] at w3 Nk;rw[e];refine⟨h3,u,c3,G,?_,w3,Nk,(w.C7.trans Bp).trans x3⟩;rw[Af,Qt];simp only[abS,Nat.reduceLeDiff,↓reduceIte,l3,M.Ad,o8,V,ld,r2.Ad,nJ,AZ,D.Ad,oD,r4.Ad,hfa,r5.Ad,w1.st (k:=2) (v0:=o) rfl (AU.cells hu),r6.Ad]
 obtain⟨N,hN,eN⟩:∃N:Nat,k+1+N<b.AY.length/\D0 fe.c.node b.AY=((k+1+N:Nat):Int):=by
  have tW:=hfa;rw[IB,Ac hk,R,AV] at tW⊢;unfold EY at tW⊢;split at tW;.rename_i j hj;have:=(ED.1 hj).1;rw[Bb] at this;exact⟨j,Ab,Ab⟩
  .omega
 have e2:=AU.BJ (k:= .i64) w.o hN;have e3:=AU.BJ (k:= .i64) w.o (Ab:k-1<b.AY.length);obtain⟨d,gd⟩:∃d,d=b.AY[k+1+N]:=⟨_,rfl⟩;obtain⟨an,Ĉ⟩:∃an,an=b.AY[k-1]'(by omega):=⟨_,rfl⟩;rw[<-gd,Item.row] at e2;rw[<-Ĉ,Item.row] at e3;have og:b.AY.getD (k+1+N) Item.zero=d:=by rw[AJ,Ai hN,gd];rfl
 have hga:b.AY.getD (k-1) Item.zero=an:=by rw[AJ,Ai Ab,Ĉ];rfl
 have e:b.round nm=(true,BS.GD fe.c d.node an.node (BS.Ky d.node an.node (k+1+N) k N (b,d.node,f))):=by
  unfold BS.round;simp only
  rw[Ac hf,T,AV,Wg,Ac hk,Ac hor,Ac hfa,R,eN,AV,AV,og,hga,(Ab:k+1+N-1 -k=N)]
 have gw:=ok.op d (by rw[gd];exact AL _);have aCF:b.AY[k].node=fe.c.node:=by simpa[Bw] using hkq
 have Ė:b.a.has fe.c.node:=by rw[<-aCF];exact(ok.op _ (AL _)).1
 have U8:=Ie (n:=k) Ab Ab;have le0:=(VJ (blk:=d.node) (anc:=an.node) (far:=k+1+N) (k:=k) (c:=N) (s:=(b,d.node,f)) ok gw.1).2.2;obtain⟨h5,o5,c5,G5,s',r7,es,i⟩:=aHm (m:=m+10) (anc:=an.node) (fe:=fe.c.node) (f:=f) w hc ok (rm.le Ab) hnm hN Ab gd.symm R (by rw[Yq];omega) Ė;rw[<-es] at le0 e;obtain⟨q,hq,gi,hq0,hq2,hq3⟩:=HA i.VC;have ŗ:=i.ų;have r8:=aj i.w i.ok.ba i.rm i.nm an.node;obtain⟨h7,G7,r9,w7,x7⟩:=ah i.w i.ok.ba i.rm (s'.1.place an.node).1 s'.2.1 (s'.1.place an.node).2;have le7:Le s'.1.a (s'.1.a.Et s'.2.1 (s'.1.place an.node).1 (s'.1.place an.node).2):=I3;have O:=i.ok.I4 (Oq (n:=s'.2.1) (p:=(s'.1.place an.node).1) (b:=(s'.1.place an.node).2) i.ok.ok) le7;have K:=i.rm.I4 (J3 (x:=s'.2.1) (p:=(s'.1.place an.node).1) (bf:=(s'.1.place an.node).2));have nm7:Nm (s'.1.a.Et s'.2.1 (s'.1.place an.node).1 (s'.1.place an.node).2):=i.nm.Et;obtain⟨b2,NZ⟩:∃b2,b2={s'.1 with a:=s'.1.a.Et s'.2.1 (s'.1.place an.node).1 (s'.1.place an.node).2}:=⟨_,rfl⟩;have YM:b2.AY=s'.1.AY:=by rw[NZ]
 have IV:b2.A8=s'.1.A8:=by rw[NZ]
 have le2:Le s'.1.a b2.a:=by rw[NZ];exact le7
 have nm2:Nm b2.a:=by rw[NZ];exact nm7
 rw[<-NZ] at w7 O K;have hr:NO fe.c.name fe.v [I 2,.str fe.c.name,ff,S [],ff,S [],ff,ff,fe.v,ff,S [],.int .i32 0]:=⟨I 2,ff,S [],ff,S [],ff,ff,ff,S [],.int .i32 0,rfl⟩;obtain⟨h8,G8,r11,w8,x8⟩:=ģ (m:=m+7) w7 O.ba (K.le Ab) nm2 hr fe.ok Kz.2 Kz.1 d.node 1;obtain⟨xj,fr,le8⟩:=PM (nm:=fe.c.name) (at_:=fe.c.Az) (p:=d.node) O JW;have Ę:=I6 (m:=m+7) (nm:=fe.c.name) (l:=fe.c.Az) (sp:=1) (p:=d.node) (K.le Ab) Kz.2;obtain⟨g,hnw⟩:∃g,g=b2.Gv fe.c.name fe.c.Az 1:=⟨_,rfl⟩;obtain⟨b3,jl⟩:∃b3,b3=b2.Em fe.c.name fe.c.Az 1 d.node:=⟨_,rfl⟩;have ho3:b3.AY=s'.1.AY:=by rw[jl,<-YM];unfold BS.Em;rw[Ae JW]
 have Nk:b3.A8=s'.1.A8:=by rw[jl,<-IV];unfold BS.Em;rw[Ae JW]
 rw[<-hnw] at r11 fr;rw[<-jl] at w8 xj fr le8 Ę;have aGK:(b3.a.nd d.node).A6.length<=1000000000:=Ę.Vd.A6 xj.ok d.node;obtain⟨kv,r12,zP⟩:∃v,BH cx 212 [Pt a 0,I d.node] h8 v h8/\D1 (b3.a.nd d.node).A6 v:=by obtain⟨n,i,ps,wa,_⟩:=w8.w;exact vh wa aGK
 have aY:=λ(y:Item)=>@Item.CK y;have Ji:Ev cx 224 [Pt bi 0,.str nm] h λr h'=>r= .bool true/\∃o' c' G',RX h' bi a o' c' t G' (BS.GD fe.c d.node an.node s')/\B4 (BS.GD fe.c d.node an.node s').A8 c'/\DA h (Bt bi G) h' (Bt bi G'):=by
  unfold Ev;rw[Qt];simp only[abS,Nat.reduceLeDiff,↓reduceIte,Fa,l3,M.Ad,o8,V,ld,r2.Ad,nJ,AZ,D.Ad,oD,r4.Ad,eN,(Ab:¬((k+1+N:Nat):Int)<0),e2,U8,e3];simp only[abS,Nat.reduceLeDiff,↓reduceIte,AP,r7.Ad,r8.Ad,r9.Ad,gu];simp only[abS,↓reduceIte,Fa,r11.Ad,aY,w8.l0,r12.Ad];have Ŷ:DA h (Bt bi G) h8 (Bt bi G8):=(i.x.trans x7).trans x8;have hvl:=AU.CL zP;refine DP (i:=0) (λj:Nat=>[I (j:Int)]) (λj Q=>j<=(b3.a.nd d.node).A6.length/\∃H,RX Q bi a o5 c5 t H {b3 with a:=BS.CB b3.a g.node ((b3.a.nd d.node).A6.take j)}/\Eu {b3 with a:=BS.CB b3.a g.node ((b3.a.nd d.node).A6.take j)}/\B6 {b3 with a:=BS.CB b3.a g.node ((b3.a.nd d.node).A6.take j)} (m+7)/\DA h8 (Bt bi G8) Q (Bt bi H)) (λj=>(b3.a.nd d.node).A6.length-j)
   (λj Q=>j=(b3.a.nd d.node).A6.length/\∃H,RX Q bi a o5 c5 t H {b3 with a:=BS.CB b3.a g.node ((b3.a.nd d.node).A6.take j)}/\Eu {b3 with a:=BS.CB b3.a g.node ((b3.a.nd d.node).A6.take j)}/\B6 {b3 with a:=BS.CB b3.a g.node ((b3.a.nd d.node).A6.take j)} (m+7)/\DA h8 (Bt bi G8) Q (Bt bi H)) 0 rfl ⟨AQ _,G8,w8,xj,Ę,.refl⟩ ?_ ?_
  .rintro j Q ⟨hj,H,C,tX,zZ,W⟩;rcases AN j (b3.a.nd d.node).A6.length with hlt|D6
   .have e9:=AU.BJ (k:= .i64) zP hlt;obtain⟨er,Vl,z,ŷ,TT,tY⟩:=C.YB tX.ba zZ g.node (b3.a.nd d.node).A6[j] 0;have hs:BS.CB b3.a g.node ((b3.a.nd d.node).A6.take (j+1))=(BS.CB b3.a g.node ((b3.a.nd d.node).A6.take j)).Fq g.node (b3.a.nd d.node).A6[j] 0:=by rw[AB hlt,Q0]
    rw[Cn] at e9;simp only[abS,hvl,(Ab:(j:Int)<((b3.a.nd d.node).A6.length:Int)),C.l0,e9,ŷ.Ad,BI (Ab:j<9223372036854775807)];refine .next (j+1) rfl ⟨hlt,z,by rw[hs];exact TT,?_,?_,W.trans tY⟩ Ab
    .have:=tX.I4 (Oo (p:=g.node) (n:=(b3.a.nd d.node).A6[j]) (b:=0) tX.ok) MW;rw[hs];exact this
    .have:=zZ.I4 (I5 (p:=g.node) (x:=(b3.a.nd d.node).A6[j]) (bf:=0));rw[hs];exact this
   .simp only[abS,hvl,(Ab:¬(j:Int)<((b3.a.nd d.node).A6.length:Int))];exact .HC j rfl ⟨Ab,H,C,tX,zZ,W⟩
  .rintro j Q ⟨rfl,H,C,tX,zZ,W⟩;rw[Bv] at C tX zZ;obtain⟨er,Vl,z,ŷ,TT,tY⟩:=C.YB tX.ba zZ d.node g.node 0;have ę:B4 ({b3 with a:=(BS.CB b3.a g.node (b3.a.nd d.node).A6).Fq d.node g.node 0}:BS).A8 c5:=by simp only;rw[Nk];exact i.hc
   have hqa:=i.rm.A8;have ot:Ff fe.c.node b3.A8=(q:Int):=by rw[Nk];exact gi
   have A:=ę.ix (n:=0) (by simp only;rw[Nk];omega) fe.c.node Vl;simp only at A;rw[ot] at A;obtain⟨Z4,Xk,r15,Ě,gx,x11⟩:=vr TT ę (by simp only;rw[Nk];omega) fe.c.node;simp only at Ě gx;rw[YE ot] at Ě gx;obtain⟨TS,Vo⟩:∃TS:Nat,TS=if q<s'.2.2 then s'.2.2 -1 else s'.2.2:=⟨_,rfl⟩
   have o9:(Be b3.A8 q).length=b3.A8.length-1:=Hh (by rw[Nk];exact hq);have Vx:b3.A8.length=s'.1.A8.length:=by rw[Nk]
   obtain⟨u1,L,Ĝ,P⟩:=gx.wi Ab (e:={fe.c with node:=g.node}) fe.ok (by have:=Kz.2.1;simp only;omega) (TS:Int) Z4;have l11:=Ě.l3;have s12:=Ě.st (k:=3) (v0:=Xk) rfl P;have xk:=Ě.Lr (u:=u1) (l:=(Be b3.A8 q).take (CH TS (Be b3.A8 q).length)++{fe.c with node:=g.node}::(Be b3.A8 q).drop (CH TS (Be b3.A8 q).length));have x12:=x11.trans (Bp (bi:=bi) (G:=z) (h:=Z4) (k:=3) (v:=u1));generalize put Z4 bi 3 u1=Ÿ at*;have hob:=i.rm.AY;have ji:b3.AY.length=s'.1.AY.length:=by rw[ho3]
   have aHr:Bd Ÿ none (Pt bi 2)=some o5:=xk.ld 2;obtain⟨u2,t2,r17,Jr⟩:=aKz (h:=Ÿ) xk.o Dq fe.c.node;simp only at Jr;have Z:=xk.IA (u:=t2);have s13:=Z.st (k:=2) (v0:=o5) rfl (AU.cells Jr);have J:=Z.I8 Jr;have x14:=(x12.trans xk.C7).trans (Bp (bi:=bi) (G:=z) (h:=Ÿ++t2) (k:=2) (v:=u2));generalize put (Ÿ++t2) bi 2 u2=B at*;have oY:(CY fe.c.node b3.AY).length<=s'.1.AY.length:=by rw[<-ho3];exact Ln.length_le
   have aHs:Bd B none (Pt bi 2)=some u2:=J.ld 2;have r18:=Zo (h:=B) Jr Ab d.node;have hli: -1<=AR (Bw d.node) (CY fe.c.node b3.AY)/\AR (Bw d.node) (CY fe.c.node b3.AY)<=(CY fe.c.node b3.AY).length:=by rcases Dc (q:=Bw d.node) (l:=CY fe.c.node b3.AY) with⟨h,_⟩|⟨n,h1,h2,_⟩<;>omega
   have add:=Oj (a:=AR (Bw d.node) (CY fe.c.node b3.AY)) (b:=1) Ab Ab;obtain⟨u3,r19,Ē⟩:=aKA (h:=B) Jr Ab g (AR (Bw d.node) (CY fe.c.node b3.AY)+1);have s15:=J.st (k:=2) (v0:=u2) rfl (AU.cells Ē);have Y:=J.I8 Ē;have X:=x14.trans (Bp (bi:=bi) (G:=z) (h:=B) (k:=2) (v:=u3));have hE:BS.GD fe.c d.node an.node s'={b3 with a:=(BS.CB b3.a g.node (b3.a.nd d.node).A6).Fq d.node g.node 0,A8:=(Be b3.A8 q).take (CH TS (Be b3.A8 q).length)++{fe.c with node:=g.node}::(Be b3.A8 q).drop (CH TS (Be b3.A8 q).length),AY:=(CY fe.c.node b3.AY).take (EZ (AR (Bw d.node) (CY fe.c.node b3.AY)+1) (CY fe.c.node b3.AY).length)++g::(CY fe.c.node b3.AY).drop (EZ (AR (Bw d.node) (CY fe.c.node b3.AY)+1) (CY fe.c.node b3.AY).length)}:=by
    unfold BS.GD;simp only
    rw[<-NZ,<-jl,<-hnw,ot,AV,<-Vo]
   have E:=TT.l3;by_cases hqm:(q:Int)<(s'.2.2:Int);.have dm:=Ie (n:=s'.2.2) Ab Ab;rw[Ae (Ab:q<s'.2.2)] at Vo;rw[<-Vo] at dm;simp only[abS,Nat.reduceLeDiff,↓reduceIte,AP,Fa,C.l0,ŷ.Ad,E,A.Ad,hqm,AZ,dm,r15.Ad,l11,gu];simp only[BC,L.Ad,s12,aHr,r17.Ad,s13,aHs,r18.Ad,BK,add,r19.Ad,s15];rw[hE];exact⟨_,rfl,rfl,u3,u1,z,Y,Ĝ,(Ŷ.trans (W.trans tY)).trans X⟩
   .rw[Ac (Ab:¬q<s'.2.2)] at Vo;rw[Vo] at L;simp only[abS,Nat.reduceLeDiff,↓reduceIte,AP,Fa,C.l0,ŷ.Ad,E,A.Ad,hqm,AZ,r15.Ad,l11,gu];simp only[BC,L.Ad,s12,aHr,r17.Ad,s13,aHs,r18.Ad,BK,add,r19.Ad,s15];rw[hE];exact⟨_,rfl,rfl,u3,u1,z,Y,Ĝ,(Ŷ.trans (W.trans tY)).trans X⟩
 obtain⟨r,h',hr,rfl,o',c',G',w',KI,x'⟩:=Ji.ret;rw[e];exact⟨h',o',c',G',hr,w',KI,x'⟩
end
namespace BS
def FD(b:BS)(nm:Ao)(k:Nat):Option Int:=
 if nm=K6 then some (JE (b.AY.take k))
 else if nm=ql then(if k=0 then some 7 else some 15)
 else if nm=qm then(if k=0 then some 7 else some 15)
 else if nm=wTr then some 14
 else if nm=TD then some 13
 else if nm=TF then some 13
 else if nm=TE then some 13
 else if nm=SE then some 11
 else if nm=Qn then some 12
 else if nm=E8 then some 9
 else if nm=Bc then some (b.tm.getLast?.getD 7)
 else if nm=QV then(if k=0 then some 7 else some 4)
 else if nm=wR then some 7
 else if nm=Qo then some 20
 else if nm=Dz then some (if b.head=0 then 3 else 6)
 else if k=0 then some 7 else none
end BS
section
variable{h h':Ah}{bi a:Nat}{o c t:Aa}{G G' F:Nat->Prop}{b:BS}{x:Int}{m:Nat}
def vt{nd:Int}{nm:Ao}{u:Bool}{k:Nat}:b.Hg ⟨nd,1,nm,u⟩ k=b.FD nm k:=by
 unfold BS.Hg BS.FD;simp only[BL];by_cases s:nm=K6;.subst s;cases k<;>rfl
 by_cases q:nm=ql;.subst q;cases k<;>rfl
 by_cases p:nm=qm;.subst p;cases k<;>rfl
 by_cases n:nm=wTr;.subst n;cases k<;>rfl
 by_cases l:nm=TD;.subst l;cases k<;>rfl
 by_cases j:nm=TF;.subst j;cases k<;>rfl
 by_cases i:nm=TE;.subst i;cases k<;>rfl
 by_cases g:nm=SE;.subst g;cases k<;>rfl
 by_cases f:nm=Qn;.subst f;cases k<;>rfl
 by_cases d:nm=E8;.subst d;cases k<;>rfl
 by_cases jV:nm=Bc;.subst jV;cases k<;>rfl
 by_cases pB:nm=QV;.subst pB;cases k<;>rfl
 by_cases pC:nm=wR;.subst pC;cases k<;>rfl
 by_cases ju:nm=Qo;.subst ju;cases k<;>rfl
 by_cases ħ:nm=Dz;.subst ħ;cases k<;>rfl
 have hf:(Jy.find? λr=>decide (r.1=nm))=none:=by
  rw[Jp];intro r hr;simp only[Jy,AT,S8,aH1] at hr;rcases hr with rfl|rfl|rfl|rfl|rfl|rfl|rfl|rfl|rfl<;>simp only[Cz]<;>intro e
  .exact n e.symm
  .exact l e.symm
  .exact j e.symm
  .exact i e.symm
  .exact g e.symm
  .exact f e.symm
  .exact d e.symm
  .exact pC e.symm
  .exact ju e.symm
 rw[hf];simp only[s,q,p,n,l,j,i,g,f,d,jV,pB,pC,ju,ħ,Ea,or_self,YU]
def vu{i:Item}{k:Nat}(h:¬i.A7=1):b.Hg i k=if k=0 then some 7 else none:=by unfold BS.Hg;rw[Ac h]
def aHt(w:RX h bi a o c t G b)(rm:B6 b m){k:Nat}(hk:k<=b.AY.length):BH cx 358 [Pt bi 0,I (k:Int)] h (I (BS.JE (b.AY.take k))) h:=by
 have ho:=rm.AY;have ld:Bd h none (Pt bi 2)=some o:=w.ld 2;rw[Af,ó];simp only[BC,C3 (Ab: -9223372036854775808<=(k:Int)-1) (Ab:(k:Int)-1<9223372036854775808)];refine Bf (λn:Nat=>[I 0,I ((n:Int)-1)]) (λn h1=>n<=k/\((b.AY.take k).reverse.find? λi=>By [Bc] i||By [E8] i)=((b.AY.take n).reverse.find? λi=>By [Bc] i||By [E8] i)/\h1=h) (λn=>n) k rfl ⟨Ag _,rfl,rfl⟩ ?_;rintro n h1 ⟨hn,ha,rfl⟩;cases n with
 |zero=>simp only[abS,↓reduceIte,(Ab:¬(0:Int)<=((0:Nat):Int)-1)];unfold BS.JE;rw[ha];rfl
 |succ n=>
  have hlt:n<b.AY.length:=Ab;have i1:((n+1:Nat):Int)-1=(n:Int):=Ab;have g:=AU.BJ (k:= .i64) w.o hlt;have e:AE (.Dh 1) [S Bc]=some (.sl 1 ([Bc].map BZ)):=DF (ws:=[Bc]) rfl AX;have gl:AE (.Dh 1) [S E8]=some (.sl 1 ([E8].map BZ)):=DF (ws:=[E8]) rfl AX;have r2:=f167 (h:=h1) b.AY[n] (C0 (ws:=[Bc])) AX;have f:=f167 (h:=h1) b.AY[n] (C0 (ws:=[E8])) AX;rw[SP hlt,GG] at ha;generalize b.AY[n]=i at*;simp only[abS,Nat.reduceLeDiff,↓reduceIte,Fa,i1,(Ab:(0:Int)<=(n:Int)),ld,g,e,r2.Ad,gl,f.Ad,C3 (Ab: -9223372036854775808<=(n:Int)-1) (Ab:(n:Int)-1<9223372036854775808)];rw[Cu];refine⟨λh2=>?_,λh2=>?_⟩;.simp only[h2,Jn] at ha;unfold BS.JE;rw[ha];simp only[h2,BL]
  .simp only[h2,EV] at ha;rw[Cu];refine⟨λd=>?_,λd=>?_⟩;.rw[d] at ha;unfold BS.JE;rw[ha];simp only[h2,Cy,Ea]
   .rw[d] at ha;exact AK.next n rfl ⟨Ab,ha,rfl⟩ Ab
def aHu(w:RX h bi a o c t G b)(rm:B6 b m)(i:Item){k:Nat}(hk:k<=b.AY.length):BH cx 225 [Pt bi 0,.agg i.row,I (k:Int),.bool (decide (k=0))] h (.tuple [I ((b.Hg i k).getD 7),.bool (b.Hg i k).isSome]) h:=by
 have A:=rm.tm;have l6:=w.l6;have l7:=w.l7;have lt:=AU.CL w.t;obtain⟨nd,sp,nm,C⟩:=i;by_cases hs:sp=1;rotate_left
 .rw[vu (by exact hs),Af,xN];by_cases u:k=0;.simp only[abS,Item.row,hs,u,Dp,Hm,j7]
  .simp only[abS,Item.row,hs,u,Dy,Option.getD_none,aMV]
 subst hs;rw[vt,Af,xN];by_cases d:nm=K6
 .have e:b.FD nm k=some (BS.JE (b.AY.take k)):=by unfold BS.FD;rw[Ae d]
  rw[e];simp only[BC,Jk,Item.row,AW d,(aHt w rm hk).Ad]
 by_cases f:nm=ql
 .have e:b.FD nm k=(if k=0 then some 7 else some 15):=by unfold BS.FD;rw[Ac d,Ae f]
  rw[e];by_cases u:k=0;.simp only[abS,Jk,Item.row,d,AW f,u]
  .simp only[abS,Jk,Item.row,d,AW f,u]
 by_cases g:nm=qm
 .have e:b.FD nm k=(if k=0 then some 7 else some 15):=by unfold BS.FD;rw[Ac d,Ac f,Ae g]
  rw[e];by_cases u:k=0;.simp only[abS,Jk,Item.row,d,f,AW g,u]
  .simp only[abS,Jk,Item.row,d,f,AW g,u]
 by_cases j:nm=wTr
 .have e:b.FD nm k=some 14:=by unfold BS.FD;rw[Ac d,Ac f,Ac g,Ae j]
  rw[e];simp only[BC,Jk,Item.row,d,f,g,AW j]
 by_cases l:nm=TD
 .have e:b.FD nm k=some 13:=by unfold BS.FD;rw[Ac d,Ac f,Ac g,Ac j,Ae l]
  rw[e];simp only[BC,Jk,Item.row,d,f,g,j,AW l]
 by_cases n:nm=TF
 .have e:b.FD nm k=some 13:=by unfold BS.FD;rw[Ac d,Ac f,Ac g,Ac j,Ac l,Ae n]
  rw[e];simp only[BC,Jk,Item.row,d,f,g,j,l,AW n]
 by_cases p:nm=TE
 .have e:b.FD nm k=some 13:=by unfold BS.FD;rw[Ac d,Ac f,Ac g,Ac j,Ac l,Ac n,Ae p]
  rw[e];simp only[BC,Jk,Item.row,d,f,g,j,l,n,AW p]
 by_cases q:nm=SE
 .have e:b.FD nm k=some 11:=by unfold BS.FD;rw[Ac d,Ac f,Ac g,Ac j,Ac l,Ac n,Ac p,Ae q]
  rw[e];simp only[BC,Jk,Item.row,d,f,g,j,l,n,p,AW q]
 by_cases r:nm=Qn
 .have e:b.FD nm k=some 12:=by unfold BS.FD;rw[Ac d,Ac f,Ac g,Ac j,Ac l,Ac n,Ac p,Ac q,Ae r]
  rw[e];simp only[BC,Jk,Item.row,d,f,g,j,l,n,p,q,AW r]
 by_cases s:nm=E8
 .have e:b.FD nm k=some 9:=by unfold BS.FD;rw[Ac d,Ac f,Ac g,Ac j,Ac l,Ac n,Ac p,Ac q,Ac r,Ae s]
  rw[e];simp only[BC,Jk,Item.row,d,f,g,j,l,n,p,q,r,AW s]
 by_cases jV:nm=Bc
 .have e:b.FD nm k=some (b.tm.getLast?.getD 7):=by unfold BS.FD;rw[Ac d,Ac f,Ac g,Ac j,Ac l,Ac n,Ac p,Ac q,Ac r,Ac s,Ae jV]
  rw[e];by_cases ht:b.tm=[]
  .have v:AE (.len false) [t]=some (I 0):=by rw[lt,ht];rfl
   simp only[BC,Jk,Item.row,d,f,g,j,l,n,p,q,r,s,AW jV,l6,v,ht,oW]
  .have hpos:=EC.2 ht;have z:=AU.BJ (k:= .i64) w.t (Ab:b.tm.length-1<b.tm.length);have B:b.tm.getLast?.getD 7=b.tm[b.tm.length-1]:=by rw[KE,Ai Ab];rfl
   rw[Cn] at z;simp only[BC,Jk,Item.row,d,f,g,j,l,n,p,q,r,s,AW jV,l6,lt,(Ab:(0:Int)<(b.tm.length:Int)),Ie hpos (Ab:b.tm.length<9223372036854775807),z,B]
 by_cases pB:nm=QV
 .have e:b.FD nm k=(if k=0 then some 7 else some 4):=by unfold BS.FD;rw[Ac d,Ac f,Ac g,Ac j,Ac l,Ac n,Ac p,Ac q,Ac r,Ac s,Ac jV,Ae pB]
  rw[e];by_cases u:k=0;.simp only[abS,Jk,Item.row,d,f,g,j,l,n,p,q,r,s,jV,AW pB,u]
  .simp only[abS,Jk,Item.row,d,f,g,j,l,n,p,q,r,s,jV,AW pB,u]
 by_cases pC:nm=wR
 .have e:b.FD nm k=some 7:=by unfold BS.FD;rw[Ac d,Ac f,Ac g,Ac j,Ac l,Ac n,Ac p,Ac q,Ac r,Ac s,Ac jV,Ac pB,Ae pC]
  rw[e];simp only[BC,Jk,Item.row,d,f,g,j,l,n,p,q,r,s,jV,pB,AW pC]
 by_cases ju:nm=Qo
 .have e:b.FD nm k=some 20:=by unfold BS.FD;rw[Ac d,Ac f,Ac g,Ac j,Ac l,Ac n,Ac p,Ac q,Ac r,Ac s,Ac jV,Ac pB,Ac pC,Ae ju]
  rw[e];simp only[BC,Jk,Item.row,d,f,g,j,l,n,p,q,r,s,jV,pB,pC,AW ju]
 by_cases ħ:nm=Dz
 .have e:b.FD nm k=some (if b.head=0 then 3 else 6):=by unfold BS.FD;rw[Ac d,Ac f,Ac g,Ac j,Ac l,Ac n,Ac p,Ac q,Ac r,Ac s,Ac jV,Ac pB,Ac pC,Ac ju,Ae ħ]
  rw[e];by_cases y:b.head=0;.simp only[BC,Jk,Item.row,d,f,g,j,l,n,p,q,r,s,jV,pB,pC,ju,AW ħ,l7,y]
  .simp only[BC,Jk,Item.row,d,f,g,j,l,n,p,q,r,s,jV,pB,pC,ju,AW ħ,l7,y]
 have e:b.FD nm k=if k=0 then some 7 else none:=by unfold BS.FD;rw[Ac d,Ac f,Ac g,Ac j,Ac l,Ac n,Ac p,Ac q,Ac r,Ac s,Ac jV,Ac pB,Ac pC,Ac ju,Ac ħ]
 rw[e];by_cases u:k=0;.simp only[abS,Jk,Item.row,d,f,g,j,l,n,p,q,r,s,jV,pB,pC,ju,ħ,u]
 .simp only[abS,Jk,Item.row,d,f,g,j,l,n,p,q,r,s,jV,pB,pC,ju,ħ,u]
def Ĩ(w:RX h bi a o c t G b)(rm:B6 b m):
  ∃h',BH cx 96 [Pt bi 0] h (.tuple []) h'/\RX h' bi a o c t G b.IF/\DA h (Bt bi G) h' (Bt bi G):=by
 have ho:=rm.AY;have ld:Bd h none (Pt bi 2)=some o:=w.ld 2;have lo:=AU.CL w.o;have RJ:=w.l9;have hlc:=w.Đ;have Ji:Ev cx 96 [Pt bi 0] h λr h'=>r= .tuple []/\RX h' bi a o c t G b.IF/\DA h (Bt bi G) h' (Bt bi G):=by
  unfold Ev;rw[aB5];simp only[BC,ld,lo,C3 (Ab: -9223372036854775808<=(b.AY.length:Int)-1) (Ab:(b.AY.length:Int)-1<9223372036854775808)];have HR:∀v,Cx h 1 (Pt bi 4) (I v)=some (Am.put h bi 4 (I v)):=λv=>w.st (k:=4) rfl rfl;refine Bf (λn:Nat=>[I ((n:Int)-1)]) (λn h1=>n<=b.AY.length/\b.LH b.AY.length=b.LH n/\h1=h) (λn=>n) b.AY.length rfl ⟨Ag _,rfl,rfl⟩ ?_;rintro n h1 ⟨hn,ha,rfl⟩;cases n with
  |zero=>
   have e:b.IF={b with mode:=7}:=by unfold BS.IF;rw[ha];rfl
   simp only[abS,↓reduceIte,(Ab:¬(0:Int)<=((0:Nat):Int)-1),HR];exact⟨_,rfl,rfl,by rw[e];exact w.nW 7,Bp⟩
  |succ n=>
   have hlt:n<b.AY.length:=Ab;have i1:((n+1:Nat):Int)-1=(n:Int):=Ab;have g:=AU.BJ (k:= .i64) w.o hlt;have d:=aHu w rm (b.Ex n) (k:=n) Ab;have e:b.LH (n+1)=match b.Hg (b.Ex n) n with|some m=>m|none=>b.LH n:=rfl
   rw[e] at ha;have OW:=C3 (Ab: -9223372036854775808<=(n:Int)-1) (Ab:(n:Int)-1<9223372036854775808);have i:∀(h0:n≠0\/b.LX=false),b.Ex n=b.AY[n]:=λh0=>by unfold BS.Ex;rw[Ac (by rintro⟨h1,h2⟩;rcases h0 with h0|h0;exact h0 h1;rw[h0] at h2;exact absurd h2 AX),AJ,Ai hlt];rfl
   have j:n=0->b.LX=true->b.Ex n=b.ctx:=λh0 hf=>by unfold BS.Ex;rw[Ae ⟨h0,hf⟩]
   have HC:∀v,b.Hg (b.Ex n) n=some v->RX (Am.put h1 bi 4 (I v)) bi a o c t G b.IF:=λv hm=>by
    rw[hm] at ha;have e:b.IF={b with mode:=v}:=by unfold BS.IF;rw[ha]
    rw[e];exact w.nW v
   have f:b.Hg (b.Ex n) n=none->b.LH b.AY.length=b.LH n:=λhm=>by rw[hm] at ha;exact ha
   generalize hx:b.AY[n]=x at*;by_cases h0:n=0
   .have Y6:((n:Int)=0)=True:=AW Ab;rw[AA h0] at d;cases hf:b.LX with
    |true=>
     rw[j h0 hf] at d HC f;rw[hf] at RJ;cases hm:b.Hg b.ctx n with
     |none=>rw[hm] at d;simp only[BC,Nat.reduceLeDiff,↓reduceIte,Fa,i1,(Ab:(0:Int)<=(n:Int)),ld,g,Y6,RJ,hlc,d.Ad,OW,Jk];exact AK.next n rfl ⟨Ab,f hm,rfl⟩ Ab
     |some v=>rw[hm] at d;simp only[BC,Nat.reduceLeDiff,↓reduceIte,Fa,i1,(Ab:(0:Int)<=(n:Int)),ld,g,Y6,RJ,hlc,d.Ad,HR,Jk];exact⟨_,rfl,rfl,HC v hm,Bp⟩
    |false=>
     rw[i (.inr hf)] at d HC f;rw[hf] at RJ;cases hm:b.Hg x n with
     |none=>rw[hm] at d;simp only[BC,Nat.reduceLeDiff,↓reduceIte,Fa,i1,(Ab:(0:Int)<=(n:Int)),ld,g,Y6,RJ,d.Ad,OW,Jk];exact AK.next n rfl ⟨Ab,f hm,rfl⟩ Ab
     |some v=>rw[hm] at d;simp only[BC,Nat.reduceLeDiff,↓reduceIte,Fa,i1,(Ab:(0:Int)<=(n:Int)),ld,g,Y6,RJ,d.Ad,HR,Jk];exact⟨_,rfl,rfl,HC v hm,Bp⟩
   .have Y6:¬(n:Int)=0:=by omega
    rw[Ay h0] at d;rw[i (.inl h0)] at d HC f;cases hm:b.Hg x n with
    |none=>rw[hm] at d;simp only[BC,Nat.reduceLeDiff,↓reduceIte,Fa,i1,(Ab:(0:Int)<=(n:Int)),ld,g,Y6,d.Ad,OW,Jk];exact AK.next n rfl ⟨Ab,f hm,rfl⟩ Ab
    |some v=>rw[hm] at d;simp only[BC,Nat.reduceLeDiff,↓reduceIte,Fa,i1,(Ab:(0:Int)<=(n:Int)),ld,g,Y6,d.Ad,HR,Jk];exact⟨_,rfl,rfl,HC v hm,Bp⟩
 obtain⟨r,h',hr,rfl,w',x'⟩:=Ji.ret;exact⟨h',hr,w',x'⟩
def aMc(w:RX h bi a o c t G b)(hc:B4 b.A8 c)(rm:B6 b m):
  ∃h' o' c' t',BH cx 98 [Pt bi 0] h (.tuple []) h'/\RX h' bi a o' c' t' G b.Du/\B4 b.Du.A8 c'/\DA h (Bt bi G) h' (Bt bi G):=by
 have kD:AM=140737488355328:=rfl;have ho:=rm.AY;have Td:=rm.A8;have Y:=rm.tm;have UZ:∀i∈b.AY,i.name.length<9223372036854775807:=λi hi=>by have:=rm.YS i hi;omega
 have ld:Bd h none (Pt bi 2)=some o:=w.ld 2;have E:=aCj (h:=h) w.o Ab Bc;by_cases FQ:AR (By [Bc]) b.AY<0;.refine⟨h,o,c,t,?_,by unfold BS.Du;rw[Ae FQ];exact w,by unfold BS.Du;rw[Ae FQ];exact hc,.refl⟩;rw[Af,tF];simp only[abS,ld,E.Ad,FQ]
 obtain⟨z,D,r2,OU⟩:=f165 (h:=h) w.o Ab UZ [] true;have HR:EN [] true=CM:=by funext a;rfl
 rw[HR] at OU;have w0:=w.IA (u:=D);have M:=w0.st (k:=2) (v0:=o) rfl (AU.cells OU);have w1:=w0.I8 OU;have S:=w.C7.trans (Bp (bi:=bi) (G:=G) (h:=h++D) (k:=2) (v:=z));have l1:(DO CM CX b.AY).length<=b.AY.length:=Qk;generalize put (h++D) bi 2 z=h1 at*;have jt:Bd h1 none (Pt bi 2)=some z:=w1.ld 2;obtain⟨g,t2,O,Jr⟩:=f85 (h:=h1) OU Ab (C0 (ws:=[Bc])) AX;rw[<-Ol] at Jr;have f:=w1.IA (u:=t2);have L:=f.st (k:=2) (v0:=z) rfl (AU.cells Jr);have C:=f.I8 Jr;have R:=(S.trans w1.C7).trans (Bp (bi:=bi) (G:=G) (h:=h1++t2) (k:=2) (v:=g));generalize put (h1++t2) bi 2 g=h2 at*;have j:=C.l3;obtain⟨fs,Hj,hcs⟩:=hc;have Ho:fs.length=b.A8.length:=by rw[<-Hj,Ak]
 obtain⟨d,N,Ē⟩:=f84 (h:=h2) hcs Ab;have K:=C.st (k:=3) (v0:=c) rfl (AU.cells Ē);have y:=C.Lr (u:=d) (l:=Gu b.A8);have J:=R.trans (Bp (bi:=bi) (G:=G) (h:=h2) (k:=3) (v:=d));have Nk:B4 (Gu b.A8) d:=⟨_,by rw[We,Hj],Ē⟩;generalize put h2 bi 3 d=h3 at*;have lt:=AU.CL w.t;have l6:=y.l6;have e:b.Du=BS.IF {b with AY:=DO CX (By [Bc]) (DO CM CX b.AY),A8:=Gu b.A8,tm:=b.tm.dropLast}:=by unfold BS.Du;rw[Ac FQ]
 have sO:(DO CX (By [Bc]) (DO CM CX b.AY)).Sublist b.AY:=(Fg (p:=CX) (q:=By [Bc]) (l:=DO CM CX b.AY)).trans Fg;by_cases h0:b.tm=[]
 .have B:RX h3 bi a g d t G {b with AY:=DO CX (By [Bc]) (DO CM CX b.AY),A8:=Gu b.A8,tm:=b.tm.dropLast}:=by
   have:b.tm.dropLast=b.tm:=by rw[h0];rfl
   rw[this];exact y
  obtain⟨h4,X,A,Q⟩:=Ĩ B (rm.sub (b':={b with AY:=DO CX (By [Bc]) (DO CM CX b.AY),A8:=Gu b.A8,tm:=b.tm.dropLast}) rfl sO (Eb _ _) AH);refine⟨h4,g,d,t,?_,by rw[e];exact A,by rw[e];exact Nk,J.trans Q⟩;have H:AE (.len false) [t]=some (I 0):=by rw[lt,h0];rfl
  rw[Af,tF];simp only[BC,ld,E.Ad,FQ,r2.Ad,M,jt,nX,O.Ad,L,j,N.Ad,K,l6,H,X.Ad,Jk]
 .have hpos:=EC.2 h0;obtain⟨u4,e4,s⟩:=AU.Mn w.t (k:= .i64) (n:=b.tm.length-1) Ab;rw[<-aDR] at s;obtain⟨U,e5,r⟩:=AU.Gt (b:=8) s Ee;have V:=y.st (k:=6) (v0:=t) rfl (AU.cells r);have A:=y.tT r;obtain⟨Z,W,T,P⟩:=Ĩ A (rm.sub (b':={b with AY:=DO CX (By [Bc]) (DO CM CX b.AY),A8:=Gu b.A8,tm:=b.tm.dropLast}) rfl sO (Eb _ _) AH);refine⟨Z,g,d,U,?_,by rw[e];exact T,by rw[e];exact Nk,(J.trans Bp).trans P⟩;rw[Af,tF];simp only[BC,ld,E.Ad,FQ,r2.Ad,M,jt,nX,O.Ad,L,j,N.Ad,K,l6,lt,(Ab:(0:Int)<(b.tm.length:Int)),Ie hpos (Ab:b.tm.length<9223372036854775807),e4,e5,V,W.Ad,Jk]
def aMd(w:RX h bi a o c t G b)(hc:B4 b.A8 c)(ok:Eu b)(rm:B6 b (m+8*(4*(b.AY.length+8)+10)))(hnm:Nm b.a)(nm:Ao):
  ∃h' o' c' G',BH cx 95 [Pt bi 0,.str nm] h (.tuple []) h'/\RX h' bi a o' c' t G' (b.Ig nm)/\B4 (b.Ig nm).A8 c'/\DA h (Bt bi G) h' (Bt bi G'):=by
 have ho:=rm.AY;have Td:=rm.A8;have ld:Bd h none (Pt bi 2)=some o:=w.ld 2;have A:=vj w rm;have em:AE (.Dh 1) [.str nm]=some (.sl 1 ([nm].map BZ)):=DF (ws:=[nm]) rfl AH;have r2:BH cx 218 [.agg (Fx b.AY).row,.sl 1 ([nm].map BZ)] h (.bool (By [nm] (Fx b.AY))) h:=f167 (Fx b.AY) (C0 (ws:=[nm])) AH;have J:=hc.ix (n:=0) Ab (Fx b.AY).node h;have D:b.Ru.A8=b.A8:=by unfold BS.Ru;split<;>rfl
 have l3:=w.l3;by_cases h1:By [nm] (Fx b.AY)=true/\Ff (Fx b.AY).node b.A8<0
 .obtain⟨u,N,O,hu⟩:=aFy (h:=h) w.o Ab;have E:KM b.AY ((b.AY.length:Int)-1)=b.Ru.AY:=by
   unfold BS.Ru;split;.unfold KM;rw[AG Ab]
   .unfold KM;congr 1;omega
  rw[E] at hu;have w1:=w.IA (u:=N);have f:=w1.I8 hu;have e:b.Ig nm=b.Ru:=by unfold BS.Ig;rw[Ae h1]
  have R:({b with AY:=b.Ru.AY}:BS)=b.Ru:=by unfold BS.Ru;split<;>rfl
  rw[R] at f;rw[e];refine⟨_,u,c,G,?_,f,by rw[D];exact hc,w.C7.trans Bp⟩;rw[h1.1] at r2;rw[Af,sy];simp only[abS,Fa,A.Ad,em,r2.Ad,l3,BK,J.Ad,h1.2,ld,O.Ad,w1.st (k:=2) (v0:=o) rfl (AU.cells hu)]
 have e:b.Ig nm=BS.Ed 8 b nm:=by unfold BS.Ig;rw[Ac h1]
 rw[e];have Ji:Ev cx 95 [Pt bi 0,.str nm] h λr h'=>r= .tuple []/\∃o' c' G',RX h' bi a o' c' t G' (BS.Ed 8 b nm)/\B4 (BS.Ed 8 b nm).A8 c'/\DA h (Bt bi G) h' (Bt bi G'):=by
  unfold Ev;rw[sy];have HC:∀(Q:Hb) (k:DQ->List Aa->IT),(∀x vs h1,(x= .exit 0\/x= .ret)->(∃o' c' G',RX h1 bi a o' c' t G' (BS.Ed 8 b nm)/\B4 (BS.Ed 8 b nm).A8 c'/\DA h (Bt bi G) h1 (Bt bi G'))->W cx (k x vs) Q h1)->
    W cx (.loop 3 [I 1] (λd=> .op (.int .leq) [g d 0,I 8] λz=> .Gc z (.call 224 [Pt bi 0,.str nm] λy=> .op (.un .not) [y] λv20=> .Gc v20 (.ret .ret [g d 0]) (.op (.int .add) [g d 0,I 1] λv=> .ret .normal [v])) (.ret (.exit 0) [g d 0])) k) Q h:=by
   intro Q k hk;refine Bf (λn:Nat=>[I ((9 -n:Nat):Int)]) (λn h1=>n<=8/\∃B p q b1,RX h1 bi a B p t q b1/\B4 b1.A8 p/\Eu b1/\Nm b1.a/\B6 b1 (m+n*(4*(b.AY.length+8)+10))/\b1.AY.length<=b.AY.length+(8 -n)/\BS.Ed 8 b nm=BS.Ed n b1 nm/\DA h (Bt bi G) h1 (Bt bi q)) (λn=>n) 8 rfl ⟨Ag _,o,c,G,b,w,hc,ok,hnm,rm,Ab,rfl,.refl⟩ ?_;rintro n h1 ⟨hn,B,p,q,b1,w1,RG,QZ,nm1,tU,VG,j,s⟩;cases n with
   |zero=>simp only[abS,(AX:¬((9 -0:Nat):Int)<=8)];exact hk _ _ _ (.inl rfl) ⟨B,p,q,by rw[j];exact w1,by rw[j];exact RG,s⟩
   |succ n=>
    have hsp:(n+1)*(4*(b.AY.length+8)+10)=n*(4*(b.AY.length+8)+10)+(4*(b.AY.length+8)+10):=by rw[BG,D4]
    rw[hsp] at tU;have gz:B6 b1 (m+n*(4*(b.AY.length+8)+10)+4*b1.AY.length+10):=tU.le Ab;obtain⟨h2,K,L,M,l,f,IV,H⟩:=aHq w1 RG QZ gz nm1 nm;obtain⟨UD,ZZ⟩:=OA gz nm;have uk:=(XZ (nm:=nm) QZ).1;have C:=Nm.round (nm:=nm) nm1 gz;have hlt:((9 -(n+1):Nat):Int)<=8:=Ab;have inc:AE (.int .add) [I ((9 -(n+1):Nat):Int),I 1]=some (I ((9 -n:Nat):Int)):=by have:=BI (n:=9 -(n+1)) Ab;rwa [(Ab:9 -(n+1)+1=9 -n)] at this
    have i:BS.Ed (n+1) b1 nm=if(b1.round nm).1 then BS.Ed n (b1.round nm).2 nm else(b1.round nm).2:=rfl
    cases hr:(b1.round nm).1 with
    |true=>rw[hr] at l i;simp only[abS,hlt,l.Ad,inc];exact AK.next n rfl ⟨Ab,K,L,M,_,f,IV,uk,C,UD,Ab,j.trans i,s.trans H⟩ Ab
    |false=>rw[hr] at l i;simp only[abS,hlt,l.Ad];exact hk _ _ _ (.inr rfl) ⟨K,L,M,by rw[j,i];exact f,by rw[j,i];exact IV,s.trans H⟩
  by_cases h2:By [nm] (Fx b.AY)=true
  .have P:¬Ff (Fx b.AY).node b.A8<0:=λh=>h1 ⟨h2,h⟩;rw[h2] at r2;simp only[abS,Fa,A.Ad,em,r2.Ad,l3,BK,J.Ad,P];refine HC _ _ ?_;rintro x vs h1 (rfl|rfl) ⟨o',c',G',a1,a2,a3⟩;.simp only[BC];exact⟨_,rfl,rfl,o',c',G',a1,a2,a3⟩
   .simp only[BC];exact⟨_,rfl,rfl,o',c',G',a1,a2,a3⟩
  .have h2:By [nm] (Fx b.AY)=false:=by simpa using h2
   rw[h2] at r2;simp only[BC,A.Ad,em,r2.Ad];refine HC _ _ ?_;rintro x vs h1 (rfl|rfl) ⟨o',c',G',a1,a2,a3⟩;.simp only[BC];exact⟨_,rfl,rfl,o',c',G',a1,a2,a3⟩
   .simp only[BC];exact⟨_,rfl,rfl,o',c',G',a1,a2,a3⟩
 obtain⟨r,h',hr,rfl,o',c',G',w',KI,x'⟩:=Ji.ret;exact⟨h',o',c',G',hr,w',KI,x'⟩
end
def i_{h:Ah}{fs:List Cj}{v:Aa}(hv:Dk fs v)(hne:fs≠[])(hl:fs.length<=1000000000):KF h 3 48 .slnil v=some (h++[.cells (fs.map Cj.row).flatten],.CE h.length 0 fs.length 3):=by have hm:AM=140737488355328:=rfl;have:=Lj (h:=h) (s:= .slnil) (z:=3) (b:=48) (.inl rfl) hv (by simpa using hne) (by rw[Ak];omega);rwa [Ak] at this
def uG{h:Ah}{v:Aa}(hv:Dk [] v):KF h 3 48 .slnil v=some (h,.slnil):=Pz (.inl rfl) hv
section
variable{h h':Ah}{bi a:Nat}{o c t:Aa}{G G' F:Nat->Prop}{b:BS}{x:Int}{m:Nat}
def aHv(w:RX h bi a o c t G b)(rm:B6 b m)(e:Cj):BH cx 217 [Pt bi 0,.agg e.row] h (.bool (b.settled e.c)) h:=by
 have ho:=rm.AY;have ld:Bd h none (Pt bi 2)=some o:=w.ld 2;have d:=Zo (h:=h) w.o Ab e.c.node;unfold BS.settled;rw[Af,Í,Cj.row];by_cases h0:e.c.node=0;.simp only[BC,AW h0,ld,d.Ad,true_or,Dp]
 .simp only[abS,h0,ld,d.Ad,false_or]
structure jW(h:Ah)(bi a:Nat)(t c:Aa)(G0:Nat->Prop)(b:BS)(fs:List Cj)(id m k:Nat)(h1:Ah):Prop where
 le:k<=fs.length
 low:b.Lm<=k
 ex:∃(o:Aa) (G:Nat->Prop) (b1:BS) (HX:List Cj),RX h1 bi a o c t G b1/\Eu b1/\Nm b1.a/\B6 b1 (m+4*(fs.length-k))/\h1[id]?=some (.cells (HX.map Cj.row).flatten)/\HX.length=fs.length/\HX.drop k=fs.drop k/\
  BS.DS b={(BS.Jw (b.A8.drop k) b1).2 with A8:=(HX.take k).map (·.c)++(BS.Jw (b.A8.drop k) b1).1}/\¬Bt bi G id/\DA h (Bt bi G0) h1 (Bt bi G)
def jW.init(w:RX h bi a o c t G b)(ok:Eu b)(hnm:Nm b.a)(rm:B6 b (m+4*b.A8.length)){fs:List Cj}(Hj:fs.map (·.c)=b.A8):
  jW h bi a t c G b fs h.length m b.Lm (h++[.cells (fs.map Cj.row).flatten]):=by
 have Ho:b.A8.length=fs.length:=by rw[<-Hj,Ak]
 have hk:=SR (b:=b);have hne:h.length≠bi:=Nat.ne_of_gt w.lt;refine⟨Ab,Ag _,o,G,b,fs,w.IA (u:=[.cells (fs.map Cj.row).flatten]),ok,hnm,rm.le Ab,?_,rfl,rfl,?_,?_,w.C7⟩;.simp
 .unfold BS.DS;simp only;rw[Fs,Hj]
 .rintro(rfl|hg);.exact hne rfl
  .exact absurd (w.w.lt hg) (Dr _)
def jW.step{fs:List Cj}{id k:Nat}{h1:Ah}(Hj:fs.map (·.c)=b.A8)(Kz:∀e∈b.A8,e.name.length<=1000/\DU e.Az)(hi:h.length<=id)(hlt:k<fs.length)(i:jW h bi a t c G b fs id m k h1):
  ∃(h2:Ah) (n:Int),Bd h1 none (Pt id (k*3+1))=some (.str fs[k].c.name)/\Bd h1 none (Pt id (k*3+2))=some fs[k].v/\BH cx 86 [Pt bi 0,.agg [I 2,.str fs[k].c.name,ff,S [],ff,S [],ff,ff,fs[k].v,ff,S [],.int .i32 0]] h1 (I n) h2/\
   Cx h2 1 (Pt id (k*3)) (I n)=some (Am.put h2 id (k*3) (I n))/\jW h bi a t c G b fs id m (k+1) (Am.put h2 id (k*3) (I n)):=by
 obtain⟨y,z,b1,HX,w1,QZ,nm1,tU,RG,VG,dJ,gq,Na,f⟩:=i.ex;have Ry:k<HX.length:=Ab;have Ho:b.A8.length=fs.length:=by rw[<-Hj,Ak]
 have uy:k<b.A8.length:=Ab;have r:HX[k]=fs[k]:=by have:=Cb (λl=>l[0]?) dJ;simp only[Cr,Bs] at this;rw[Ai Ry,Ai hlt] at this;exact D2 this
 have q:b.A8[k]=fs[k].c:=by simp only[<-Hj,CU]
 have hg:(HX.map Cj.row)[k]?=some fs[k].row:=by rw[Cl,Ai Ry,r];rfl
 have ld:∀j,j<3->Bd h1 none (Pt id (k*3+j))=fs[k].row[j]?:=λj hj=>by simp only[Bd,RG,E7];exact Lq (Om HX) hj hg
 have Kz:=Kz fs[k].c (by rw[<-q];exact AL uy);have hr:NO fs[k].c.name fs[k].v [I 2,.str fs[k].c.name,ff,S [],ff,S [],ff,ff,fs[k].v,ff,S [],.int .i32 0]:=⟨I 2,ff,S [],ff,S [],ff,ff,ff,S [],.int .i32 0,rfl⟩;obtain⟨h2,w,s,r2,u,d⟩:=vp (m:=m+4*(fs.length-(k+1))) w1 QZ.ba (tU.le Ab) nm1 hr fs[k].ok Kz.2 Kz.1;have cm:id<h1.length:=(Al.1 RG).1;have IV:h2[id]?=some (.cells (HX.map Cj.row).flatten):=by rw[d.old id cm Na];exact RG
 have Tb:¬Bt bi s id:=λhg=>by
  rcases d.Bt id hg with hg|hg
  .exact Na hg
  .omega
 have p:At h2 id (k*3) (I fs[k].c.node):=⟨_,IV,by have:=Lq (k:=0) (Om HX) AX hg;rw[Bs] at this;rw[this];rfl⟩
 let g:Cj:=⟨{fs[k].c with node:=b1.a.len+1},fs[k].v,fs[k].ok⟩
 have hrow:(HX.map Cj.row).flatten.set (k*3) (I (b1.a.len+1))=((HX.set k g).map Cj.row).flatten:=by have:=NN (AD:=HX.map Cj.row) (i:=k) (k:=0) (v:= I (b1.a.len+1)) (Om HX) (by simpa using Ry) AX;rw[Bs] at this;rw[Ek,BY,Ae (by rw[FO (Om HX),Ak];omega)];rw[AI] at this;rw[show g.row=((HX.map Cj.row)[k]'(by simpa using Ry)).set 0 (I (b1.a.len+1)) by rw[CU,r];rfl];exact this
 refine⟨h2,b1.a.len+1,ld 1 AX,ld 2 AX,r2,p.store rfl,⟨hlt,by have:=i.low;omega,w,s,_,HX.set k g,u.Df λj hj=>Ck λe=>Tb (e▸hj),PO QZ,nm1.MN Kz.1,Lo (m:=m+4*(fs.length-(k+1))) (tU.le Ab) Kz.2 Kz.1,?_,by rw[Bn];exact VG,?_,?_,Tb,⟨by rw[JD];exact(f.trans d).len,λj hj hn=>(Ck Ab).trans ((f.trans d).old j hj hn),(f.trans d).Bt⟩⟩⟩;.rw[If IV,AS (by have:=d.len;omega),hrow]
 .rw[Zw (Ni k)];have:=Cb (λl=>l.drop 1) dJ;simpa[Eg] using this
 .rw[gq,AF uy,q,BS.Jw];simp only
  congr 1
  rw[AB (by rw[Bn];exact Ry),aDS,BF,OP (Ag k),AI];rfl
def aMe(w:RX h bi a o c t G b)(hc:B4 b.A8 c)(ok:Eu b)(rm:B6 b (m+4*b.A8.length))(hnm:Nm b.a):
  ∃h' o' c' G',BH cx 93 [Pt bi 0] h (.tuple []) h'/\RX h' bi a o' c' t G' b.DS/\B4 b.DS.A8 c'/\DA h (Bt bi G) h' (Bt bi G'):=by
 have ho:=rm.AY;have Td:=rm.A8;obtain⟨fs,Hj,hcs⟩:=hc;have Ho:b.A8.length=fs.length:=by rw[<-Hj,Ak]
 have Ji:Ev cx 93 [Pt bi 0] h λr h'=>r= .tuple []/\∃o' c' G',RX h' bi a o' c' t G' b.DS/\B4 b.DS.A8 c'/\DA h (Bt bi G) h' (Bt bi G'):=by
  unfold Ev;have l3:=w.l3;have lc:=AU.CL hcs;rw[aB3];simp only[BC,l3,lc];refine DP (i:=0) (λn:Nat=>[I (n:Int)]) (λn h1=>n<=fs.length/\AR b.settled b.A8=AR b.settled (b.A8.take n)/\h1=h) (λn=>n) (λn h1=>n=b.Lm/\h1=h) fs.length rfl ⟨Ag _,by rw[<-Ho,Bv],rfl⟩ ?_ ?_
  .rintro n h1 ⟨hn,ha,rfl⟩;cases n with
   |zero=>simp only[abS,(AX:¬(0:Int)<((0:Nat):Int))];refine .HC 0 rfl ⟨?_,rfl⟩;unfold BS.Lm;rw[ha];rfl
   |succ n=>
    have hlt:n<b.A8.length:=Ab;have SN:n<fs.length:=Ab;rw[GR hlt] at ha;have i1:=Ie (n:=n+1) (Ab:0<n+1) (Ab:n+1<9223372036854775807);rw[E9] at i1;have d:=AU.BJ (k:= .i64) hcs SN;have en:fs[n].c=b.A8[n]:=by simp only[<-Hj,CU]
    have z:=aHv w rm fs[n];rw[en] at z;have kC:fs[n].row.length=3:=rfl;have q:fs[n].row.take 3=fs[n].row:=rfl;simp only[abS,↓reduceIte,(Ab:(0:Int)<((n+1:Nat):Int)),l3,i1,d,kC,q,Ag,z.Ad];cases hs:b.settled b.A8[n] with
    |true=>rw[hs,Ae rfl] at ha;simp only[abS];exact .HC (n+1) rfl ⟨by unfold BS.Lm;rw[ha];omega,rfl⟩
    |false=>rw[hs,Ac AX] at ha;simp only[abS];exact .next n rfl ⟨Ab,ha,rfl⟩ Ab
  .rintro n h1 ⟨rfl,M⟩;rw[M];by_cases hne:fs=[]
   .subst hne;have ha:b.A8=[]:=Hj.symm;have L:b.Lm=0:=by have:=SR (b:=b);rw[ha] at this;exact Nat.le_zero.1 this
    have hb:b.DS=b:=by unfold BS.DS;rw[ha];simp only[Ĵ,BS.Jw,ĵ,BQ];rw[<-ha]
    have g0:=uG (h:=h) hcs;have f:=w.st (k:=3) (v:= .slnil) (v0:=c) rfl rfl;have w1:RX (put h bi 3 .slnil) bi a o .slnil t G b:=w.Lr (l:=b.A8);have d:=PS w1.zQ (zV (l:=[]) (.inr ⟨rfl,rfl⟩)) rfl;have hz:(b.Lm:Int)=((0:Nat):Int):=by rw[L]
    simp only[BC,↓reduceIte,l3,g0];refine DP (i:=2) (λn:Nat=>[I (n:Int)]) (λn h1=>n=0/\h1=h) (λn=>n) (λn h1=>n=0/\h1=h) 0 (by rw[hz]) ⟨rfl,rfl⟩ ?_ ?_;.rintro n h1 ⟨rfl,rfl⟩;simp only[BC,Nat.reduceLeDiff,↓reduceIte,AP,aC,show AE (.len false) [.slnil]=some (I 0) from rfl,(AX:¬((0:Nat):Int)<0)];exact .HC 0 rfl ⟨rfl,rfl⟩
    .rintro n h1 ⟨rfl,rfl⟩;simp only[BC,↓reduceIte,f,d];refine⟨_,rfl,rfl,o,.slnil,G,?_,⟨[],by rw[hb,ha];rfl,.inr ⟨rfl,rfl⟩⟩,Bp.trans Bp⟩;rw[hb];exact w1.Lr (l:=b.A8)
   .have i0:=jW.init (m:=m) w ok hnm rm Hj;have g1:=i_ (h:=h) hcs hne Ab;have B:AE (.len false) [.CE h.length 0 fs.length 3]=some (I (fs.length:Int)):=rfl;simp only[BC,↓reduceIte,l3,g1];refine DP (i:=2) (λn:Nat=>[I (n:Int)]) (λk h1=>jW h bi a t c G b fs h.length m k h1) (λk=>fs.length-k) (λk h1=>k=fs.length/\jW h bi a t c G b fs h.length m k h1) b.Lm rfl i0 ?_ ?_
    .intro k h1 i;have Ej:=i.le;rcases AN k fs.length with hlt|D6
     .obtain⟨h2,n,f,K,J,H,E⟩:=jW.step Hj rm.DD (Ag _) hlt i;have d:AE (.E2 3) [.CE h.length 0 fs.length 3,I (k:Int)]=some (Pt h.length (k*3)):=EX hlt;have gu:fs[k].v.cells=[fs[k].v]:=AU.cells fs[k].ok;simp only[abS,Nat.reduceLeDiff,↓reduceIte,AP,B,(Ab:(k:Int)<(fs.length:Int)),d,f,K,gu,J.Ad,H,BI (Ab:k<9223372036854775807)];exact .next (k+1) rfl E Ab
     .simp only[abS,Nat.reduceLeDiff,↓reduceIte,AP,B,(Ab:¬(k:Int)<(fs.length:Int))];exact .HC k rfl ⟨Ab,i⟩
    .rintro k h1 ⟨rfl,i⟩;obtain⟨A,s,b1,HX,w1,QZ,nm1,tU,RG,VG,dJ,gq,Na,C⟩:=i.ex;have g:h.length≠bi:=λe=>Na (.inl e);have f:=w1.st (k:=3) (v:= .CE h.length 0 fs.length 3) (v0:=c) rfl rfl;have y:=w1.Lr (u:= .CE h.length 0 fs.length 3) (l:=b1.A8);have IV:(put h1 bi 3 (.CE h.length 0 fs.length 3))[h.length]?=_:=(Ck g).trans RG;have hf:=J0 (Om HX) IV;rw[Ak,VG] at hf;have d:=PS y.zQ hf (by rw[Ap g]);have D:RX ((put h1 bi 3 (.CE h.length 0 fs.length 3)).set h.length .CO) bi a A _ t s {b1 with A8:=b1.A8}:=y.Df λj hj=>Ap λe=>Na (by rw[e];exact hj);simp only[BC,↓reduceIte,f,d];have hb:b.DS={b1 with A8:=HX.map (·.c)}:=by rw[gq,AO Ab,AG Ab];simp only[BS.Jw,BE]
     refine⟨_,rfl,rfl,A,_,s,by rw[hb];exact D.Lr,⟨HX,by rw[hb],.mk⟩,?_⟩;have p:=C.trans (Bp (bi:=bi) (G:=s) (k:=3) (v:= .CE h.length 0 fs.length 3));refine DA.trans ⟨by rw[Bn];exact p.len,λj hj hn=>?_,p.Bt⟩ Bp;rw[Ap Ab];exact p.old j hj hn
 obtain⟨r,h',hr,rfl,o',c',G',w',KI,x'⟩:=Ji.ret;exact⟨h',o',c',G',hr,w',KI,x'⟩
end
section
variable{h h':Ah}{bi a:Nat}{o c t:Aa}{G G' F:Nat->Prop}{b:BS}{x:Int}{m j:Nat}{q:oF}
variable{nm:Ao}{av:Aa}{l:List A3}{r:List Aa}{sp p:Int}
def aMf(w:RX h bi a o c t G b)(hc:B4 b.A8 c)(ok:Eu b)(sz:Sz b (j+1))(hnm:Nm b.a)(hq:g_ q)(hv:Br q.Az av):
  ∃h' o' c' t' G',BH cx 25 [Pt bi 0,.agg (LJ q av)] h (.agg (Ys b q).2.row) h'/\RX h' bi a o' c' t' G' (Ys b q).1/\B4 (Ys b q).1.A8 c'/\DA h (Bt bi G) h' (Bt bi G'):=by
 unfold Ys LJ;by_cases d:q.k=1;.rw[Ae d];dsimp only;obtain⟨r,YT,D,hr,DC⟩:=Vp (q:=q) hv hq.Az.1 h;rw[LJ] at D;obtain⟨h',o',G',r2,w',x'⟩:=vp (m:=5000000*j) w ok sz.Yv hnm hr DC hq.Az hq.name;refine⟨h',o',c,t,G',?_,w',by rw[Fh];exact hc,x'⟩;rw[Af,FH];simp only[abS,Nat.reduceLeDiff,↓reduceIte,AP,AW d,D.Ad,r2.Ad];try rfl
 rw[Ac d];by_cases f:q.k=2;.rw[Ae f];dsimp only;obtain⟨r,YT,D,hr,DC⟩:=Vp (q:=q) hv hq.Az.1 h;rw[LJ] at D;obtain⟨h',o',G',r2,w',x'⟩:=aHh (m:=5000000*j) w ok sz.Yv hnm hr DC hq.Az hq.name q.A7;refine⟨h',o',c,t,G',?_,w',by rw[Fh];exact hc,x'⟩;rw[Af,FH];simp only[abS,Nat.reduceLeDiff,↓reduceIte,AP,d,AW f,D.Ad,r2.Ad];try rfl
 rw[Ac f];by_cases g:q.k=3;.rw[Ae g];dsimp only;obtain⟨r,YT,D,hr,DC⟩:=Vp (q:=q) hv hq.Az.1 h;rw[LJ] at D;obtain⟨h',o',c',G',r2,w',KI,x'⟩:=aL8 (m:=5000000*j) w hc ok sz.Yv hnm hr DC hq.Az hq.name;refine⟨h',o',c',t,G',?_,w',KI,x'⟩;rw[Af,FH];simp only[abS,Nat.reduceLeDiff,↓reduceIte,AP,d,f,AW g,D.Ad,r2.Ad];try rfl
 rw[Ac g];by_cases i:q.k=4;.rw[Ae i];dsimp only;obtain⟨h',G',r2,w',x'⟩:=aL9 (m:=5000000*j) w ok sz.Yv hnm q.r;refine⟨h',o,c,t,G',?_,w',hc,x'⟩;rw[Af,FH];simp only[abS,↓reduceIte,AP,d,f,g,AW i,r2.Ad];try rfl
 rw[Ac i];by_cases y:q.k=5;.rw[Ae y];dsimp only;obtain⟨h',G',r2,w',x'⟩:=aHl (m:=5000000*j) w ok sz.Yv hnm q.s (by have:=hq.s;omega) q.a;refine⟨h',o,c,t,G',?_,w',hc,x'⟩;rw[Af,FH];simp only[abS,↓reduceIte,AP,d,f,g,i,AW y,r2.Ad];try rfl
 rw[Ac y];by_cases z:q.k=6;.rw[Ae z];dsimp only;obtain⟨r,YT,D,hr,DC⟩:=Vp (q:=q) hv hq.Az.1 h;rw[LJ] at D;obtain⟨h',o',G',r2,w',x'⟩:=aL6 (m:=5000000*j) w ok sz.Yv hnm hr DC hq.Az hq.name q.n;refine⟨h',o',c,t,G',?_,w',by show B4 (b.EG q.name q.Az 1).A8 c;rw[Fh];exact hc,x'⟩;rw[Af,FH];simp only[abS,↓reduceIte,AP,d,f,g,i,y,AW z,D.Ad,r2.Ad];try rfl
 rw[Ac z];by_cases A:q.k=7;.rw[Ae A];dsimp only;obtain⟨h',o',r2,w',x'⟩:=aL5 w sz.rm;refine⟨h',o',c,t,G,?_,w',by have e:b.JQ.A8=b.A8:=(by unfold BS.JQ;split<;>rfl);rw[e];exact hc,x'⟩;rw[Af,FH];simp only[abS,↓reduceIte,AP,d,f,g,i,y,z,AW A,r2.Ad];try rfl
 rw[Ac A];by_cases B:q.k=8;.rw[Ae B];dsimp only;obtain⟨h',o',c',G',r2,w',KI,x'⟩:=aMe (m:=5000000*j) w hc ok (sz.rm.le (by have:=sz.A8;omega)) hnm;refine⟨h',o',c',t,G',?_,w',KI,x'⟩;rw[Af,FH];simp only[abS,↓reduceIte,AP,d,f,g,i,y,z,A,AW B,r2.Ad];try rfl
 rw[Ac B];by_cases C:q.k=9;.rw[Ae C];dsimp only;obtain⟨h',o',r2,w',x'⟩:=aHi w sz.rm q.name;refine⟨h',o',c,t,G,?_,w',by have e:(b.Dl q.name).A8=b.A8:=(by unfold BS.Dl;split;split<;>rfl;rfl);rw[e];exact hc,x'⟩;rw[Af,FH];simp only[abS,↓reduceIte,AP,d,f,g,i,y,z,A,B,AW C,r2.Ad];try rfl
 rw[Ac C];by_cases O0:q.k=10;.rw[Ae O0];dsimp only;obtain⟨h',o',c',G',r2,w',KI,x'⟩:=aMd (m:=5000000*j) w hc ok (sz.rm.le (by have:=sz.AY;omega)) hnm q.name;refine⟨h',o',c',t,G',?_,w',KI,x'⟩;rw[Af,FH];simp only[abS,↓reduceIte,AP,d,f,g,i,y,z,A,B,C,AW O0,r2.Ad];try rfl
 rw[Ac O0];by_cases PU:q.k=11;.rw[Ae PU];dsimp only;obtain⟨h',r2,w',x'⟩:=Ĩ w sz.rm;refine⟨h',o,c,t,G,?_,w',hc,x'⟩;rw[Af,FH];simp only[abS,↓reduceIte,AP,d,f,g,i,y,z,A,B,C,O0,AW PU,r2.Ad];try rfl
 rw[Ac PU];by_cases QA:q.k=12;.rw[Ae QA];dsimp only;obtain⟨r,YT,D,hr,DC⟩:=Vp (q:=q) hv hq.Az.1 h;rw[LJ] at D;obtain⟨h',G',r2,w',x'⟩:=aL4 (m:=5000000*j) w ok sz.Yv hr DC hq.Az q.a;refine⟨h',o,c,t,G',?_,w',by have e:(b.Hy q.Az q.a).A8=b.A8:=(by unfold BS.Hy;split<;>rfl);rw[e];exact hc,x'⟩;rw[Af,FH];simp only[abS,↓reduceIte,AP,d,f,g,i,y,z,A,B,C,O0,PU,AW QA,D.Ad,r2.Ad];try rfl
 rw[Ac QA];by_cases Rz:q.k=13;.rw[Ae Rz];dsimp only;obtain⟨h',o',c',t',r2,w',KI,x'⟩:=aMc w hc sz.rm;refine⟨h',o',c',t',G,?_,w',KI,x'⟩;rw[Af,FH];simp only[abS,↓reduceIte,AP,d,f,g,i,y,z,A,B,C,O0,PU,QA,AW Rz,r2.Ad];try rfl
 rw[Ac Rz];by_cases SX:q.k=14;.rw[Ae SX];dsimp only;obtain⟨h',r2,w',x'⟩:=aL3 w;refine⟨h',o,c,t,G,?_,w',hc,x'⟩;rw[Af,FH];simp only[abS,↓reduceIte,AP,d,f,g,i,y,z,A,B,C,O0,PU,QA,Rz,AW SX,r2.Ad];try rfl
 rw[Ac SX];by_cases TU:q.k=15;.rw[Ae TU];dsimp only;have w':RX (put h bi 15 (.bool q.b)) bi a o c t G {b with ER:=q.b}:=w.put rfl rfl w.o w.t;refine⟨put h bi 15 (.bool q.b),o,c,t,G,?_,w',hc,Bp⟩;rw[Af,FH];simp only[abS,↓reduceIte,AP,d,f,g,i,y,z,A,B,C,O0,PU,QA,Rz,SX,AW TU,w.st (k:=15) (v:= .bool q.b) rfl rfl];try rfl
 rw[Ac TU];by_cases Vq:q.k=16;.rw[Ae Vq];dsimp only;have K:=sz.rm.tm;have kD:AM=140737488355328:=rfl;obtain⟨u,M,hu⟩:=AU.Gt (b:=8) w.t Ab;have L:=AU.Ki (b:=8) (a:=q.n) hu Ab;have em:AE (.Dh 1) [I q.n]=some (.sl 1 [Cn q.n]):=rfl;have Jr:D1 (b.tm++[q.n]) (.sl 1 ((b.tm++[q.n]).map Cn)):= .mk;have w':=w.tT Jr;refine⟨put h bi 6 (.sl 1 ((b.tm++[q.n]).map Cn)),o,c,_,G,?_,w',hc,Bp⟩;rw[Af,FH];simp only[abS,↓reduceIte,AP,d,f,g,i,y,z,A,B,C,O0,PU,QA,Rz,SX,TU,AW Vq,w.l6,M,em,L,w.st (k:=6) (v0:=t) rfl (AU.cells Jr)];try rfl
 rw[Ac Vq];by_cases Yw:q.k=17
 .rw[Ae Yw];dsimp only;have Td:=sz.rm.A8;obtain⟨u,r2,KI,H⟩:=hc.wi Ab (e:=Cs.zero) (v:= .slnil) (.inr ⟨rfl,rfl⟩) AX (b.A8.length:Int) h;rw[UH (Ag _),Bv,El] at KI;have w':=w.Lr (u:=u) (l:=b.A8++[Cs.zero]);have lc:AE (.len false) [c]=some (I (b.A8.length:Int)):=by obtain⟨fs,Hj,WN⟩:=hc;rw[AU.CL WN,<-Hj,Ak]
  have E:BH cx 100 [c,.agg [I 0,S [],.slnil],I (b.A8.length:Int)] h u h:=r2;refine⟨put h bi 3 u,o,u,t,G,?_,w',KI,Bp⟩;rw[Af,FH];simp only[abS,↓reduceIte,AP,d,f,g,i,y,z,A,B,C,O0,PU,QA,Rz,SX,TU,Vq,AW Yw,w.l3,lc,E.Ad,w.st (k:=3) (v0:=c) rfl H];try rfl
 rw[Ac Yw];by_cases Zs:q.k=18;.rw[Ae Zs];dsimp only;obtain⟨h',o',r2,w',x'⟩:=aL7 w sz.rm;refine⟨h',o',c,t,G,?_,w',by have e:b.Ru.A8=b.A8:=(by unfold BS.Ru;split<;>rfl);rw[e];exact hc,x'⟩;rw[Af,FH];simp only[abS,↓reduceIte,AP,Fa,d,f,g,i,y,z,A,B,C,O0,PU,QA,Rz,SX,TU,Vq,Yw,AW Zs,r2.Ad];try rfl
 rw[Ac Zs];by_cases jS:q.k=19;.rw[Ae jS];dsimp only;have w':RX (put h bi 7 (I q.a)) bi a o c t G {b with head:=q.a}:=w.put rfl rfl w.o w.t;refine⟨put h bi 7 (I q.a),o,c,t,G,?_,w',hc,Bp⟩;rw[Af,FH];simp only[abS,↓reduceIte,AP,d,f,g,i,y,z,A,B,C,O0,PU,QA,Rz,SX,TU,Vq,Yw,Zs,AW jS,w.st (k:=7) (v:= I q.a) rfl rfl];try rfl
 rw[Ac jS];by_cases oI:q.k=20;.rw[Ae oI];dsimp only;have w':=w.nW q.n;refine⟨put h bi 4 (I q.n),o,c,t,G,?_,w',hc,Bp⟩;rw[Af,FH];simp only[abS,↓reduceIte,AP,d,f,g,i,y,z,A,B,C,O0,PU,QA,Rz,SX,TU,Vq,Yw,Zs,jS,AW oI,w.st (k:=4) (v:= I q.n) rfl rfl];try rfl
 rw[Ac oI];by_cases uB:q.k=21;.rw[Ae uB];dsimp only;have Td:=sz.rm.A8;obtain⟨fs,Hj,WN⟩:=hc;obtain⟨u,r2,hu⟩:=f84 (h:=h) WN (by rw[<-Hj,Ak] at Td;omega);have w':=w.Lr (u:=u) (l:=Gu b.A8);have KI:B4 (Gu b.A8) u:=⟨_,by rw[We,Hj],hu⟩;refine⟨put h bi 3 u,o,u,t,G,?_,w',KI,Bp⟩;rw[Af,FH];simp only[abS,↓reduceIte,AP,d,f,g,i,y,z,A,B,C,O0,PU,QA,Rz,SX,TU,Vq,Yw,Zs,jS,oI,AW uB,w.l3,r2.Ad,w.st (k:=3) (v0:=c) rfl (AU.cells hu)];try rfl
 rw[Ac uB];by_cases ic:q.k=22;.rw[Ae ic];dsimp only;have ho:=sz.rm.AY;have ld:Bd h none (Pt bi 2)=some o:=w.ld 2;have em:AE (.Dh 1) [.str q.name]=some (.sl 1 ([q.name].map BZ)):=DF (ws:=[q.name]) rfl AH;obtain⟨u,J,r2,hu⟩:=f85 (h:=h) w.o Ab (C0 (ws:=[q.name])) AH;rw[<-Ol] at hu;have w1:=w.IA (u:=J);have w':=w1.I8 hu;refine⟨put (h++J) bi 2 u,u,c,t,G,?_,w',hc,w.C7.trans Bp⟩;rw[Af,FH];simp only[abS,↓reduceIte,AP,d,f,g,i,y,z,A,B,C,O0,PU,QA,Rz,SX,TU,Vq,Yw,Zs,jS,oI,uB,AW ic,ld,em,r2.Ad,w1.st (k:=2) (v0:=o) rfl (AU.cells hu)];try rfl
 rw[Ac ic];by_cases u_:q.k=23;.rw[Ae u_];dsimp only;have w':RX (put h bi 8 (I q.a)) bi a o c t G {b with NJ:=q.a}:=w.put rfl rfl w.o w.t;refine⟨put h bi 8 (I q.a),o,c,t,G,?_,w',hc,Bp⟩;rw[Af,FH];simp only[abS,↓reduceIte,AP,d,f,g,i,y,z,A,B,C,O0,PU,QA,Rz,SX,TU,Vq,Yw,Zs,jS,oI,uB,ic,AW u_,w.st (k:=8) (v:= I q.a) rfl rfl];try rfl
 rw[Ac u_];by_cases Ğ:q.k=24;.rw[Ae Ğ];dsimp only;obtain⟨r,YT,D,hr,DC⟩:=Vp (q:=q) hv hq.Az.1 h;rw[LJ] at D;obtain⟨h',G',r2,w',x'⟩:=ģ (m:=5000000*j) w ok sz.Yv hnm hr DC hq.Az hq.name q.a q.A7;refine⟨h',o,c,t,G',?_,w',by have e:(b.Em q.name q.Az q.A7 q.a).A8=b.A8:=(by unfold BS.Em;split<;>rfl);rw[e];exact hc,x'⟩;rw[Af,FH];simp only[abS,↓reduceIte,AP,Fa,d,f,g,i,y,z,A,B,C,O0,PU,QA,Rz,SX,TU,Vq,Yw,Zs,jS,oI,uB,ic,u_,AW Ğ,D.Ad,r2.Ad];try rfl
 rw[Ac Ğ];refine⟨h,o,c,t,G,?_,w,hc,.refl⟩;rw[Af,FH];simp only[abS,↓reduceIte,AP,d,f,g,i,y,z,A,B,C,O0,PU,QA,Rz,SX,TU,Vq,Yw,Zs,jS,oI,uB,ic,u_,Ğ];try rfl
end
section
variable{h h':Ah}{bi a:Nat}{o c t:Aa}{G G' F:Nat->Prop}{b:BS}{x:Int}{m j:Nat}{q:oF}
variable{nm:Ao}{av:Aa}{l:List A3}{r:List Aa}{sp p:Int}
def uH(h:Ah):VE h []=some (h++[.CO,.cells RN.z.row,.cells [I 0],.cells [.CE (h.length+1) 0 1 13,.CE (h.length+2) 0 1 1]],.ptr (some (h.length+3,0))):=by unfold VE;simp only[AI,CJ,BQ];rfl
def aMg(h:Ah):BH cx 61 [] h (.ptr (some (h.length+3,0))) (h++[.CO,.cells RN.z.row,.cells [I 0],.cells [.CE (h.length+1) 0 1 13,.CE (h.length+2) 0 1 1]]):=by have d:E4 (.Q5 VE) h []=some (h++[.CO,.cells RN.z.row,.cells [I 0],.cells [.CE (h.length+1) 0 1 13,.CE (h.length+2) 0 1 1]],.ptr (some (h.length+3,0))):=uH h;rw[Af,show Ca cx 61 []=VF [] from rfl,VF];simp only[BC,d]
def ĩ(h:Ah):RA (h++[.CO,.cells RN.z.row,.cells [I 0],.cells [.CE (h.length+1) 0 1 13,.CE (h.length+2) 0 1 1]]) (h.length+3) (h.length+1) (h.length+2) [] ⟨[],[]⟩:=by
 refine⟨rfl,rfl,?_,?_,?_,Ab,Ab,Ab⟩;.rw[Bl Ab,(Ab:h.length+3 -h.length=3)];rfl
 .rw[Bl Ab,(Ab:h.length+1 -h.length=1)];rfl
 .rw[Bl Ab,(Ab:h.length+2 -h.length=2)];rfl
def aHw(h:Ah)(q:Bool):∃h1 h2 h' a bi G,BH cx 61 [] h (Pt a 0) h1/\BH cx 62 [Pt a 0,.bool q] h1 (I 1) h2/\BH cx 64 [Pt a 0,I 1] h2 (Pt bi 0) h'/\RX h' bi a .slnil .slnil .slnil G (Dt q)/\DA h (λ_=>False) h' (Bt bi G):=by
 obtain⟨h2,f,g,tM,r2,d,e⟩:=aG8 (ĩ h) (by show(0:Int)<=1000000000;decide) q;have d:RA h2 (h.length+3) f g tM (js q):=d;have hx:(js q).has 1:=⟨Gw 1,Gw 1⟩;have hk:((js q).nd 1).kind=1:=by rw[show(js q).nd 1=(Dt q).a.nd 1 from rfl,OC,Ae rfl]
 have i:=oM d hx hk;have Ej:h.length+4<=h2.length:=by have:=e.len;simpa using this
 refine⟨_,h2,h2++[.cells (Jl (h.length+3) (Dt q) .slnil .slnil .slnil)],h.length+3,h2.length,I9 (h.length+3) f g,aMg h,r2,?_,⟨AH,.inr ⟨rfl,rfl⟩,.inr ⟨rfl,rfl⟩,⟨f,g,tM,d.Df λj hj=>Aj (d.lt hj),rfl⟩,λhj=>absurd (d.lt hj) (Dr _)⟩,⟨?_,λj hj _=>?_,λj hj=> .inr ?_⟩⟩;.rw[Af,aBX];simp only[abS,Nat.reduceLeDiff,↓reduceIte,AP,i.Ad,BW];rfl
 .simp;omega
 .rw[Aj Ab,e.old j Ee (by unfold I9;omega),Aj hj]
 .rcases hj with rfl|hj
  .omega
  .rcases e.Bt j hj with hj|hj
   .unfold I9 at hj;omega
   .simp at hj;omega
def RX.ve(w:RX h bi a o c t G b)(i:Item):∃h',Cx h 4 (Pt bi 10) (.agg i.row)=some h'/\RX h' bi a o c t G {b with ctx:=i}/\DA h (Bt bi G) h' (Bt bi G):=by refine⟨h.set bi (.cells (Jl a {b with ctx:=i} o c t)),?_,⟨AS w.lt,w.o,w.t,w.w.Df λj hj=>Ap λe=>w.nb (by rw[e];exact hj),w.nb⟩,⟨by rw[Bn];exact Ag _,λj _ hn=>Ap λe=>hn (.inl e.symm),λ_ h=> .inl h⟩⟩;simp only[Cx,w.hb];rfl
def aMh(h:Ah)(sp:Int)(nm:Ao)(hv:Br l av)(hl:DU l)(hn:nm.length<=1000)(q f q':Bool):∃h1 h2 h' a bi o t G,BH cx 61 [] h (Pt a 0) h1/\BH cx 62 [Pt a 0,.bool q] h1 (I 1) h2/\BH cx 63 [Pt a 0,I 1,.agg [I sp,.str nm,av,.bool q',.bool f]] h2 (Pt bi 0) h'/\RX h' bi a o .slnil t G (TV sp nm l q f)/\DA h (λ_=>False) h' (Bt bi G):=by
 obtain⟨h1,h2,h3,a,bi,G,r1,r2,C,w,x⟩:=aHw h q;have ok0:=OB q;have OX:(Dt q).a.has 1:=⟨Gw 1,Gw 1⟩;have YW:((Dt q).a.nd 1).kind=1:=by rw[OC,Ae rfl]
 have N:(Dt q).ID 1=1:=by unfold BS.ID;rw[OC,Ae rfl];rfl
 have ŗ:(Dt q).Em Dz [] 1 1={Dt q with a:=(Dt q).a.elem 1 1 Dz []}:=by unfold BS.Em;rw[Ae JW,N];rfl
 have E:(Dt q).Gv Dz [] 1=⟨2,1,Dz,false⟩:=by unfold BS.Gv;rw[Ae JW];rfl
 obtain⟨h4,G4,B,X,x4⟩:=w.step (A':=(Dt q).a.elem 1 1 Dz []) (R:=λh'=>BH cx 165 [Pt a 0,I 1,I 1,.str Dz,.slnil] h3 (.tuple [I ((Dt q).a.len+1),I 0]) h') (λn i ps wa=>aAd (l:=[]) wa (by show(1:Int)+3<=1000000000;decide) OX YW JW (.inr ⟨rfl,rfl⟩) AX (λy hy=>(nomatch hy)));rw[<-ŗ] at X;obtain⟨jo,f4,le4⟩:=PM (nm:=Dz) (at_:=[]) (p:=1) (OB q) JW;have M:=I6 (m:=1000) (nm:=Dz) (l:=[]) (sp:=1) (p:=1) ((OD q).rm.le Ab) ⟨AX,λa ha=>(nomatch ha)⟩;obtain⟨J,d,u,W,x5⟩:=ah X jo.ba M 1 ((Dt q).Gv Dz [] 1).node 0;have ho:((Dt q).Em Dz [] 1 1).AY=[]:=by rw[ŗ];rfl
 have D:B1 (((Dt q).Em Dz [] 1 1).AY++[(Dt q).Gv Dz [] 1]) (.sl 4 [((Dt q).Gv Dz [] 1).row]):=by rw[ho];exact .mk
 have g:=W.st (k:=2) (v:= .sl 4 [((Dt q).Gv Dz [] 1).row]) (v0:= .slnil) rfl rfl;have L:=W.I8 D;have e:Cx (put J bi 2 (.sl 4 [((Dt q).Gv Dz [] 1).row])) 1 (Pt bi 9) tt=some (put (put J bi 2 (.sl 4 [((Dt q).Gv Dz [] 1).row])) bi 9 tt):=L.st (k:=9) (v:=tt) (v0:= .bool ((Dt q).Em Dz [] 1 1).LX) rfl rfl;have V:RX (put (put J bi 2 (.sl 4 [((Dt q).Gv Dz [] 1).row])) bi 9 tt) bi a _ .slnil .slnil d _:=L.put (k:=9) (v:=tt) (b':={{{(Dt q).Em Dz [] 1 1 with a:=((Dt q).Em Dz [] 1 1).a.Et ((Dt q).Gv Dz [] 1).node 1 0} with AY:=((Dt q).Em Dz [] 1 1).AY++[(Dt q).Gv Dz [] 1]} with LX:=true}) rfl rfl D L.t;have T:DA h (λ_=>False) (put (put J bi 2 (.sl 4 [((Dt q).Gv Dz [] 1).row])) bi 9 tt) (Bt bi d):=((((x.trans x4).trans x5).trans Bp).trans Bp);have Ym:((Dt q).Gv Dz [] 1).node=(Dt q).a.len+1:=by rw[E];rfl
 rw[Ym] at u;have aHx:((Dt q).Gv Dz [] 1).row=[I ((Dt q).a.len+1),I 1,S Dz,ff]:=by rw[E];rfl
 rw[aHx] at g e V T;generalize put J bi 2 (.sl 4 [[I ((Dt q).a.len+1),I 1,S Dz,ff]])=h6 at*;generalize put h6 bi 9 tt=Z at*;have A:=aFp (h:=Z) hv (λa ha=>by have:=(hl.2 a ha).2;have:AM=140737488355328:=rfl;omega) (by have:=hl.1;omega) sp nm Ab;obtain⟨z,s8,U,x8⟩:=V.ve ⟨0,sp,nm,Fl sp nm l⟩;have Ź:RX z bi a _ .slnil .slnil d (Jf sp nm l q):=U;have Ŷ:=T.trans x8;clear U;have vf:Cx Z 4 (Pt bi 10) (.agg [I 0,I sp,.str nm,.bool (Fl sp nm l)])=some z:=s8;have aCO:(Jf sp nm l q).ctx=⟨0,sp,nm,Fl sp nm l⟩:=rfl;obtain⟨aLQ,Ġ⟩:=Yx sp nm l q;have key:∃H t9,RX H bi a (.sl 4 [[I ((Dt q).a.len+1),I 1,S Dz,ff]]) .slnil t9 d (LN sp nm l q)/\DA z (Bt bi d) H (Bt bi d)/\((sp=1/\nm=Bc)->Cx z 1 (Pt bi 6) (.sl 1 [[I 18]])=some H)/\(¬(sp=1/\nm=Bc)->H=z):=by
  by_cases K:sp=1/\nm=Bc;.have hu:D1 [18] (.sl 1 [[I 18]]):= .mk;refine⟨put z bi 6 (.sl 1 [[I 18]]),.sl 1 [[I 18]],?_,Bp,λ_=>Ź.st (k:=6) (v0:= .slnil) rfl rfl,λh=>absurd K h⟩;unfold LN;rw[Ae (by rw[Qv,aCO];exact AA K)];exact Ź.tT hu
  .refine⟨z,.slnil,?_,.refl,λh=>absurd h K,λ_=>rfl⟩;unfold LN;rw[Ac (by rw[Qv,aCO];exact λh=>K (HZ h))];exact Ź
 obtain⟨H,t9,w9,x9,k1,Y⟩:=key;obtain⟨Vl,zY,TT,tY⟩:=Ĩ w9 Ġ.rm;have em:AE (.Dh 1) [I 18]=some (.sl 1 [[I 18]]):=rfl;have Ħ:AE (.Dh 4) [.agg [I ((Dt q).a.len+1),I 1,S Dz,ff]]=some (.sl 4 [[I ((Dt q).a.len+1),I 1,S Dz,ff]]):=rfl;have Q:DA h (λ_=>False) Vl (Bt bi d):=(Ŷ.trans x9).trans tY;have s:=TT.st (k:=8) (v:=I (-1)) rfl rfl;have hw:Dz=aSC:=rfl;have HC:∃h',RX h' bi a (.sl 4 [[I ((Dt q).a.len+1),I 1,S Dz,ff]]) .slnil t9 d (TV sp nm l q f)/\DA h (λ_=>False) h' (Bt bi d)/\(f=true->h'=put Vl bi 8 (I (-1)))/\(f=false->h'=Vl):=by
  cases f with
  |true=>exact⟨_,by unfold TV;rw[Ae rfl];exact TT.put (k:=8) rfl rfl TT.o TT.t,Q.trans Bp,λ_=>rfl,λh=>absurd h AX⟩
  |false=>exact⟨Vl,TT,Q,λh=>absurd h AX,λ_=>rfl⟩
 obtain⟨h',w',x',P,O⟩:=HC;refine⟨h1,h2,h',a,bi,_,t9,d,r1,r2,?_,w',x'⟩;rw[Af,aBW];by_cases hsp:sp=1
 .by_cases ŉ:nm=Bc
  .have ź:=k1 ⟨hsp,ŉ⟩;cases f with
   |true=>rw[P rfl];simp only[abS,Nat.reduceLeDiff,↓reduceIte,AP,Jk,C.Ad,B.Ad,u.Ad,Ħ,g,e,A.Ad,vf,AW hsp,AW ŉ,em,ź,zY.Ad,s]
   |false=>rw[O rfl];simp only[abS,Nat.reduceLeDiff,↓reduceIte,AP,Jk,C.Ad,B.Ad,u.Ad,Ħ,g,e,A.Ad,vf,AW hsp,AW ŉ,em,ź,zY.Ad]
  .have Ż:=Y λh=>ŉ h.2;subst Ż;cases f with
   |true=>rw[P rfl];simp only[abS,Nat.reduceLeDiff,↓reduceIte,AP,Jk,C.Ad,B.Ad,u.Ad,Ħ,g,e,A.Ad,vf,AW hsp,ŉ,zY.Ad,s]
   |false=>rw[O rfl];simp only[abS,Nat.reduceLeDiff,↓reduceIte,AP,Jk,C.Ad,B.Ad,u.Ad,Ħ,g,e,A.Ad,vf,AW hsp,ŉ,zY.Ad]
 .have Ż:=Y λh=>hsp h.1;subst Ż;cases f with
  |true=>rw[P rfl];simp only[abS,Nat.reduceLeDiff,↓reduceIte,AP,Jk,C.Ad,B.Ad,u.Ad,Ħ,g,e,A.Ad,vf,hsp,zY.Ad,s]
  |false=>rw[O rfl];simp only[abS,Nat.reduceLeDiff,↓reduceIte,AP,Jk,C.Ad,B.Ad,u.Ad,Ħ,g,e,A.Ad,vf,hsp,zY.Ad]
def aMi(h:Ah)(s:ET)(hv:Br s.Az av)(hl:DU s.Az)(hn:s.name.length<=1000):∃h' bi a o c t G,BH cx 23 [.agg (LZ s av)] h (Pt bi 0) h'/\RX h' bi a o c t G s.b/\B4 s.b.A8 c/\DA h (λ_=>False) h' (Bt bi G):=by
 have qV:(Jf s.A7 s.name s.Az s.Cq).A8=[]:=by unfold Jf;simp only;unfold BS.Em;rw[Ae JW];rfl
 have WH:av.cells=[av]:=AU.cells hv;cases hf:s.LX with
 |true=>
  obtain⟨h1,h2,h',a,bi,o,t,G,f,r2,d,w,x⟩:=aMh h s.A7 s.name hv hl hn s.Cq s.NJ s.Cq;refine⟨h',bi,a,o,.slnil,t,G,?_,by unfold ET.b;rw[Ae hf];exact w,?_,x⟩;.rw[Af,rp,LZ,hf];simp only[BC,f.Ad,r2.Ad,d.Ad]
  .have e:s.b.A8=[]:=by unfold ET.b TV LN;rw[Ae hf];split<;>split<;>exact qV
   rw[e];exact⟨[],rfl,.inr ⟨rfl,rfl⟩⟩
 |false=>
  obtain⟨h1,h2,h',a,bi,G,f,r2,d,w,x⟩:=aHw h s.Cq;have e:s.b=Dt s.Cq:=by unfold ET.b;rw[Ac (by rw[hf];decide)]
  refine⟨h',bi,a,.slnil,.slnil,.slnil,G,?_,by rw[e];exact w,by rw[e];exact⟨[],rfl,.inr ⟨rfl,rfl⟩⟩,x⟩;rw[Af,rp,LZ,hf];simp only[BC,f.Ad,r2.Ad,d.Ad]
end
section
variable{h h':Ah}{bi a lo:Nat}{o c t:Aa}{G G' F:Nat->Prop}{b:BS}{x:Int}{m:Nat}
def aMj(w:RX h bi a o c t G b)(hc:B4 b.A8 c)(rm:B6 b m):∃t' o' c' u,BH cx 49 [Pt bi 0] h (.agg (UG b.Wq t' o' c')) (h++u)/\SY (h++u) h.length b.Wq t' o' c':=by
 have kD:AM=140737488355328:=rfl;have ho:=rm.AY;have Td:=rm.A8;have K:=rm.tm;obtain⟨t',e0,Gg⟩:=AU.Gt (b:=8) w.t Ab;have Ž:t'.cells=[t']:=AU.cells Gg;obtain⟨fs,Hj,hv⟩:=hc;have Ho:b.A8.length=fs.length:=by rw[<-Hj,Ak]
 have Ji:Ev cx 49 [Pt bi 0] h λr h'=>∃t' o' c' u,r= .agg (UG b.Wq t' o' c')/\h'=h++u/\SY (h++u) h.length b.Wq t' o' c':=by
  unfold Ev;rw[aBT];simp only[abS,Nat.reduceLeDiff,↓reduceIte,AP,w.ld,Jl,e0,Ž];refine DP (i:=0) (λz:Aa×Nat=>[.agg [I b.mode,I b.SB,t',z.1,.slnil,I b.head,I b.NJ,.bool b.fs,.bool b.ER,.str b.m7,.bool b.skip,I b.sw,.bool b.stop],I (z.2:Int)]) (λz h1=>z.2<=b.AY.length/\∃u,h1=h++u/\M2 (h++u) h.length z.1 ((b.AY.take z.2).map Item.node)) (λz=>b.AY.length-z.2) (λz h1=>∃u,h1=h++u/\M2 (h++u) h.length z.1 (b.AY.map Item.node)) (.slnil,0) rfl ⟨AQ _,[],AH,.inl ⟨rfl,AH⟩⟩ ?_ ?_
  .rintro⟨V,n⟩ h1 ⟨hn,u,rfl,d⟩;simp only at hn d;have w1:=w.IA (u:=u);have jt:Bd (h++u) none (Pt bi 2)=some o:=w1.ld 2;have p:=AU.CL w.o;have y:=d.cells;rcases AN n b.AY.length with hlt|D6
   .have B:=AU.BJ (k:= .i64) w.o hlt;rw[Item.row] at B;obtain⟨D,E,g1,e⟩:=ż d (by rw[Ak,As];omega) b.AY[n].node;have f:=e.cells;have em:AE (.Dh 1) [I b.AY[n].node]=some (.sl 1 [[I b.AY[n].node]]):=rfl;simp only[abS,↓reduceIte,jt,p,(Ab:(n:Int)<(b.AY.length:Int)),B,em,g1,f,BI (Ab:n<9223372036854775807)];exact .next (E,n+1) rfl ⟨hlt,D,rfl,by rw[AB hlt,BF];exact e⟩ Dq
   .rw[AG D6] at d;simp only[abS,↓reduceIte,jt,p,(Ab:¬(n:Int)<(b.AY.length:Int))];exact .HC (V,n) rfl ⟨u,rfl,d⟩
  .rintro⟨O,M⟩ h1 ⟨u,rfl,C⟩;simp only at C;have L:=C.cells;simp only[BC,↓reduceIte];have H:=w.IA (u:=u);have s:h.length<=(h++u).length:=AH;obtain⟨l,j⟩:∃l,l=h++u:=⟨_,rfl⟩;rw[<-j] at C H s⊢;refine DP (i:=2) (λz:Aa×Nat=>[.agg [I b.mode,I b.SB,t',O,z.1,I b.head,I b.NJ,.bool b.fs,.bool b.ER,.str b.m7,.bool b.skip,I b.sw,.bool b.stop],I (z.2:Int)]) (λz h1=>z.2<=fs.length/\∃g,h1=l++g/\Mv (l++g) l.length z.1 ((b.A8.take z.2))) (λz=>fs.length-z.2) (λz h1=>∃g,h1=l++g/\Mv (l++g) l.length z.1 b.A8) (.slnil,0) rfl ⟨AQ _,[],AH,.inl ⟨rfl,AH⟩⟩ ?_ ?_
   .rintro⟨V,n⟩ h1 ⟨hn,g,rfl,d⟩;simp only at hn d;have w1:=H.IA (u:=g);have q:=w1.l3;have lc:=AU.CL hv;have y:=d.cells;rcases AN n fs.length with hlt|D6
    .have B:=AU.BJ (k:= .i64) hv hlt;rw[Cj.row] at B;have A:fs[n].c=b.A8[n]:=by simp only[<-Hj,CU]
     have Vx:=(rm.DD fs[n].c (by rw[A];exact AL _)).2.1;obtain⟨av,ea,WH⟩:=AU.Gt (b:=40) fs[n].ok Ab;have J:fs[n].v.cells=[fs[n].v]:=AU.cells fs[n].ok;have aCP:av.cells=[av]:=AU.cells WH;obtain⟨D,E,g1,e⟩:=aGR d (by rw[As];omega) ⟨fs[n].c,av,WH⟩;rw[Cj.row] at g1;simp only at g1 e;have f:=e.cells;have em:AE (.Dh 3) [.agg [I fs[n].c.node,.str fs[n].c.name,av]]=some (.sl 3 [[I fs[n].c.node,.str fs[n].c.name,av]]):=L6 rfl;simp only[abS,Nat.reduceLeDiff,↓reduceIte,AP,q,lc,(Ab:(n:Int)<(fs.length:Int)),B,ea,aCP,em];simp only[BC,↓reduceIte,g1,f,BI (Ab:n<9223372036854775807)];exact .next (E,n+1) rfl ⟨hlt,D,rfl,by rw[AB Ab,<-A];exact e⟩ Dq
    .rw[AG Ab] at d;simp only[abS,Nat.reduceLeDiff,↓reduceIte,AP,q,lc,(Ab:¬(n:Int)<(fs.length:Int)),aaS];exact .HC (V,n) rfl ⟨g,rfl,d⟩
   .rintro⟨V,n⟩ h1 ⟨g,rfl,d⟩;simp only at d;have y:=d.cells;simp only[BC,↓reduceIte];refine⟨_,rfl,t',O,V,u++g,rfl,by rw[j,AI],.inl Gg,?_,?_⟩;.rw[<-AI,<-j];exact C.Df λi _ hi=>Aj hi
    .rw[<-AI,<-j];exact d.low s
 obtain⟨r,h',hr,t',o',c',u,rfl,rfl,hs⟩:=Ji.ret;exact⟨t',o',c',u,hr,hs⟩
end
section
variable{h h':Ah}{a n i:Nat}{ps:List RN}{A:Ar}{x:Int}
def aMk(w:RA h a n i ps A)(hb:A.n.length<=900000000):BH cx 149 [Pt a 0] h (I A.len) h:=by
 have hl:=w.len;have e:((ps.length+1:Nat):Int)-1=A.len:=by unfold Ar.len;omega
 have hs:=C3 (a:=((ps.length+1:Nat):Int)) (b:=1) Ab Ab;rw[e] at hs;rw[Af,X_];simp only[BC,aC,w.nodes,show AE (.len false) [.CE n 0 (ps.length+1) 13]=some (I ((ps.length+1:Nat):Int)) from rfl,hs]
def aHz(p:RN)(h1:p.x.A6.length<=1000000000)(h2:p.x.Az.length<=1000000000)(h:Ah):∃r,BH cx 297 [.agg p.row] h (.agg r) h/\∀h',ž h' p.x r:=by have kD:AM=140737488355328:=rfl;obtain⟨K,j,d⟩:=AU.Gt (b:=8) p.okk Ab;obtain⟨V,g,c⟩:=AU.Gt (b:=40) p.oka Ab;have kc:p.kv.cells=[p.kv]:=AU.cells p.okk;have vc:p.av.cells=[p.av]:=AU.cells p.oka;have f:K.cells=[K]:=AU.cells d;have e:V.cells=[V]:=AU.cells c;refine⟨_,?_,λh'=>⟨K,V,rfl,D1.Rx d,Yf c,f,e⟩⟩;rw[Af,å,RN.row];simp only[BC,j,f,g,e]
def aMl(w:RA h a n i ps A)(hk:∀x,(A.nd x).A6.length<=1000000000)(ha:∀x,(A.nd x).Az.length<=1000000000)(hb:A.n.length<=900000000):∃v,BH cx 152 [Pt a 0] h v h/\∀h',Yz h' v A.n:=by
 have kD:AM=140737488355328:=rfl;have bS:=w.len;have Ji:Ev cx 152 [Pt a 0] h λr h'=>h'=h/\∀h',Yz h' r A.n:=by
  unfold Ev;rw[À];refine Bf (λz:Aa×Nat=>[z.1,I ((z.2+1:Nat):Int)]) (λz h1=>z.2<=ps.length/\h1=h/\∃AD:List (List Aa),AU 13 AD z.1/\AD.length=z.2/\∀h' k (h1:k<AD.length) (h2:k<A.n.length),ž h' A.n[k] AD[k]) (λz=>ps.length-z.2) (.slnil,0) rfl ⟨AQ _,rfl,[],.nil,rfl,λh' k h1=>by simp at h1⟩ ?_;rintro⟨V,k⟩ h1 ⟨YW,rfl,AD,d,e,f⟩;simp only at YW d e;have g:AE (.len false) [.CE n 0 (ps.length+1) 13]=some (I ((ps.length+1:Nat):Int)):=rfl;rcases AN k ps.length with hlt|D6
  .obtain⟨hx,ex⟩:=uE (A:=A) (k:=k) Ab;have c:=(w.pn hx).2;have ld:=w.aAc hx;have ea:=w.addr hx;obtain⟨r,l,hr⟩:=aHz (pR ps ((k:Int)+1)) (by rw[c];exact hk _) (by rw[c];exact ha _) h1;rw[c,ex] at hr;have em:AE (.Dh 13) [.agg r]=some (.sl 13 [r]):=by obtain⟨K,W,o,_⟩:=hr [];exact Mk (a:= .agg r) (by rw[o];rfl) AX
   have s:=AU.pq (b:=168) (row:=r) d Ab;have p:((k+1:Nat):Int)=(k:Int)+1:=Ab;have inc:AE (.int .add) [I ((k:Int)+1),I 1]=some (I ((k:Int)+1+1)):=Oj Ab Ab;simp only[abS,w.nodes,g,p,(Ab:(k:Int)+1<(ps.length:Int)+1),Int.natCast_add,Int.natCast_one,ea,ld,l.Ad,em,s,inc];refine AK.next (_,k+1) rfl ⟨hlt,rfl,AD++[r],.mk,by simp[e],λh' j h1 h2=>?_⟩ Dq;by_cases hj:j<AD.length;.rw[Gf hj];exact f h' j hj h2
   .have q:j=k:=by simp at h1;omega
    subst q;rw[xl Ab];simp only[e,C6,aDe];exact hr h'
  .simp only[abS,w.nodes,g,(Ab:¬((k+1:Nat):Int)<((ps.length+1:Nat):Int))];exact⟨_,rfl,λh'=>⟨AD,d,Ab,λj a b=>f h' j a b⟩⟩
 obtain⟨r,h',hr,rfl,m⟩:=Ji.ret;exact⟨r,hr,m⟩
end
def RB(h:Ah)(bi:Nat)(b:BS)(F:Nat->Prop):Prop:=∃a o c t G,RX h bi a o c t G b/\B4 b.A8 c/\F=Bt bi G
structure TX(h:Ah)(bi wi:Nat)(b:BS)(F F2:Nat->Prop):Prop where
 p:PB h bi b F
 r:RB h wi b F2
 d:∀i,F i->¬F2 i
structure QC(b:BS)(j:Nat):Prop where
 ok:Eu b
 sz:Sz b j
 nm:Nm b.a
section
variable{h h':Ah}{bi wi:Nat}{b:BS}{F F2:Nat->Prop}{q:oF}{av:Aa}{j:Nat}
def RB.lt(w:RB h bi b F){i:Nat}(hi:F i):i<h.length:=by
 obtain⟨a,o,c,t,G,w,_,rfl⟩:=w;rcases hi with rfl|hi
 .exact w.lt
 .exact w.w.lt hi
def RB.Df(w:RB h bi b F)(hf:∀i,F i->h'[i]?=h[i]?):RB h' bi b F:=by obtain⟨a,o,c,t,G,w,hc,rfl⟩:=w;exact⟨a,o,c,t,G,w.Df hf,hc,rfl⟩
def RB.IA(w:RB h bi b F){u:Ah}:RB (h++u) bi b F:=w.Df λi hi=>Aj (w.lt hi)
def TX.IA(w:TX h bi wi b F F2){u:Ah}:TX (h++u) bi wi b F F2:=⟨w.p.IA,w.r.IA,w.d⟩
def QC.le{k:Nat}(f:QC b j)(hk:k<=j):QC b k:=⟨f.ok,⟨f.sz.rm.le Ab,by have:=f.sz.AY;omega,by have:=f.sz.A8;omega⟩,f.nm⟩
def QC.HC(f:QC b j):Fin b j:=⟨f.ok,f.sz⟩
def QC.do(f:QC b (j+1))(hq:g_ q):QC (Ys b q).1 j:=⟨aCL f.ok,aCM f.sz hq,aCR f.nm f.sz hq⟩
def ET.oP(s:ET):QC s.b 100:=⟨s.ok.1,s.ok.2,vo s⟩
def TX.prog{b':BS}{F':Nat->Prop}(w:TX h bi wi b F F2)(p:PB h' bi b' F')(x:DA h F h' F'):RB h' wi b F2/\∀i,F' i->¬F2 i:=
 ⟨w.r.Df λi hi=>x.old i (w.r.lt hi) λhp=>w.d i hp hi,λi h1 h2=>by
  rcases x.Bt i h1 with a|a
  .exact w.d i a h2
  .have:=w.r.lt h2;omega⟩
def aMn(w:RB h bi b F)(f:QC b (j+1))(hq:g_ q)(hv:Br q.Az av):∃h' F',BH cx 25 [Pt bi 0,.agg (LJ q av)] h (.agg (Ys b q).2.row) h'/\RB h' bi (Ys b q).1 F'/\DA h F h' F':=by obtain⟨a,o,c,t,G,w,hc,rfl⟩:=w;obtain⟨h',o',c',t',G',r,w',KI,x⟩:=aMf w hc f.ok f.sz f.nm hq hv;exact⟨h',_,r,⟨a,o',c',t',G',w',KI,rfl⟩,x⟩
def Ī(w:TX h bi wi b F F2)(f:QC b (j+1))(hq:g_ q)(hv:Br q.Az av):∃h1 h2 F' a,BH cx 24 [Pt bi 0,.agg (LJ q av)] h (.agg (Ys b q).2.row) h1/\BH cx 25 [Pt wi 0,.agg (LJ q av)] h1 (.agg (Ys b q).2.row) h2/\TX h2 bi wi (Ys b q).1 F' a:=by
 obtain⟨h1,F',n,w1,k⟩:=aLT w.p f.HC hq hv;obtain⟨m,g⟩:=w.prog w1 k;obtain⟨h2,a,r2,l,c⟩:=aMn m f hq hv;refine⟨h1,h2,F',a,n,r2,w1.Df λi hi=>c.old i (w1.lt hi) (g i hi),l,λi e o=>?_⟩;rcases c.Bt i o with d|d
 .exact g i e d
 .have:=w1.lt e;omega
def aMo(s:ET)(hv:Br s.Az av)(hl:DU s.Az)(hn:s.name.length<=1000)(h:Ah):∃h' bi F,BH cx 23 [.agg (LZ s av)] h (Pt bi 0) h'/\RB h' bi s.b F/\DA h (λ_=>False) h' F:=by obtain⟨h',bi,a,o,c,t,G,r,w,hc,x⟩:=aMi h s hv hl hn;exact⟨h',bi,_,r,⟨a,o,c,t,G,w,hc,rfl⟩,x⟩
def uI(s:ET)(hv:Br s.Az av)(hl:DU s.Az)(hn:s.name.length<=1000)(h:Ah):∃h1 h2 bi wi F F2,BH cx 22 [.agg (LZ s av)] h (Pt bi 0) h1/\BH cx 23 [.agg (LZ s av)] h1 (Pt wi 0) h2/\TX h2 bi wi s.b F F2:=by
 obtain⟨h1,bi,F,e,w1,k⟩:=aLU s hv hl h;obtain⟨h2,wi,F2,r2,d,a⟩:=aMo s hv hl hn h1;refine⟨h1,h2,bi,wi,F,F2,e,r2,w1.Df λi hi=>a.old i (w1.lt hi) (λh=>h),d,λi g f=>?_⟩;rcases a.Bt i f with c|c
 .exact c
 .have:=w1.lt g;omega
end
def TY:∀{l:List QO} {b:BS} {j:Nat},QC b (j+l.length)->(∀x∈l,g_ x.q)->QC (M3 b l) j
 |[],_,_,f,_=>f
 |x::l,b,j,f,hq=>by rw[M3];exact TY (QC.do (j:=j+l.length) (f.le (by simp only[A9];omega)) (hq x AH)) λy hy=>hq y (by simp[hy])
def aMp(i:Item):AE (.geq true [.i,.i,.s,.b]) [.agg i.row,.agg i.row]=some (.bool false):=by rw[Rm];simp[Item.row,D5,Lx]
section
variable{h h':Ah}{bi wi:Nat}{b:BS}{F F2:Nat->Prop}{q:oF}{av:Aa}{j:Nat}
def f7w(s:ET)(hv:Br s.Az av)(hl:DU s.Az)(hn:s.name.length<=1000){l:List QO}{v:Aa}(ho:bB l v)(hb:l.length<=60)(hq:∀x∈l,g_ x.q)(h:Ah):
  ∃h' bi wi F F2,BH cx 16 [.agg (LZ s av),v] h (.tuple [Pt bi 0,Pt wi 0,tt]) h'/\TX h' bi wi (M3 s.b l) F F2:=by
 obtain⟨h1,h2,bi,wi,F,F2,f,r2,w0⟩:=uI s hv hl hn h;have Ji:Ev cx 16 [.agg (LZ s av),v] h λr h'=>r= .tuple [Pt bi 0,Pt wi 0,tt]/\∃F F2,TX h' bi wi (M3 s.b l) F F2:=by
  unfold Ev;have WH:av.cells=[av]:=AU.cells hv;have g:=AU.CL ho;rw[aBP];rw[LZ] at f r2⊢;simp only[abS,f.Ad,r2.Ad];refine Bf (λn:Nat=>[.ptr none,.ptr none,ff,I (n:Int)]) (λn h1=>n<=l.length/\∃F F2,TX h1 bi wi (M3 s.b (l.take n)) F F2) (λn=>l.length-n) 0 rfl ⟨AQ _,F,F2,w0⟩ ?_;rintro n z ⟨Na,u,t,a⟩;rcases AN n l.length with hlt|D6
  .have m:=AU.BJ (k:= .i64) ho hlt;have oP:QC (M3 s.b (l.take n)) (39+1):=(TY (j:=40) (l:=l.take n) (s.oP.le (by rw[As];omega)) λx hx=>hq x (Bm hx));obtain⟨y,w,p,o,e,d,i⟩:=Ī a oP (hq _ (AL hlt)) l[n].ok;have hr:LJ l[n].q l[n].v=l[n].row:=rfl;rw[hr] at e d;simp only[abS,g,(Ab:(n:Int)<(l.length:Int)),m,QO.CK,QO.HU,Ag,e.Ad,BK,d.Ad,aMp,BI (Ab:n<9223372036854775807)];exact AK.next (n+1) rfl ⟨hlt,p,o,by rw[AB hlt,Yy];exact i⟩ Ab
  .rw[AG D6] at a;simp only[abS,g,(Ab:¬(n:Int)<(l.length:Int))];exact⟨_,rfl,rfl,u,t,a⟩
 obtain⟨r,h',hr,rfl,F',c,w'⟩:=Ji.ret;exact⟨h',bi,wi,F',c,hr,w'⟩
def f8g{m:Nat}(w:TX h bi wi b F F2)(rm:B6 b m)(ok:EA b.a 0):∃u,BH cx 19 [Pt bi 0,Pt wi 0] h tt (h++u):=by
 obtain⟨a,o,c,t,G,wp,hc,e1⟩:=w.p;obtain⟨T,V,c1,f,N,E⟩:=aLS wp hc rm;have w1:=w.IA (u:=f);obtain⟨a',o',c',t',G',wr,KI,e2⟩:=w1.r;obtain⟨t2,U,c2,d,r2,D⟩:=aMj wr KI rm;have R:=w1.IA (u:=d);have Z:=rm.tm;have Y:=rm.AY;have X:=rm.A8;have W:=rm.n;have M:=f22 (E.Df (h':=h++f++d) λi _ hi=>Aj hi) D (Ab:b.tm.length<=1000000000) (show(b.AY.map Item.node).length<=1000000000 by rw[Ak];omega) (Ab:b.A8.length<=1000000000) (λe he=>by have:=(rm.DD e he).2.1;omega);have v:=(wp.IA (u:=f)).IA (u:=d);have s:=wr.IA (u:=d);have l0:=v.l0;have A:=s.l0;have B:∀x,(b.a.nd x).A6.length<=1000000000:=λx=>rm.Vd.A6 ok x;have ab:∀x,(b.a.nd x).Az.length<=1000000000:=λx=>by have:=rm.at_ x;omega
 obtain⟨n,m',ps,C⟩:=v.w.pa;obtain⟨n',Q,IN,g,_⟩:=s.w;obtain⟨S,l,K,P⟩:=aLY C rm.Vd B Ab;have L:=aKP C;have z:=aMk g Ab;have y:RA (h++f++d++l) a' n' Q IN b.a:=g.Df λj hj=>Aj (g.lt hj);obtain⟨v2,J,O⟩:=aMl y B ab Ab;have I:=f90 P.rd (O (h++f++d++l)) Ab (λx hx=>by obtain⟨k,hk,rfl⟩:=List.getElem_of_mem hx;have:=(uE hk).2;rw[<-this];exact⟨ab _,B _⟩)
 have H:BH cx 50 [Pt a 0,Pt a' 0] (h++f++d) tt (h++f++d++l):=by rw[Af,aBU];simp only[BC,L.Ad,z.Ad,Cw,Dp,K.Ad,J.Ad,I.Ad]
 refine⟨f++d++l,?_⟩;rw[Af,aBQ];rw[show h++(f++d++l)=h++f++d++l by simp only[AI]];simp only[abS,N.Ad,r2.Ad,M.Ad,l0,A,H.Ad]
end
structure HG where
 k:Int
 name:Ao
 hn:Bool
 Gi:Ao
 hp:Bool
 sys:Ao
 hs:Bool
 q:Bool
 Az:List A3
 sc:Bool
 data:Ao
 r:Int
namespace HG
def ok(t:HG):Prop:=1<=t.k/\t.k<=6
instance(t:HG):Decidable t.ok:=by unfold ok;infer_instance
def st(t:HG)(ws:List Ao):Prop:=t.k=2/\t.name∈ws
instance(t:HG)(ws:List Ao):Decidable (t.st ws):=by unfold st;infer_instance
def en(t:HG)(ws:List Ao):Prop:=t.k=3/\t.name∈ws
instance(t:HG)(ws:List Ao):Decidable (t.en ws):=by unfold en;infer_instance
def odd(t:HG)(ws:List Ao):Prop:=t.k=3/\t.name∉ws
instance(t:HG)(ws:List Ao):Decidable (t.odd ws):=by unfold odd;infer_instance
end HG
def YF(r:Int):Prop:=(9<=r/\r<=10)\/(12<=r/\r<=13)\/r=32
instance(r:Int):Decidable (YF r):=by unfold YF;infer_instance
namespace HG
def J4(t:HG):Prop:=t.k=5/\YF t.r
instance(t:HG):Decidable t.J4:=by unfold J4;infer_instance
end HG
def Zt(nm:Ao):HG:=⟨2,nm,false,[],false,[],false,false,[],false,[],0⟩
def eHB:List Ao:=[aTv,aTy,aSC,[98,114]]
namespace BS
def YG(b:BS)(t:HG):BS:=b.EG t.name t.Az 1
def YH(b:BS):BS:={b with a:=b.a.set b.Cf {b.a.nd b.Cf with Cq:=true}}
def PX(b:BS)(t:HG):BS:={b with a:=(b.a.add {kind:=3,Cf:=b.Cf,name:=t.name,Gi:=t.Gi,sys:=t.sys}).Fq b.Cf (b.a.len+1) 0}
def again(b:BS)(m:Int):BS×Bool:=({b with mode:=m},true)
def jn(b:BS):Prop:=0<=AR (By [Bc]) b.AY
instance(b:BS):Decidable b.jn:=by unfold jn;infer_instance
def Im(Cq:HG->Bool)(b:BS)(t:HG):BS×Bool:=
 if¬t.ok then(b,false)
 else if t.J4 then(b,false)
 else if t.k=4 then(b.FZ t.data b.Cf,false)
 else if t.k≠1 then b.YH.again 2
 else
  let b1:=b.PX t
  let b2:=if Cq t then b1.YH else b1
  ({b2 with mode:=2},false)
def EU(b:BS)(t:HG):BS×Bool:=
 if¬t.ok then(b,false)
 else if t.k=1 then(b,false)
 else if t.J4 then(b,false)
 else if t.odd eHB then(b,false)
 else if t.k=4 then(b.FZ t.data b.Cf,false)
 else if t.st [aSC] then({b.YG t with mode:=3},false)
 else(b.YG (Zt aSC)).again 3
end BS
structure Gz(b:BS)(n o a:Nat):Prop where
 ok:Eu b
 rm:B6 b n
 AY:b.AY.length<=o
 A8:b.A8.length<=a
structure HG.Sm(t:HG):Prop where
 name:t.name.length<=1000
 Az:DU t.Az
 data:t.data.length<=1000
 r: -2147483648<=t.r/\t.r<=2147483647
section
variable{b b':BS}{n n' o o' a a':Nat}{nm:Ao}{l:List A3}{t:HG}{sp:Int}
def Gz.le(g:Gz b n o a)(h1:n'<=n)(h2:o<=o')(c:a<=a'):Gz b n' o' a':=⟨g.ok,g.rm.le h1,Bu g.AY h2,Bu g.A8 c⟩
def Gz.ite{c:Prop}[Decidable c]{x y:BS×Bool}(h1:Gz x.1 n o a)(h2:Gz y.1 n o a):Gz (if c then x else y).1 n o a:=by split;exact h1;exact h2
def Gz.aHA{d c:Prop}[Decidable d][Decidable c]{x y:BS×Bool}(h1:Gz x.1 n o a)(h2:Gz y.1 n o a):Gz (if d then x else if c then x else y).1 n o a:= .ite h1 (.ite h1 h2)
def Gz.aMr{e d c:Prop}[Decidable e][Decidable d][Decidable c]{x y:BS×Bool}(h1:Gz x.1 n o a)(h2:Gz y.1 n o a):Gz (if e then x else if d then x else if c then x else y).1 n o a:= .ite h1 (.aHA h1 h2)
def Gz.aMs{f e d c:Prop}[Decidable f][Decidable e][Decidable d][Decidable c]{x y:BS×Bool}(h1:Gz x.1 n o a)(h2:Gz y.1 n o a):Gz (if f then x else if e then x else if d then x else if c then x else y).1 n o a:= .ite h1 (.aMr h1 h2)
def Gz.dn(g:Gz b n o a)(h:n'<=n):Gz b n' o a:=g.le h (Ag _) (Ag _)
def Gz.MN(g:Gz b (n+4) o a)(hl:DU l)(hn:nm.length<=1000):Gz (b.EG nm l sp) n (o+1) a:=by
 refine⟨PO g.ok,Lo g.rm hl hn,?_,by rw[Fh];exact g.A8⟩;have:=g.AY;unfold BS.EG;split
 .rename_i hs;have e:(b.Em nm l sp (b.place 0).1).AY=b.AY:=by unfold BS.Em;rw[Ae hs]
  simp only[e,Aw,Bi];omega
 .omega
def Gz.eq{c:BS}(g:Gz b n o a)(h1:c.a=b.a)(h2:c.Cf=b.Cf)(e:c.AY=b.AY)(d:c.A8=b.A8)(f:c.tm=b.tm):Gz c n o a:=
 ⟨g.ok.of_eq h1 h2 e d,g.rm.eq h1 e d f,by rw[e];exact g.AY,by rw[d];exact g.A8⟩
def Gz.FZ(g:Gz b (n+5) o a){s:Ao}(hs:s.length<=1000){p:Int}:Gz (b.FZ s p) n o a:=by
 refine⟨XW g.ok,?_,g.AY,g.A8⟩;unfold BS.FZ;split;.exact Ko g.rm Ab
 .exact Ko g.rm Ab
def Gz.YG(g:Gz b (n+4) o a)(ht:t.Sm):Gz (b.YG t) n (o+1) a:=g.MN ht.Az ht.name
def jX(h:nm.length<=1000):(Zt nm).Sm:=⟨h,⟨show([]:List A3).length<=1000 by decide,λa ha=>by cases ha⟩,(AX:([]:Ao).length<=1000),show(-2147483648:Int)<=0/\(0:Int)<=2147483647 by decide⟩
def Gz.YH(g:Gz b n o a):Gz b.YH n o a:=by have hd:=g.ok.Cf;have hk:=g.ok.ok.RH _ hd.1;refine⟨g.ok.I4 (rY g.ok.ok hd.1 ⟨hk.k,hk.A6,hk.elem,hk.nm,hk.dt,hk.data,λh=>absurd hd.2 h,hk.sp,hk.qe,hk.Cv,hk.SA,hk.OO,hk.root,hk.wK⟩ rfl rfl rfl ⟨(g.ok.ok.Cf _ hd.1).1,(g.ok.ok.Cf _ hd.1).2,g.ok.ok.Zl _ hd.1⟩ rfl rfl λc=>c) (XT rfl rfl rfl),g.rm.I4 (X0 rfl rfl),g.AY,g.A8⟩
def Gz.PX(g:Gz b (n+1) o a):Gz (b.PX t) n o a:=by
 have hd:=g.ok.Cf;have hx:rU {kind:=3,Cf:=b.Cf,name:=t.name,Gi:=t.Gi,sys:=t.sys}:=by constructor<;>simp[Cv,GA,YR]
 have QZ:=PK g.ok.ok hx (.inr ⟨AH,hd⟩) rfl rfl rfl rfl (λh=>absurd h.1 (AX:¬(3:Int)=4));refine⟨g.ok.I4 (Oo QZ) (TH.trans MW),?_,g.AY,g.A8⟩;exact(g.rm.IP (Kl (y:={kind:=3,Cf:=b.Cf,name:=t.name,Gi:=t.Gi,sys:=t.sys}) AH AH)).I4 I5
def Gz.Im{qk:HG->Bool}(g:Gz b (n+5) o a)(ht:t.Sm):Gz (b.Im qk t).1 n o a:=by
 have g0:Gz b n o a:=g.le Ab (Ag _) (Ag _);unfold BS.Im;refine .aHA g0 (.ite (g.FZ ht.data) (.ite (g0.YH.eq (c:={b.YH with mode:=2}) rfl rfl rfl rfl rfl) ?_));have g1:Gz (b.PX t) n o a:=(g.le (n':=n+1) Ab (Ag _) (Ag _)).PX;simp only;split;.exact g1.YH.eq rfl rfl rfl rfl rfl
 .exact g1.eq rfl rfl rfl rfl rfl
def Gz.EU(g:Gz b (n+5) o a)(ht:t.Sm):Gz (b.EU t).1 n (o+1) a:=by have d:Gz b (n+4) o a:=g.le Ab (Ag _) (Ag _);unfold BS.EU;exact .aMs (d.le Ab Ab (Ag _)) (.ite ((g.FZ ht.data).le (Ag _) Ab (Ag _)) (.ite ((d.YG ht).eq rfl rfl rfl rfl rfl) ((d.YG (jX (nm:=aSC) AX)).eq (c:={b.YG (Zt aSC) with mode:=3}) rfl rfl rfl rfl rfl)))
end
def vw(h:Ah)(F:Nat->Prop)(f:FuncId)(args:List Aa)(r:Aa)(bi:Nat)(b':BS):Prop:=∃h' F',BH cx f args h r h'/\PB h' bi b' F'/\DA h F h' F'
abbrev Dm(t:HG)(av:Aa):List Aa:=[I t.k,.str t.name,.bool t.hn,.str t.Gi,.bool t.hp,.str t.sys,.bool t.hs,.bool t.q,av,.bool t.sc,.str t.data,.int .i32 t.r]
section
variable{h h':Ah}{bi:Nat}{b b':BS}{F:Nat->Prop}{n o a:Nat}{t:HG}{av:Aa}
def oQ:NO t.name av (Dm t av):=⟨_,_,_,_,_,_,_,_,_,_,rfl⟩
def aAj(w:PB h bi b F)(g:Gz b (n+4) o a)(ht:t.Sm)(hv:Br t.Az av):vw h F 65 [Pt bi 0,.agg (Dm t av)] (I (b.OY 1)) bi (b.YG t):=by obtain⟨d,e,c,tt,G,w,hc,rfl⟩:=w;obtain⟨h',o',G',r,w',x⟩:=um (m:=n) w g.ok g.rm oQ hv ht.Az ht.name;exact⟨h',_,r,⟨d,o',c,tt,G',w',by unfold BS.YG;rw[Fh];exact hc,rfl⟩,x⟩
def bD(w:PB h bi b F)(g:Gz b (n+1) o a){s:Ao}(hs:s.length<=100000)(x:Int):vw h F 70 [Pt bi 0,.str s,I x] (.tuple []) bi (b.FZ s x):=by obtain⟨e,d,c,tt,G,w,hc,rfl⟩:=w;obtain⟨h',G',r,w',x⟩:=aGj (m:=n) w g.ok g.rm s hs x;exact⟨h',_,r,⟨e,d,c,tt,G',w',hc,rfl⟩,x⟩
def PB.Mc(w:PB h bi b F):∃x,Bd h none (Pt bi 0)=some (Pt x 0):=by obtain⟨d,e,c,tt,G,w,hc,rfl⟩:=w;exact⟨d,w.l0⟩
def PB.YI(w:PB h bi b F):Bd h none (Pt bi 1)=some (I b.Cf)/\Bd h none (Pt bi 4)=some (I b.mode)/\Bd h none (Pt bi 5)=some (I b.SB)/\Bd h none (Pt bi 7)=some (I b.head)/\Bd h none (Pt bi 8)=some (I b.NJ)/\Bd h none (Pt bi 14)=some (.bool b.fs)/\Bd h none (Pt bi 18)=some (I b.sw)/\Bd h none (Pt bi 19)=some (.bool b.stop):=by obtain⟨e,d,c,tt,G,w,hc,rfl⟩:=w;exact⟨w.ld 1,w.ld 4,w.ld 5,w.ld 7,w.ld 8,w.ld 14,w.ld 18,w.ld 19⟩
def Wr(h:Ah)(F:Nat->Prop)(bi k:Nat)(v:Aa)(b':BS):Prop:=Cx h 1 (Pt bi k) v=some (put h bi k v)/\PB (put h bi k v) bi b' F/\DA h F (put h bi k v) F
def jY(w:PB h bi b F)(v:Int):Wr h F bi 4 (I v) {b with mode:=v}:=by obtain⟨e,d,c,tt,G,w,hc,rfl⟩:=w;exact⟨w.st (k:=4) rfl rfl,⟨e,d,c,tt,G,w.put rfl rfl w.o w.t,hc,rfl⟩,Bp⟩
end
def NS(c:UInt8):Bool:=decide ((9<=c.toNat/\c.toNat<=13)\/c.toNat=32)
def wf:Ao->Ao->List Ao
 |cur,[]=>if cur=[] then[] else[cur]
 |cur,c::r=>if NS c then(if cur=[] then wf [] r else cur::wf [] r) else wf (cur++[c]) r
def jZ:Bool->Ao->Nat
 |_,[]=>0
 |w,c::r=>(if w&& !NS c then 1 else 0)+jZ (NS c) r
def ao(b:Bool):Int:=if b then 1 else 0
def TZ:∀{s cur:Ao},(wf cur s).length=(if cur=[] then 0 else 1)+jZ (decide (cur=[])) s
 |[],cur=>by unfold wf jZ;split<;>simp_all
 |c::r,cur=>by
  unfold wf jZ;by_cases hc:NS c=true
  .by_cases h0:cur=[];.simp[hc,h0,TZ (s:=r) (cur:=[])]
   .simp[hc,h0,TZ (s:=r) (cur:=[])];omega
  .have KI:NS c=false:=by simpa using hc
   by_cases h0:cur=[];.simp[KI,h0,TZ (s:=r) (cur:=[c])]
   .simp[KI,h0,TZ (s:=r) (cur:=cur++[c])]
def aq:∀{s cur:Ao},(wf cur s).length<=s.length+1
 |[],cur=>by unfold wf;split<;>simp
 |c::r,cur=>by
  unfold wf;have h1:=aq (s:=r) (cur:=[]);have h2:=aq (s:=r) (cur:=cur++[c]);split;.split<;>simp only[A9]<;>omega
  .simp only[A9];omega
def au{c:UInt8}(k:Option Nat)(hk:k=none){h:Ah}:∃v,AE (.T2 256 1) [.CG He,.int .u8 (c.toNat:Int)]=some v/\Bd h k v=some (.int .u8 (ao (NS c))):=by
 subst hk;have key:∀n:Nat,n<256->He[n]?=some (.int .u8 (ao (decide ((9<=n/\n<=13)\/n=32)))):=by intro n hn;have h1:∀n,n<256->Nx[n]?=some (ao (decide ((9<=n/\n<=13)\/n=32))):=EF;rw[He,Cl,h1 n hn];rfl
 have hc:=c.toNat_lt;have hi:L8 (c.toNat:Int) 256=some c.toNat:=by unfold L8;rw[Ae Ab];rfl
 refine⟨.CG (He.drop (c.toNat*1)),by simp[AE,hi,Wi],?_⟩;rw[Xv,E7,Cr,FE,Bs,key _ hc];rfl
def aCU{s c:Nat}(hs:s<128)(hc:c<128):∃n:Nat,n<128/\AE (.int .or) [.int .u8 (s:Int),.int .u8 (c:Int)]=some (.int .u8 (n:Int)):=by
 have key:∀s:Nat,s<128->∀c:Nat,c<128->(match AE (.int .or) [.int .u8 (s:Int),.int .u8 (c:Int)] with|some (.int .u8 n)=>decide (0<=n/\n<128)|_=>false)=true:=EF;have h1:=key s hs c hc;split at h1;.rename_i n hv;have:=HZ h1;exact⟨n.toNat,Ab,by rw[hv,GW this.1]⟩
 .cases h1
def aCV(w i:Bool):∃v,AE (.un .xor) [I (ao i)]=some v/\AE (.int .and) [I (ao w),v]=some (I (if w&& !i then 1 else 0)):=by cases w<;>cases i<;>exact⟨_,rfl,rfl⟩
def aCW(i:Bool):IntKind.i64.wrap (ao i)=ao i:=by cases i<;>rfl
def aw{U:Type}(l:List U)(x y:U)(r:List U){k:Nat}(hk:k=l.length):(l++y::r).take k++[x]++(l++y::r).drop (k+1)=l++x::r:=by subst hk;simp
def aHB(s:Ao)(hs:s.length<=1000000)(ha:∀c∈s,c.toNat<128)(h:Ah):BH cx 410 [.str s] h (.sl 1 ((wf [] s).map BZ)) (h++[.CO]):=by
 have kD:AM=140737488355328:=rfl;have O:=aq (s:=s) (cur:=[]);obtain⟨N,hNe⟩:∃N,N=(wf [] s).length:=⟨_,rfl⟩;rw[Af,iX,aFg];refine DP (i:=0) (λz:Nat×Bool×Nat×Nat=>[I (z.1:Int),I (ao z.2.1),.int .u8 (z.2.2.1:Int),I (z.2.2.2:Int)]) (λz h1=>h1=h/\z.2.2.2<=s.length/\z.2.2.1<128/\z.1+jZ z.2.1 (s.drop z.2.2.2)=jZ true s) (λz=>s.length-z.2.2.2) (λz h1=>h1=h/\z.2.2.1<128/\z.1=N) (0,true,0,0) rfl ⟨rfl,AQ _,AX,AH⟩ ?_ ?_
 .rintro⟨n,w,bits,i⟩ h1 ⟨rfl,hi,hb,hn⟩;simp only at hi hb hn;rcases AN i s.length with hlt|D6
  .obtain⟨bits',Q9,y⟩:=aCU hb (ha _ (AL hlt));obtain⟨v,J,H⟩:=au (c:=s[i]) none rfl (h:=h1);obtain⟨v2,p,d⟩:=aCV w (NS s[i]);have M:jZ true s<=s.length+1:=by have:=TZ (s:=s) (cur:=[]);simp at this;omega
   rw[AF hlt,jZ] at hn;have u:=Oj (a:=(n:Int)) (b:=if w&& !NS s[i] then 1 else 0) (by split<;>omega) (by split<;>omega);have t:((n:Int)+if(w&& !NS s[i])=true then 1 else 0)=((n+if(w&& !NS s[i])=true then 1 else 0:Nat):Int):=by split<;>simp
   simp only[abS,(Ab:(i:Int)<(s.length:Int)),Fw hlt,y,J,H,Qf,aCW,p,d,u,t,BI (Ab:i<9223372036854775807)];exact .next (_,NS s[i],bits',i+1) rfl ⟨rfl,hlt,Q9,Dq⟩ Dq
  .simp only[abS,(Ab:¬(i:Int)<(s.length:Int))];refine .HC (n,w,bits,i) rfl ⟨rfl,hb,?_⟩;rw[AO D6,jZ] at hn;have:=TZ (s:=s) (cur:=[]);simp at this;simp only;omega
 rintro⟨n,w,bits,i⟩ h1 ⟨rfl,hb,hn⟩;simp only at hb hn;subst hn;have y:RO h1 1 16 [S []] (I (n:Int)) (I (n:Int))=some (h1++[.cells (List.replicate n [S []]).flatten],.CE h1.length 0 n 1):=by simp only[RO];rw[Ae ⟨Ab,Ab,Ee,rfl⟩];simp
 have J:(List.replicate n [S []]).flatten=List.replicate n (S []):=by
  clear y hNe O;induction n with
  |zero=>rfl
  |succ n ih=>rw[KS,CT,ih];rfl
 rw[J] at y;have H:¬(128:Int)<=(bits:Int):=Ab;simp only[abS,H];refine pK y ?_;refine DP (i:=2) (λi:Nat=>[I (i:Int)]) (λi h2=>h2=h1++[.cells (List.replicate n (S []))]/\i<=s.length/\wf [] s=wf [] (s.drop i)) (λi=>s.length-i) (λi h2=>h2=h1++[.cells (List.replicate n (S []))]/\i<=s.length/\wf [] s=wf [] (s.drop i)/\∀hi:i<s.length,NS s[i]=false) 0 rfl ⟨rfl,AQ _,rfl⟩ ?_ ?_
 .rintro i h2 ⟨rfl,hi,hw⟩;rcases AN i s.length with hlt|D6
  .obtain⟨v,p,d⟩:=au (c:=s[i]) none rfl (h:=h1++[.cells (List.replicate n (S []))]);cases hsp:NS s[i] with
   |true=>rw[hsp] at d;simp only[abS,(Ab:(i:Int)<(s.length:Int)),Fw hlt,p,d,ao,↓reduceIte,(AX:(1:Int)≠0),BW,BI (Ab:i<9223372036854775807)];rw[AF hlt,wf,hsp] at hw;exact .next (i+1) rfl ⟨rfl,hlt,by simpa using hw⟩ Ab
   |false=>rw[hsp] at d;simp only[abS,(Ab:(i:Int)<(s.length:Int)),Fw hlt,p,d,ao,Cy,↓reduceIte,BW];exact .HC i rfl ⟨rfl,hi,hw,λ_=>hsp⟩
  .simp only[abS,(Ab:¬(i:Int)<(s.length:Int))];exact .HC i rfl ⟨rfl,hi,hw,λh=>absurd h Ab⟩
 rintro i0 h2 ⟨rfl,tL,C,jh⟩;simp only[BC];refine DP (i:=4) (λz:List Ao×Nat×Nat=>[I (z.1.length:Int),I (z.2.1:Int),I (z.2.2:Int)]) (λz h2=>h2=h1++[.cells (z.1.map Aa.str++List.replicate (n-z.1.length) (S []))]/\z.2.1<=z.2.2/\z.2.2<=s.length/\z.1++wf ((s.take z.2.2).drop z.2.1) (s.drop z.2.2)=wf [] s/\(z.2.1=z.2.2->∀hi:z.2.2<s.length,NS s[z.2.2]=false)) (λz=>s.length-z.2.2)
  (λz h2=>h2=h1++[.cells (z.1.map Aa.str++List.replicate (n-z.1.length) (S []))]/\z.2.1<=s.length/\z.1++wf (s.drop z.2.1) []=wf [] s) ([],i0,i0) rfl ⟨AH,Ag _,tL,by simp[C,OQ],λ_=>jh⟩ ?_ ?_
 .rintro⟨dn,f,i⟩ h2 ⟨rfl,hf,hi,hw,hz⟩;simp only at hf hi hw hz;have o9:dn.length<=n:=by rw[hNe,<-hw,Aw];omega
  rcases AN i s.length with hlt|D6
  .obtain⟨v,p,d⟩:=au (c:=s[i]) none rfl (h:=h1++[.cells (dn.map Aa.str++List.replicate (n-dn.length) (S []))]);rw[AF hlt] at hw;cases hsp:NS s[i] with
   |false=>
    rw[hsp] at d;simp only[abS,(Ab:(i:Int)<(s.length:Int)),Fw hlt,p,d,ao,Cy,↓reduceIte,BI (Ab:i<9223372036854775807)];rw[wf,hsp] at hw;refine .next (dn,f,i+1) rfl ⟨rfl,Dq,hlt,?_,λe=>by simp only at e;omega⟩ Dq
    simp only
    rw[Xz hf hlt];simpa using hw
   |true=>
    rw[hsp] at d;have Ć:f<i:=by
     rcases AN f i with h|h
     .exact h
     .have:=hz Ab hlt;rw[hsp] at this;cases this
    have aMt:(s.take i).drop f≠[]:=by intro e;have:=Cb List.length e;simp at this;omega
    rw[wf,hsp] at hw;simp only[BL,aMt,Ea] at hw;have m:dn.length<n:=by rw[hNe,<-hw];simp
    have u:AE (.E2 1) [.CE h1.length 0 n 1,I (dn.length:Int)]=some (Pt h1.length dn.length):=by have:=EX (id:=h1.length) (z:=1) (n:=n) (k:= .i64) m;rwa [FE] at this
    have hcl:(dn.map Aa.str++List.replicate (n-dn.length) (S [])).length=n:=Ee;have t:Cx (h1++[.cells (dn.map Aa.str++List.replicate (n-dn.length) (S []))]) 1 (Pt h1.length dn.length) (.str ((s.take i).drop f))=some (h1++[.cells ((dn++[(s.take i).drop f]).map Aa.str++List.replicate (n-(dn++[(s.take i).drop f]).length) (S []))]):=by have F:(h1++[Dw.cells (dn.map Aa.str++List.replicate (n-dn.length) (S []))])[h1.length]?=some (.cells (dn.map Aa.str++List.replicate (n-dn.length) (S []))):=AH;simp only[Cx,F,Qh,Bi];rw[Ae ⟨trivial,by rw[hcl];omega⟩,BM _ _ (Ag _),C6];have E:n-dn.length=(n-(dn.length+1))+1:=Ab;have D:(dn.map Aa.str).length=dn.length:=Ak ..;simp only[P1,BF,Bk,CW,Aw,Bi];rw[E,KS,aw _ _ _ _ D.symm];simp
    simp only[abS,(Ab:(i:Int)<(s.length:Int)),Fw hlt,p,d,ao,↓reduceIte,(AX:¬(1:Int)=0),Mj (z:=0) (k:= .i64) (l:= .i64) (Ab:f<=i) hi,u,t,BI (Ab:dn.length<9223372036854775807),BI (Ab:i<9223372036854775807)];refine DP (i:=6) (λj:Nat=>[I (j:Int)]) (λj h2=>h2=h1++[.cells ((dn++[(s.take i).drop f]).map Aa.str++List.replicate (n-(dn++[(s.take i).drop f]).length) (S []))]/\i<j/\j<=s.length/\wf [] (s.drop (i+1))=wf [] (s.drop j)) (λj=>s.length-j) (λj h2=>h2=h1++[.cells ((dn++[(s.take i).drop f]).map Aa.str++List.replicate (n-(dn++[(s.take i).drop f]).length) (S []))]/\i<j/\j<=s.length/\wf [] (s.drop (i+1))=wf [] (s.drop j)/\∀hj:j<s.length,NS s[j]=false) (i+1) rfl ⟨rfl,Ab,hlt,rfl⟩ ?_ ?_
    .rintro j h2 ⟨rfl,o,hj,qP⟩;rcases AN j s.length with ZP|L
     .obtain⟨v,K,A⟩:=au (c:=s[j]) none rfl (h:=h1++[.cells ((dn++[(s.take i).drop f]).map Aa.str++List.replicate (n-(dn++[(s.take i).drop f]).length) (S []))]);cases g:NS s[j] with
      |true=>rw[g] at A;simp only[abS,(Ab:(j:Int)<(s.length:Int)),Fw ZP,K,A,ao,↓reduceIte,(AX:(1:Int)≠0),BW,BI (Ab:j<9223372036854775807)];rw[AF ZP,wf,g] at qP;exact .next (j+1) rfl ⟨rfl,Ab,ZP,by simpa using qP⟩ Ab
      |false=>rw[g] at A;simp only[abS,(Ab:(j:Int)<(s.length:Int)),Fw ZP,K,A,ao,Cy,↓reduceIte,BW];exact .HC j rfl ⟨rfl,o,hj,qP,λ_=>g⟩
     .simp only[abS,(Ab:¬(j:Int)<(s.length:Int))];exact .HC j rfl ⟨rfl,o,hj,qP,λh=>absurd h Ab⟩
    .rintro j h2 ⟨rfl,o,hj,qP,B⟩;simp only[BC,↓reduceIte];refine .next (dn++[(s.take i).drop f],j,j) AH ⟨rfl,Ag _,hj,?_,λ_=>B⟩ Dq
     simp only[OQ];rw[<-qP,AI];exact hw
  .simp only[abS,(Ab:¬(i:Int)<(s.length:Int))];have hie:i=s.length:=Ab;refine .HC (dn,f,i) rfl ⟨rfl,Dq,?_⟩;simp only
   rw[AO D6,hie,Bv] at hw;exact hw
 .rintro⟨dn,f,i⟩ h2 ⟨rfl,hf,hw⟩;simp only at hf hw;have fz:∀l:List Ao,l=wf [] s->Kw (h1++[.cells (l.map Aa.str)]) (.CE h1.length 0 n 1)=some (h1++[.CO],.sl 1 ((wf [] s).map BZ)):=by
   rintro l rfl;have hr:∀r∈(wf [] s).map BZ,r.length=1:=λr hr=>by obtain⟨w,_,rfl⟩:=Bj.1 hr;rfl
   have P:((wf [] s).map BZ).flatten=(wf [] s).map Aa.str:=by
    generalize wf [] s=q;induction q with
    |nil=>rfl
    |cons x q ih=>simp[BZ,ih]
   have:=J0 (h:=h1++[.cells ((wf [] s).map Aa.str)]) (id:=h1.length) hr (by rw[P];simp);rw[Ak,<-hNe] at this;rw[this,BM _ _ (Ag _),C6];rfl
  rcases AN f s.length with hlt|D6
  .have hne:s.drop f≠[]:=by intro e;have:=Cb List.length e;simp at this;omega
   rw[wf,Ac hne] at hw;have m:n=dn.length+1:=by rw[hNe,<-hw];simp
   have u:AE (.E2 1) [.CE h1.length 0 n 1,I (dn.length:Int)]=some (Pt h1.length dn.length):=by have:=EX (id:=h1.length) (z:=1) (n:=n) (k:= .i64) (Ab:dn.length<n);rwa [FE] at this
   have t:Cx (h1++[.cells (dn.map Aa.str++List.replicate (n-dn.length) (S []))]) 1 (Pt h1.length dn.length) (.str (s.drop f))=some (h1++[.cells ((dn++[s.drop f]).map Aa.str)]):=by have F:(h1++[Dw.cells (dn.map Aa.str++List.replicate (n-dn.length) (S []))])[h1.length]?=some (.cells (dn.map Aa.str++List.replicate (n-dn.length) (S []))):=AH;have E:n-dn.length=1:=Ab;have D:(dn.map Aa.str).length=dn.length:=Ak ..;simp only[Cx,F,Qh,Bi];rw[Ae ⟨trivial,Ee⟩,BM _ _ (Ag _),C6,E,show List.replicate 1 (S [])=S []::[] from rfl,aw _ _ _ _ D.symm];simp
   simp only[abS,(Ab:(f:Int)<(s.length:Int)),Tv (z:=0) (k:= .i64) (Ab:f<=s.length),u,t,fz _ hw]
  .rw[AO D6,wf] at hw;simp only[BL,BE] at hw;have m:n-dn.length=0:=by rw[hNe,<-hw];omega
   have G:=fz _ hw;rw[m,List.replicate_zero,BE];simp only[abS,(Ab:¬(f:Int)<(s.length:Int)),G]
section
variable{h h':Ah}{bi:Nat}{b b':BS}{F:Nat->Prop}{n o a:Nat}{t:HG}{av:Aa}
def aHC(lo hi r:Int)(h:Ah):BH cx 414 [.int .i32 r,.CG [.int .i32 lo],.CG [.int .i32 hi]] h (.bool (decide (lo<=r/\r<=hi))) h:=by rw[Af,Wa];simp only[BC];refine⟨λh1=>by simp[h1],λh1=>by simp[h1]⟩
def UJ(p:Int×Int):List Aa:=[.func (.func 414) [] [.CG [.int .i32 p.1],.CG [.int .i32 p.2]]]
def aHD{L:List (Int×Int)}(g:L.length<=1000)(r:Int)(h:Ah):BH cx 413 [.int .i32 r,.CG [.sl 1 (L.map UJ)]] h (.bool (L.any λp=>decide (p.1<=r/\r<=p.2))) h:=by
 have hv:AU 1 (L.map UJ) (.sl 1 (L.map UJ)):= .mk;have e:=AU.CL hv;rw[Af,iY];simp only[BC,e];refine Bf (λn:Nat=>[ff,I (n:Int)]) (λn h1=>n<=L.length/\h1=h/\L.any (λp=>decide (p.1<=r/\r<=p.2))=(L.drop n).any λp=>decide (p.1<=r/\r<=p.2)) (λn=>L.length-n) 0 rfl ⟨AQ _,rfl,rfl⟩ ?_;rintro n h1 ⟨hn,rfl,ha⟩;rcases AN n L.length with hlt|D6
 .have c:=AU.BJ (k:= .i64) hv hlt;have f:∀x y:Int,Di (.func (.func 414) [] [.CG [.int .i32 x],.CG [.int .i32 y]]) [.int .i32 r]=some (414,[.int .i32 r,.CG [.int .i32 x],.CG [.int .i32 y]]):=λ_ _=>rfl;have d:=aHC L[n].1 L[n].2 r h1;rw[AF hlt,JH] at ha;rw[UJ] at c;simp only[abS,(Ab:(n:Int)<(L.length:Int)),c,f,d.Ad,BI (Ab:n<9223372036854775807)];refine⟨λh2=>?_,λh2=>?_⟩;.rw[ha];simp[h2]
  .rw[Ay h2,EV] at ha;exact AK.next (n+1) rfl ⟨hlt,rfl,ha⟩ Ab
 .rw[AO D6] at ha;simp only[abS,(Ab:¬(n:Int)<(L.length:Int)),ha,MH]
def aMv(r:Int):Jj cx 233 [.int .i32 r] (.bool (decide (YF r))):=by
 have d:∀(lo hi:Int) (h:Ah),BH cx 361 [.int .i32 lo,.int .i32 hi] h (.func (.func 414) [] [.CG [.int .i32 lo],.CG [.int .i32 hi]]) h:=λlo hi h=>by rw[Af,SK];simp only[BC]
 have g:∀(v:Aa) (h:Ah),v.cells=[v]->BH cx 360 [v] h (.func (.func 413) [] [.CG [v]]) h:=λv h hv=>by rw[Af,V4];simp only[BC,hv]
 have e:=aHD (L:=[(9,10),(12,13),(32,32)]) AX r [];have c:AE (.Dh 1) [.func (.func 414) [] [.CG [.int .i32 9],.CG [.int .i32 10]],.func (.func 414) [] [.CG [.int .i32 12],.CG [.int .i32 13]],.func (.func 414) [] [.CG [.int .i32 32],.CG [.int .i32 32]]]=some (.sl 1 ([((9:Int),(10:Int)),(12,13),(32,32)].map UJ)):=rfl;have f:∀v:Aa,Di (.func (.func 413) [] [v]) [.int .i32 r]=some (413,[.int .i32 r,v]):=λ_=>rfl;have r2:=g (.sl 1 ([((9:Int),(10:Int)),(12,13),(32,32)].map UJ)) [] rfl;have e0:decide (YF r)=([((9:Int),(10:Int)),(12,13),(32,32)].any λp=>decide (p.1<=r/\r<=p.2)):=by
  have c:YF r↔((9<=r/\r<=10)\/(12<=r/\r<=13)\/(32<=r/\r<=32)):=by unfold YF;omega
  simp only[JH,MH,JF,<-Bool.decide_or,C5];exact c
 rw[e0,Lk,VU];simp only[BC,(d 9 10 []).Ad,(d 12 13 []).Ad,(d 32 32 []).Ad,c,r2.Ad,f,e.Ad]
structure vy(l:Ao)(ws:List Ao):Prop where
 len:l.length<=1000000
 asc:∀c∈l,c.toNat<128
 wf:wf [] l=ws
def mkW{l:Ao}{ws:List Ao}(h:(decide (l.length<=1000000)&&l.all (λc=>decide (c.toNat<128))&&decide (wf [] l=ws))=true):vy l ws:=by simp only[Bq,Cz,Dv] at h;exact⟨h.1.1,h.1.2,h.2⟩
def vy.few{l:Ao}{ws:List Ao}(w:vy l ws):ws.length<=1000001:=by have:=aq (s:=l) (cur:=[]);have:=w.len;rw[<-w.wf];omega
def aCX{l:Ao}{ws:List Ao}(w:vy l ws)(h:Ah):BH cx 368 [.str l] h (.sl 1 (ws.map BZ)) (h++[.CO]):=by have c:=aHB l w.len w.asc h;rw[w.wf] at c;rw[Af,iM];simp only[BC,c.Ad]
def aHE{l:Ao}{ws:List Ao}(w:vy l ws)(s:Ao):Jj cx 243 [.str s,.str l] (.bool (decide (s∈ws))):=by have c:BH cx 368 _ [] _ [.CO]:=aCX w [];have r2:=ă (C0 (ws:=ws)) (by have:=w.few;omega) s [Dw.CO];rw[Lk,VX];simp only[BC,c.Ad,r2.Ad]
def aHF{l:Ao}{ws:List Ao}(w:vy l ws)(t:HG)(av:Aa)(h:Ah):BH cx 114 [.agg (Dm t av),.str l] h (.bool (decide (t.st ws))) h:=by
 rw[Af,eJ];simp only[BC,(aHE w t.name).BV rfl rfl];refine⟨λh1=>?_,λh1=>?_⟩;.congr 2;unfold HG.st;simp[h1]
 .unfold HG.st;simp[h1]
def aHG{l:Ao}{ws:List Ao}(w:vy l ws)(t:HG)(av:Aa)(h:Ah):BH cx 113 [.agg (Dm t av),.str l] h (.bool (decide (t.odd ws))) h:=by
 rw[Af,eI];simp only[BC,(aHE w t.name).BV rfl rfl];refine⟨λh1=>?_,λh1=>?_⟩;.congr 2;unfold HG.odd;simp[h1]
 .unfold HG.odd;simp[h1]
def ī(t:HG)(av:Aa)(h:Ah):BH cx 107 [.agg (Dm t av)] h (.bool (decide t.J4)) h:=by
 rw[Af,eC];simp only[BC,(aMv t.r).BV rfl rfl];refine⟨λh1=>?_,λh1=>?_⟩;.congr 2;unfold HG.J4;simp[h1]
 .unfold HG.J4;simp[h1]
def Ĭ(w:PB h bi b F)(t:HG)(av:Aa):BH cx 105 [Pt bi 0,.agg (Dm t av)] h (.bool (decide t.ok)) h:=by
 obtain⟨x,l0⟩:=w.Mc;rw[Af,eB];simp only[abS,l0];refine⟨λh1=>?_,λh1=>?_⟩;.congr 2;unfold HG.ok;simp[h1]
 .unfold HG.ok;simp[h1]
def aMw(nm:Ao)(h:Ah):BH cx 115 [.str nm] h (.agg (Dm (Zt nm) .slnil)) h:=by rw[Af,eK];simp only[abS,Nat.reduceLeDiff,↓reduceIte,AP,Zt]
def aHH(w:PB h bi b F)(m:Int):vw h F 109 [Pt bi 0,I m] tt bi (b.again m).1:=by obtain⟨d,w1,c⟩:=jY w m;refine⟨_,_,?_,w1,c⟩;rw[Af,eE];simp only[BC,d]
end
def vz:vy aSP eHB:=mkW EF
def oR:vy aSC [aSC]:=mkW EF
section
variable{h h':Ah}{bi:Nat}{b b':BS}{F:Nat->Prop}{n o a:Nat}{t:HG}{av:Aa}
def aMx(w:PB h bi b F)(g:Gz b (n+5) o a)(ht:t.Sm)(hv:Br t.Az av):vw h F 29 [Pt bi 0,.agg (Dm t av)] (.bool (b.EU t).2) bi (b.EU t).1:=by
 have YI:=w.YI;unfold BS.EU;by_cases u:¬t.ok;.rw[Ae u];have c:=Ĭ w t av;rw[Ay u] at c;refine⟨_,_,?_,w,.refl⟩;rw[Af,Ou];simp only[abS,↓reduceIte,c.Ad]
 rw[Ac u];have c:=Ĭ w t av;rw[AA (aOs.1 u)] at c;by_cases e:t.k=1;.rw[Ae e];refine⟨_,_,?_,w,.refl⟩;rw[Af,Ou];simp only[abS,↓reduceIte,c.Ad,AW e]
 rw[Ac e];by_cases r:t.J4;.rw[Ae r];have d:=ī t av h;rw[AA r] at d;refine⟨_,_,?_,w,.refl⟩;rw[Af,Ou];simp only[abS,↓reduceIte,c.Ad,d.Ad,e]
 rw[Ac r];have d:=ī t av h;rw[Ay r] at d;by_cases q:t.odd eHB;.rw[Ae q];have f:=aHG vz t av h;rw[AA q] at f;refine⟨_,_,?_,w,.refl⟩;rw[Af,Ou];simp only[abS,↓reduceIte,c.Ad,d.Ad,f.Ad,e]
 rw[Ac q];have f:=aHG vz t av h;rw[Ay q] at f;by_cases m:t.k=4;.rw[Ae m];obtain⟨h1,y,i,w1,j⟩:=bD (s:=t.data) w (g.dn (n':=n+1) Ab) (by have:=ht.data;omega) b.Cf;refine⟨_,_,?_,w1,j⟩;rw[Af,Ou];simp only[abS,↓reduceIte,c.Ad,d.Ad,f.Ad,e,AW m,i.Ad,YI]
 rw[Ac m];by_cases p:t.st [aSC];.rw[Ae p];have l:=aHF oR t av h;rw[AA p] at l;obtain⟨h1,y,i,w1,j⟩:=aAj w (g.dn (n':=n+4) Ab) ht hv;obtain⟨z,x,v⟩:=jY w1 3;refine⟨_,_,?_,x,j.trans v⟩;rw[Af,Ou];simp only[abS,↓reduceIte,c.Ad,d.Ad,f.Ad,l.Ad,e,m,i.Ad,z]
 rw[Ac p];have l:=aHF oR t av h;rw[Ay p] at l;have rt:=aMw aSC h;obtain⟨h1,y,i,w1,j⟩:=aAj (t:=Zt aSC) (av:= .slnil) w (g.dn (n':=n+4) Ab) (jX AX) (.inr ⟨rfl,rfl⟩);obtain⟨h2,F2,r2,x,v⟩:=aHH w1 3;simp only[Zt] at rt i;refine⟨_,_,?_,x,j.trans v⟩;rw[Af,Ou];simp only[abS,↓reduceIte,c.Ad,d.Ad,f.Ad,l.Ad,e,m,rt.Ad,i.Ad,r2.Ad,BS.again]
end
def Zu(h:Ah)(F:Nat->Prop)(f:FuncId)(args:List Aa)(r:Aa)(bi:Nat)(b':BS):Prop:=∃h' F',BH cx f args h r h'/\RB h' bi b' F'/\DA h F h' F'
def WrR(h:Ah)(F:Nat->Prop)(bi k:Nat)(v:Aa)(b':BS):Prop:=Cx h 1 (.ptr (some (bi,k))) v=some (put h bi k v)/\RB (put h bi k v) bi b' F/\DA h F (put h bi k v) F
section
variable{h h':Ah}{bi:Nat}{b b':BS}{F:Nat->Prop}{n o a:Nat}{t:HG}{av:Aa}
def aAk(w:RB h bi b F)(g:Gz b (n+4) o a)(hm:Nm b.a)(ht:t.Sm)(hv:Br t.Az av):Zu h F 86 [.ptr (some (bi,0)),.agg (Dm t av)] (.int .i64 (b.a.len+1)) bi (b.YG t):=by obtain⟨d,e,c,tt,G,w,hc,rfl⟩:=w;obtain⟨h',o',G',r,w',x⟩:=vp (m:=n) w g.ok g.rm hm oQ hv ht.Az ht.name;exact⟨h',_,r,⟨d,o',c,tt,G',w',by unfold BS.YG;rw[Fh];exact hc,rfl⟩,x⟩
def bE(w:RB h bi b F)(g:Gz b (n+1) o a)(hm:Nm b.a){s:Ao}(hs:s.length<=100000)(x:Int):Zu h F 90 [.ptr (some (bi,0)),.str s,.int .i64 x] (.tuple []) bi (b.FZ s x):=by obtain⟨e,d,c,tt,G,w,hc,rfl⟩:=w;obtain⟨h',G',r,w',x⟩:=aHl (m:=n) w g.ok g.rm hm s hs x;exact⟨h',_,r,⟨e,d,c,tt,G',w',hc,rfl⟩,x⟩
def YJ(w:RB h bi b F)(v:Int):WrR h F bi 4 (.int .i64 v) {b with mode:=v}:=by obtain⟨e,d,c,tt,G,w,hc,rfl⟩:=w;exact⟨w.st (k:=4) rfl rfl,⟨e,d,c,tt,G,w.put rfl rfl w.o w.t,hc,rfl⟩,Bp⟩
def RB.YI(w:RB h bi b F):Bd h none (.ptr (some (bi,1)))=some (.int .i64 b.Cf)/\Bd h none (.ptr (some (bi,4)))=some (.int .i64 b.mode)/\Bd h none (.ptr (some (bi,5)))=some (.int .i64 b.SB)/\Bd h none (.ptr (some (bi,7)))=some (.int .i64 b.head):=by obtain⟨e,d,c,tt,G,w,hc,rfl⟩:=w;exact⟨w.ld 1,w.ld 4,w.ld 5,w.ld 7⟩
end
end Go.Am
end
section
end
