/- Lemmas -/
import Derived.Test.YtlcmmpgfafpoiaaGreatDoorT27
set_option linter.all false
noncomputable section
set_option maxHeartbeats 0
set_option maxRecDepth 100000
section
namespace Go.Am
open Go
def Vg{nm:An}:∀{r:List Cc} {j:Nat},P0 nm r=(j:Int)->∃hj:j<r.reverse.length,r.reverse[j].node≠0
 |[],j,e=>by rw[P0] at e;omega
 |x::r,j,e=>by
  rw[P0] at e;split at e;.omega
  .rename_i h0;split at e
   .have d:j=r.reverse.length:=by rw[K9];omega
    subst d;exact⟨AH,by simpa using h0⟩
   .obtain⟨hj,h1⟩:=Vg e;refine⟨by simp at hj⊢;omega,?_⟩;simp only[EJ];rw[Gl hj];exact h1
def vM{nm:An}{l:List Cc}{f:Nat}(e:GF nm l=(f:Int)):∃hf:f<l.length,l[f].node≠0:=by unfold GF at e;obtain⟨hj,h⟩:=Vg e;simp only[Fk] at hj h;exact⟨hj,h⟩
def Y4{l:List Cc}{n:Int}{q:Nat}(e:Fi n l=(q:Int)):pV n l=Bi l q:=by unfold pV;rw[e,Af Ab,AY]
section
variable{h h':Ah}{bi a:Nat}{o c t:Aa}{G G' F:Nat->Prop}{b:BS}{x:Int}{m:Nat}
variable{nm:An}{av:Aa}{l:List A6}{r:List Aa}{sp p:Int}
def B1.aIR{d:List Cc}(hc:B1 d c)(hb:d.length<=900000000)(nm:An)(h:Ah):BK cx 353 [c,.str nm] h (I (GF nm d)) h:=by obtain⟨fs,Gw,hv⟩:=hc;have:=aMa (h:=h) hv (by rw[<-Gw,Aj] at hb;omega) nm;rwa [bz,Gw] at this
def aIS(w:RX h bi a o c t G b)(hc:B1 b.A5 c)(ok:EB b)(rm:BZ b (m+4*b.AW.length+10))(hnm:Nm b.a)(nm:An):
  ∃h' o' c' G',BK cx 224 [Pt bi 0,.str nm] h (.bool (b.round nm).1) h'/\RX h' bi a o' c' t G' (b.round nm).2/\B1 (b.round nm).2.A5 c'/\DB h (Bt bi G) h' (Bt bi G'):=by
 have ho:=rm.AW;have QB:=rm.A5;have Vx:∀i∈b.AW,i.name.length<9223372036854775807:=λi hi=>by have:=rm.Yr i hi;omega
 have l3:=w.l3;have ld:A7 h none (Pt bi 2)=some o:=w.ld 2;have P:=hc.aIR Ab nm h;by_cases hf:GF nm b.A5<0
 .obtain⟨h2,o2,r2,W,x2⟩:=aIJ w rm nm;have e:b.round nm=(false,b.Ds nm):=by unfold BS.round;simp only;rw[Af hf]
  have ea:(b.Ds nm).A5=b.A5:=by
   unfold BS.Ds;split;.split<;>rfl
   .rfl
  rw[e];refine⟨h2,o2,c,G,?_,W,by rw[ea];exact hc,x2⟩;rw[Ae,QE];simp only[abS,l3,P.Ac,hf,r2.Ac]
 obtain⟨f,Hm,V⟩:=Tc (Js.1 hf);obtain⟨_,Ť⟩:=vM V;have qI:¬(f:Int)<0:=Ab;rw[V] at P;have JO:=hc;obtain⟨fs,Gw,hv⟩:=JO;have aM5:b.A5.length=fs.length:=by rw[<-Gw,Aj]
 have efp:fs[f].c=b.A5[f]:=by simp only[<-Gw,CZ]
 have X:=AV.BM (k:= .i64) hv (Ab:f<fs.length);have YQ:=cm ok.jr Hm Ť;have KI:=rm.DE _ (AN Hm);have WH:b.A5.getD f Cc.zero=b.A5[f]:=by rw[AJ,Ak Hm];rfl
 rw[<-efp] at YQ KI WH Ť;generalize hfe:fs[f]=fe at*;have k_:fe.v.cells=[fe.v]:=AV.cells fe.ok;rw[Ci.row] at X;have r2:=ZQ (h:=h) w.o Ab fe.c.node;by_cases hk:AR (Bz fe.c.node) b.AW<0
 .obtain⟨h2,c2,H,W,IZ,x2⟩:=yz w hc Ab fe.c.node;rw[Y4 YQ] at W IZ;have e:b.round nm=(false,{b with A5:=Bi b.A5 f}):=by unfold BS.round;simp only;rw[Ad hf,V,AY,WH,Af hk]
  rw[e];refine⟨h2,o,c2,G,?_,W,IZ,x2⟩;rw[Ae,QE];simp only[abS,Nat.reduceLeDiff,↓reduceIte,l3,P.Ac,qI,X,ld,r2.Ac,hk,H.Ac]
 obtain⟨k,U⟩:∃k:Nat,AR (Bz fe.c.node) b.AW=(k:Int):=⟨_,(GZ (Js.1 hk)).symm⟩;obtain⟨Qi,hkq,_⟩:=IM U;have o7:¬(k:Int)<0:=Ab;rw[U] at r2;have H:=aL0 (h:=h) w.o Ab Vx 1 fe.c.node;by_cases QT:Kf (Bz fe.c.node) (JR 1) b.AW.reverse=false
 .have e:b.round nm=(false,b):=by unfold BS.round;simp only;rw[Ad hf,V,AY,WH,Ad hk,Af (.inr QT)]
  rw[e];refine⟨h,o,c,G,?_,w,hc,.refl⟩;rw[QT] at H;rw[Ae,QE];simp only[abS,Nat.reduceLeDiff,↓reduceIte,l3,P.Ac,qI,X,ld,r2.Ac,o7,A3,H.Ac]
 have aDV:Kf (Bz fe.c.node) (JR 1) b.AW.reverse=true:=by simpa using QT
 rw[aDV] at H;by_cases hkz:k=0
 .have e:b.round nm=(false,b):=by unfold BS.round;simp only;rw[Ad hf,V,AY,WH,Ad hk,Af (.inl (by rw[U,hkz];rfl))]
  rw[e];refine⟨h,o,c,G,?_,w,hc,.refl⟩;rw[Ae,QE];simp only[abS,Nat.reduceLeDiff,↓reduceIte,l3,P.Ac,qI,X,ld,r2.Ac,o7,A3,H.Ac,AM (Ab:(k:Int)=0)]
 have pM:¬(k:Int)=0:=Ab;have r4:=aL1 (h:=h) w.o Ab Vx fe.c.node;have hor:¬(AR (Bz fe.c.node) b.AW=0\/Kf (Bz fe.c.node) (JR 1) b.AW.reverse=false):=by rw[U];rintro(h|h);exact pM h;exact QT h
 by_cases hfa:D6 fe.c.node b.AW<0
 .have e:b.round nm=(false,{b with AW:=GX fe.c.node b.AW,A5:=Bi b.A5 f}):=by unfold BS.round;simp only;rw[Ad hf,V,AY,WH,Ad hk,Ad hor,Af hfa]
  obtain⟨u,t1,r5,hu⟩:=aGW (h:=h) w.o Ab fe.c.node;have w1:=w.Ib (u:=t1);have W:=w1.HZ hu;obtain⟨h3,c3,r6,w3,Nv,x3⟩:=yz W hc Dv fe.c.node;simp only at w3 Nv;rw[Y4 YQ] at w3 Nv;rw[e];refine⟨h3,u,c3,G,?_,w3,Nv,(w.C0.trans Bg).trans x3⟩;rw[Ae,QE];simp only[abS,Nat.reduceLeDiff,↓reduceIte,l3,P.Ac,qI,X,ld,r2.Ac,o7,A3,H.Ac,pM,r4.Ac,hfa,r5.Ac,w1.st (k:=2) (v0:=o) rfl (AV.cells hu),r6.Ac]
 obtain⟨N,hN,eN⟩:∃N:Nat,k+1+N<b.AW.length/\D6 fe.c.node b.AW=((k+1+N:Nat):Int):=by
  have vE:=hfa;rw[IG,Ad hk,U,AY] at vE⊢;unfold E1 at vE⊢;split at vE;.rename_i j hj;have:=(EI.1 hj).1;rw[Be] at this;exact⟨j,Ab,Ab⟩
  .omega
 have e2:=AV.BM (k:= .i64) w.o hN;have e3:=AV.BM (k:= .i64) w.o (Ab:k-1<b.AW.length);obtain⟨d,kf⟩:∃d,d=b.AW[k+1+N]:=⟨_,rfl⟩;obtain⟨an,Ŕ⟩:∃an,an=b.AW[k-1]'(by omega):=⟨_,rfl⟩;rw[<-kf,Item.row] at e2;rw[<-Ŕ,Item.row] at e3;have sx:b.AW.getD (k+1+N) Item.zero=d:=by rw[AJ,Ak hN,kf];rfl
 have hga:b.AW.getD (k-1) Item.zero=an:=by rw[AJ,Ak Ab,Ŕ];rfl
 have e:b.round nm=(true,BS.GJ fe.c d.node an.node (BS.KG d.node an.node (k+1+N) k N (b,d.node,f))):=by
  unfold BS.round;simp only
  rw[Ad hf,V,AY,WH,Ad hk,Ad hor,Ad hfa,U,eN,AY,AY,sx,hga,(Ab:k+1+N-1 -k=N)]
 have la:=ok.op d (by rw[kf];exact AN _);have aDW:b.AW[k].node=fe.c.node:=by simpa[Bz] using hkq
 have ţ:b.a.has fe.c.node:=by rw[<-aDW];exact(ok.op _ (AN _)).1
 have VB:=Hw (n:=k) Ab Ab;have le0:=(We (blk:=d.node) (anc:=an.node) (far:=k+1+N) (k:=k) (c:=N) (s:=(b,d.node,f)) ok la.1).2.2;obtain⟨h5,o5,c5,G5,s',r7,es,i⟩:=aIO (m:=m+10) (anc:=an.node) (fe:=fe.c.node) (f:=f) w hc ok (rm.le Ab) hnm hN Ab kf.symm U (by rw[YQ];omega) ţ;rw[<-es] at le0 e;obtain⟨q,hq,ki,hq0,hq2,hq3⟩:=HC i.V5;have hmk:=i.mkb;have r8:=df i.w i.ok.ba i.rm i.nm an.node;obtain⟨h7,G7,r9,w7,x7⟩:=de i.w i.ok.ba i.rm (s'.1.place an.node).1 s'.2.1 (s'.1.place an.node).2;have le7:Le s'.1.a (s'.1.a.EA s'.2.1 (s'.1.place an.node).1 (s'.1.place an.node).2):=I7;have Q:=i.ok.KH (OE (n:=s'.2.1) (p:=(s'.1.place an.node).1) (b:=(s'.1.place an.node).2) i.ok.ok) le7;have M:=i.rm.KH (J8 (x:=s'.2.1) (p:=(s'.1.place an.node).1) (bf:=(s'.1.place an.node).2));have nm7:Nm (s'.1.a.EA s'.2.1 (s'.1.place an.node).1 (s'.1.place an.node).2):=i.nm.EA;obtain⟨b2,Ob⟩:∃b2,b2={s'.1 with a:=s'.1.a.EA s'.2.1 (s'.1.place an.node).1 (s'.1.place an.node).2}:=⟨_,rfl⟩;have Zi:b2.AW=s'.1.AW:=by rw[Ob]
 have IZ:b2.A5=s'.1.A5:=by rw[Ob]
 have le2:Le s'.1.a b2.a:=by rw[Ob];exact le7
 have nm2:Nm b2.a:=by rw[Ob];exact nm7
 rw[<-Ob] at w7 Q M;have hr:N1 fe.c.name fe.v [I 2,.str fe.c.name,ff,S [],ff,S [],ff,ff,fe.v,ff,S [],.int .i32 0]:=⟨I 2,ff,S [],ff,S [],ff,ff,ff,S [],.int .i32 0,rfl⟩;obtain⟨h8,G8,r11,w8,x8⟩:=ů (m:=m+7) w7 Q.ba (M.le Ab) nm2 hr fe.ok KI.2 KI.1 d.node 1;obtain⟨S_,fr,le8⟩:=P1 (nm:=fe.c.name) (at_:=fe.c.Az) (p:=d.node) Q J1;have ť:=I8 (m:=m+7) (nm:=fe.c.name) (l:=fe.c.Az) (sp:=1) (p:=d.node) (M.le Ab) KI.2;obtain⟨g,hnw⟩:∃g,g=b2.GB fe.c.name fe.c.Az 1:=⟨_,rfl⟩;obtain⟨b3,ni⟩:∃b3,b3=b2.Es fe.c.name fe.c.Az 1 d.node:=⟨_,rfl⟩;have ho3:b3.AW=s'.1.AW:=by rw[ni,<-Zi];unfold BS.Es;rw[Af J1]
 have Nv:b3.A5=s'.1.A5:=by rw[ni,<-IZ];unfold BS.Es;rw[Af J1]
 rw[<-hnw] at r11 fr;rw[<-ni] at w8 S_ fr le8 ť;have aH9:(b3.a.nd d.node).Bb.length<=1000000000:=ť.Zp.Bb S_.ok d.node;obtain⟨kv,r12,bu⟩:∃v,BK cx 212 [Pt a 0,I d.node] h8 v h8/\DV (b3.a.nd d.node).Bb v:=by obtain⟨n,i,ps,wa,_⟩:=w8.w;exact yr wa aH9
 have bY:=λ(y:Item)=>@Item.CP y;have Jl:Ev cx 224 [Pt bi 0,.str nm] h λr h'=>r= .bool true/\∃o' c' G',RX h' bi a o' c' t G' (BS.GJ fe.c d.node an.node s')/\B1 (BS.GJ fe.c d.node an.node s').A5 c'/\DB h (Bt bi G) h' (Bt bi G'):=by
  unfold Ev;rw[QE];simp only[abS,Nat.reduceLeDiff,↓reduceIte,Fc,l3,P.Ac,qI,X,ld,r2.Ac,o7,A3,H.Ac,pM,r4.Ac,eN,(Ab:¬((k+1+N:Nat):Int)<0),e2,VB,e3];simp only[abS,Nat.reduceLeDiff,↓reduceIte,AT,r7.Ac,r8.Ac,r9.Ac,k_];simp only[abS,↓reduceIte,Fc,r11.Ac,bY,w8.l0,r12.Ac];have Z:DB h (Bt bi G) h8 (Bt bi G8):=(i.x.trans x7).trans x8;have hvl:=AV.CN bu;refine DW (i:=0) (λj:Nat=>[I (j:Int)]) (λj T=>j<=(b3.a.nd d.node).Bb.length/\∃K,RX T bi a o5 c5 t K {b3 with a:=BS.Cy b3.a g.node ((b3.a.nd d.node).Bb.take j)}/\EB {b3 with a:=BS.Cy b3.a g.node ((b3.a.nd d.node).Bb.take j)}/\BZ {b3 with a:=BS.Cy b3.a g.node ((b3.a.nd d.node).Bb.take j)} (m+7)/\DB h8 (Bt bi G8) T (Bt bi K)) (λj=>(b3.a.nd d.node).Bb.length-j)
   (λj T=>j=(b3.a.nd d.node).Bb.length/\∃K,RX T bi a o5 c5 t K {b3 with a:=BS.Cy b3.a g.node ((b3.a.nd d.node).Bb.take j)}/\EB {b3 with a:=BS.Cy b3.a g.node ((b3.a.nd d.node).Bb.take j)}/\BZ {b3 with a:=BS.Cy b3.a g.node ((b3.a.nd d.node).Bb.take j)} (m+7)/\DB h8 (Bt bi G8) T (Bt bi K)) 0 rfl ⟨AZ _,G8,w8,S_,ť,.refl⟩ ?_ ?_
  .rintro j T ⟨hj,K,E,vF,cr,Y⟩;rcases AQ j (b3.a.nd d.node).Bb.length with hlt|Ei
   .have e9:=AV.BM (k:= .i64) bu hlt;obtain⟨er,U8,z,B,Uc,vG⟩:=E.kR vF.ba cr g.node (b3.a.nd d.node).Bb[j] 0;have hs:BS.Cy b3.a g.node ((b3.a.nd d.node).Bb.take (j+1))=(BS.Cy b3.a g.node ((b3.a.nd d.node).Bb.take j)).FX g.node (b3.a.nd d.node).Bb[j] 0:=by rw[AE hlt,Rb]
    rw[BH] at e9;simp only[abS,hvl,(Ab:(j:Int)<((b3.a.nd d.node).Bb.length:Int)),E.l0,e9,B.Ac,BO (Ab:j<9223372036854775807)];refine .next (j+1) rfl ⟨hlt,z,by rw[hs];exact Uc,?_,?_,Y.trans vG⟩ Ab
    .have:=vF.KH (Qw (p:=g.node) (n:=(b3.a.nd d.node).Bb[j]) (b:=0) vF.ok) OD;rw[hs];exact this
    .have:=cr.KH (J7 (p:=g.node) (x:=(b3.a.nd d.node).Bb[j]) (bf:=0));rw[hs];exact this
   .simp only[abS,hvl,(Ab:¬(j:Int)<((b3.a.nd d.node).Bb.length:Int))];exact .HG j rfl ⟨Ab,K,E,vF,cr,Y⟩
  .rintro j T ⟨rfl,K,E,vF,cr,Y⟩;rw[Bx] at E vF cr;obtain⟨er,U8,z,B,Uc,vG⟩:=E.kR vF.ba cr d.node g.node 0;have Ŧ:B1 ({b3 with a:=(BS.Cy b3.a g.node (b3.a.nd d.node).Bb).FX d.node g.node 0}:BS).A5 c5:=by simp only;rw[Nv];exact i.hc
   have hqa:=i.rm.A5;have th:Fi fe.c.node b3.A5=(q:Int):=by rw[Nv];exact ki
   have A:=Ŧ.ix (n:=0) (by simp only;rw[Nv];omega) fe.c.node U8;simp only at A;rw[th] at A;obtain⟨Zm,XK,r15,ŧ,lf,x11⟩:=yz Uc Ŧ (by simp only;rw[Nv];omega) fe.c.node;simp only at ŧ lf;rw[Y4 th] at ŧ lf;obtain⟨Ub,VO⟩:∃Ub:Nat,Ub=if q<s'.2.2 then s'.2.2 -1 else s'.2.2:=⟨_,rfl⟩
   have qK:(Bi b3.A5 q).length=b3.A5.length-1:=Hj (by rw[Nv];exact hq);have VX:b3.A5.length=s'.1.A5.length:=by rw[Nv]
   obtain⟨u1,O,ũ,R⟩:=lf.wi Ab (e:={fe.c with node:=g.node}) fe.ok (by have:=KI.2.1;simp only;omega) (Ub:Int) Zm;have l11:=ŧ.l3;have s12:=ŧ.st (k:=3) (v0:=XK) rfl R;have T_:=ŧ.Kh (u:=u1) (l:=(Bi b3.A5 q).take (CE Ub (Bi b3.A5 q).length)++{fe.c with node:=g.node}::(Bi b3.A5 q).drop (CE Ub (Bi b3.A5 q).length));have x12:=x11.trans (Bg (bi:=bi) (G:=z) (h:=Zm) (k:=3) (v:=u1));generalize put Zm bi 3 u1=D at*;have hob:=i.rm.AW;have nc:b3.AW.length=s'.1.AW.length:=by rw[ho3]
   have aIT:A7 D none (Pt bi 2)=some o5:=T_.ld 2;obtain⟨u2,t2,r17,IE⟩:=aL7 (h:=D) T_.o Dv fe.c.node;simp only at IE;have w13:=T_.Ib (u:=t2);have s13:=w13.st (k:=2) (v0:=o5) rfl (AV.cells IE);have L:=w13.HZ IE;have x14:=(x12.trans T_.C0).trans (Bg (bi:=bi) (G:=z) (h:=D++t2) (k:=2) (v:=u2));generalize put (D++t2) bi 2 u2=C at*;have qF:(C4 fe.c.node b3.AW).length<=s'.1.AW.length:=by rw[<-ho3];exact LA.length_le
   have aIU:A7 C none (Pt bi 2)=some u2:=L.ld 2;have r18:=ZQ (h:=C) IE Ab d.node;have hli: -1<=AR (Bz d.node) (C4 fe.c.node b3.AW)/\AR (Bz d.node) (C4 fe.c.node b3.AW)<=(C4 fe.c.node b3.AW).length:=by rcases Dh (q:=Bz d.node) (l:=C4 fe.c.node b3.AW) with⟨h,_⟩|⟨n,h1,h2,_⟩<;>omega
   have add:=Oz (a:=AR (Bz d.node) (C4 fe.c.node b3.AW)) (b:=1) Ab Ab;obtain⟨u3,r19,Ş⟩:=aL8 (h:=C) IE Ab g (AR (Bz d.node) (C4 fe.c.node b3.AW)+1);have s15:=L.st (k:=2) (v0:=u2) rfl (AV.cells Ş);have w15:=L.HZ Ş;have x15:=x14.trans (Bg (bi:=bi) (G:=z) (h:=C) (k:=2) (v:=u3));have hE:BS.GJ fe.c d.node an.node s'={b3 with a:=(BS.Cy b3.a g.node (b3.a.nd d.node).Bb).FX d.node g.node 0,A5:=(Bi b3.A5 q).take (CE Ub (Bi b3.A5 q).length)++{fe.c with node:=g.node}::(Bi b3.A5 q).drop (CE Ub (Bi b3.A5 q).length),AW:=(C4 fe.c.node b3.AW).take (E2 (AR (Bz d.node) (C4 fe.c.node b3.AW)+1) (C4 fe.c.node b3.AW).length)++g::(C4 fe.c.node b3.AW).drop (E2 (AR (Bz d.node) (C4 fe.c.node b3.AW)+1) (C4 fe.c.node b3.AW).length)}:=by
    unfold BS.GJ;simp only
    rw[<-Ob,<-ni,<-hnw,th,AY,<-VO]
   have J:=Uc.l3;by_cases hqm:(q:Int)<(s'.2.2:Int);.have dm:=Hw (n:=s'.2.2) Ab Ab;rw[Af (Ab:q<s'.2.2)] at VO;rw[<-VO] at dm;simp only[abS,Nat.reduceLeDiff,↓reduceIte,AT,Fc,E.l0,B.Ac,J,A.Ac,hqm,A3,dm,r15.Ac,l11,k_];simp only[BF,O.Ac,s12,aIT,r17.Ac,s13,aIU,r18.Ac,BN,add,r19.Ac,s15];rw[hE];exact⟨_,rfl,rfl,u3,u1,z,w15,ũ,(Z.trans (Y.trans vG)).trans x15⟩
   .rw[Ad (Ab:¬q<s'.2.2)] at VO;rw[VO] at O;simp only[abS,Nat.reduceLeDiff,↓reduceIte,AT,Fc,E.l0,B.Ac,J,A.Ac,hqm,A3,r15.Ac,l11,k_];simp only[BF,O.Ac,s12,aIT,r17.Ac,s13,aIU,r18.Ac,BN,add,r19.Ac,s15];rw[hE];exact⟨_,rfl,rfl,u3,u1,z,w15,ũ,(Z.trans (Y.trans vG)).trans x15⟩
 obtain⟨r,h',hr,rfl,o',c',G',w',JO,x'⟩:=Jl.ret;rw[e];exact⟨h',o',c',G',hr,w',JO,x'⟩
end
namespace BS
def FG(b:BS)(nm:An)(k:Nat):Option Int:=
 if nm=Lj then some (JH (b.AW.take k))
 else if nm=uv then(if k=0 then some 7 else some 15)
 else if nm=uw then(if k=0 then some 7 else some 15)
 else if nm=wTr then some 14
 else if nm=TX then some 13
 else if nm=TZ then some 13
 else if nm=TY then some 13
 else if nm=SQ then some 11
 else if nm=Qx then some 12
 else if nm=Fa then some 9
 else if nm=AK then some (b.tm.getLast?.getD 7)
 else if nm=Q7 then(if k=0 then some 7 else some 4)
 else if nm=yB then some 7
 else if nm=Qy then some 20
 else if nm=DI then some (if b.head=0 then 3 else 6)
 else if k=0 then some 7 else none
end BS
section
variable{h h':Ah}{bi a:Nat}{o c t:Aa}{G G' F:Nat->Prop}{b:BS}{x:Int}{m:Nat}
def y_{nd:Int}{nm:An}{u:Bool}{k:Nat}:b.Hi ⟨nd,1,nm,u⟩ k=b.FG nm k:=by
 unfold BS.Hi BS.FG;simp only[BI];by_cases s:nm=Lj;.subst s;cases k<;>rfl
 by_cases q:nm=uv;.subst q;cases k<;>rfl
 by_cases p:nm=uw;.subst p;cases k<;>rfl
 by_cases n:nm=wTr;.subst n;cases k<;>rfl
 by_cases l:nm=TX;.subst l;cases k<;>rfl
 by_cases j:nm=TZ;.subst j;cases k<;>rfl
 by_cases i:nm=TY;.subst i;cases k<;>rfl
 by_cases g:nm=SQ;.subst g;cases k<;>rfl
 by_cases f:nm=Qx;.subst f;cases k<;>rfl
 by_cases d:nm=Fa;.subst d;cases k<;>rfl
 by_cases kU:nm=AK;.subst kU;cases k<;>rfl
 by_cases qN:nm=Q7;.subst qN;cases k<;>rfl
 by_cases qO:nm=yB;.subst qO;cases k<;>rfl
 by_cases ny:nm=Qy;.subst ny;cases k<;>rfl
 by_cases Ų:nm=DI;.subst Ų;cases k<;>rfl
 have hf:(Jz.find? λr=>decide (r.1=nm))=none:=by
  rw[Jr];intro r hr;simp only[Jz,AX,Nu,I_] at hr;rcases hr with rfl|rfl|rfl|rfl|rfl|rfl|rfl|rfl|rfl<;>simp only[CL]<;>intro e
  .exact n e.symm
  .exact l e.symm
  .exact j e.symm
  .exact i e.symm
  .exact g e.symm
  .exact f e.symm
  .exact d e.symm
  .exact qO e.symm
  .exact ny e.symm
 rw[hf];simp only[s,q,p,n,l,j,i,g,f,d,kU,qN,qO,ny,Ų,DG,aEz,Zq]
def za{i:Item}{k:Nat}(h:¬i.Bc=1):b.Hi i k=if k=0 then some 7 else none:=by unfold BS.Hi;rw[Ad h]
def aIV(w:RX h bi a o c t G b)(rm:BZ b m){k:Nat}(hk:k<=b.AW.length):BK cx 358 [Pt bi 0,I (k:Int)] h (I (BS.JH (b.AW.take k))) h:=by
 have ho:=rm.AW;have ld:A7 h none (Pt bi 2)=some o:=w.ld 2;rw[Ae,ľ];simp only[BF,C3 (Ab: -9223372036854775808<=(k:Int)-1) (Ab:(k:Int)-1<9223372036854775808)];refine Bl (λn:Nat=>[I 0,I ((n:Int)-1)]) (λn h1=>n<=k/\((b.AW.take k).reverse.find? λi=>Bs [AK] i||Bs [Fa] i)=((b.AW.take n).reverse.find? λi=>Bs [AK] i||Bs [Fa] i)/\h1=h) (λn=>n) k rfl ⟨Ag _,rfl,rfl⟩ ?_;rintro n h1 ⟨hn,ha,rfl⟩;cases n with
 |zero=>simp only[abS,↓reduceIte,(Ab:¬(0:Int)<=((0:Nat):Int)-1)];unfold BS.JH;rw[ha];rfl
 |succ n=>
  have hlt:n<b.AW.length:=Ab;have i1:((n+1:Nat):Int)-1=(n:Int):=Ab;have g:=AV.BM (k:= .i64) w.o hlt;have e:AB (.C8 1) [S AK]=some (.sl 1 ([AK].map CC)):=D1 (ws:=[AK]) rfl AU;have kq:AB (.C8 1) [S Fa]=some (.sl 1 ([Fa].map CC)):=D1 (ws:=[Fa]) rfl AU;have r2:=f167 (h:=h1) b.AW[n] (CX (ws:=[AK])) AU;have f:=f167 (h:=h1) b.AW[n] (CX (ws:=[Fa])) AU;rw[S8 hlt,GK] at ha;generalize b.AW[n]=i at*;simp only[abS,Nat.reduceLeDiff,↓reduceIte,Fc,i1,(Ab:(0:Int)<=(n:Int)),ld,g,e,r2.Ac,kq,f.Ac,C3 (Ab: -9223372036854775808<=(n:Int)-1) (Ab:(n:Int)-1<9223372036854775808)];rw[CT];refine⟨λh2=>?_,λh2=>?_⟩;.simp only[h2,Un] at ha;unfold BS.JH;rw[ha];simp only[h2,BI]
  .simp only[h2,Hl] at ha;rw[CT];refine⟨λd=>?_,λd=>?_⟩;.rw[d] at ha;unfold BS.JH;rw[ha];simp only[h2,Cu,DG]
   .rw[d] at ha;exact AL.next n rfl ⟨Ab,ha,rfl⟩ Ab
def aIW(w:RX h bi a o c t G b)(rm:BZ b m)(i:Item){k:Nat}(hk:k<=b.AW.length):BK cx 225 [Pt bi 0,.agg i.row,I (k:Int),.bool (decide (k=0))] h (.tuple [I ((b.Hi i k).getD 7),.bool (b.Hi i k).isSome]) h:=by
 have ye:=rm.tm;have l6:=w.l6;have l7:=w.l7;have lt:=AV.CN w.t;obtain⟨nd,sp,nm,A⟩:=i;by_cases hs:sp=1;rotate_left
 .rw[za (by exact hs),Ae,zA];by_cases u:k=0;.simp only[abS,Item.row,hs,u,Dx,Hp,lI]
  .simp only[abS,Item.row,hs,u,DH,Option.getD_none,aOb]
 subst hs;rw[y_,Ae,zA];by_cases d:nm=Lj
 .have e:b.FG nm k=some (BS.JH (b.AW.take k)):=by unfold BS.FG;rw[Af d]
  rw[e];simp only[BF,IU,Item.row,AM d,(aIV w rm hk).Ac]
 by_cases f:nm=uv
 .have e:b.FG nm k=(if k=0 then some 7 else some 15):=by unfold BS.FG;rw[Ad d,Af f]
  rw[e];by_cases u:k=0;.simp only[abS,IU,Item.row,d,AM f,u]
  .simp only[abS,IU,Item.row,d,AM f,u]
 by_cases g:nm=uw
 .have e:b.FG nm k=(if k=0 then some 7 else some 15):=by unfold BS.FG;rw[Ad d,Ad f,Af g]
  rw[e];by_cases u:k=0;.simp only[abS,IU,Item.row,d,f,AM g,u]
  .simp only[abS,IU,Item.row,d,f,AM g,u]
 by_cases j:nm=wTr
 .have e:b.FG nm k=some 14:=by unfold BS.FG;rw[Ad d,Ad f,Ad g,Af j]
  rw[e];simp only[BF,IU,Item.row,d,f,g,AM j]
 by_cases l:nm=TX
 .have e:b.FG nm k=some 13:=by unfold BS.FG;rw[Ad d,Ad f,Ad g,Ad j,Af l]
  rw[e];simp only[BF,IU,Item.row,d,f,g,j,AM l]
 by_cases n:nm=TZ
 .have e:b.FG nm k=some 13:=by unfold BS.FG;rw[Ad d,Ad f,Ad g,Ad j,Ad l,Af n]
  rw[e];simp only[BF,IU,Item.row,d,f,g,j,l,AM n]
 by_cases p:nm=TY
 .have e:b.FG nm k=some 13:=by unfold BS.FG;rw[Ad d,Ad f,Ad g,Ad j,Ad l,Ad n,Af p]
  rw[e];simp only[BF,IU,Item.row,d,f,g,j,l,n,AM p]
 by_cases q:nm=SQ
 .have e:b.FG nm k=some 11:=by unfold BS.FG;rw[Ad d,Ad f,Ad g,Ad j,Ad l,Ad n,Ad p,Af q]
  rw[e];simp only[BF,IU,Item.row,d,f,g,j,l,n,p,AM q]
 by_cases r:nm=Qx
 .have e:b.FG nm k=some 12:=by unfold BS.FG;rw[Ad d,Ad f,Ad g,Ad j,Ad l,Ad n,Ad p,Ad q,Af r]
  rw[e];simp only[BF,IU,Item.row,d,f,g,j,l,n,p,q,AM r]
 by_cases s:nm=Fa
 .have e:b.FG nm k=some 9:=by unfold BS.FG;rw[Ad d,Ad f,Ad g,Ad j,Ad l,Ad n,Ad p,Ad q,Ad r,Af s]
  rw[e];simp only[BF,IU,Item.row,d,f,g,j,l,n,p,q,r,AM s]
 by_cases kU:nm=AK
 .have e:b.FG nm k=some (b.tm.getLast?.getD 7):=by unfold BS.FG;rw[Ad d,Ad f,Ad g,Ad j,Ad l,Ad n,Ad p,Ad q,Ad r,Ad s,Af kU]
  rw[e];by_cases ht:b.tm=[]
  .have ş:AB (.len false) [t]=some (I 0):=by rw[lt,ht];rfl
   simp only[BF,IU,Item.row,d,f,g,j,l,n,p,q,r,s,AM kU,l6,ş,ht,qD]
  .have hpos:=Dy.2 ht;have y:=AV.BM (k:= .i64) w.t (Ab:b.tm.length-1<b.tm.length);have z:b.tm.getLast?.getD 7=b.tm[b.tm.length-1]:=by rw[KQ,Ak Ab];rfl
   rw[BH] at y;simp only[BF,IU,Item.row,d,f,g,j,l,n,p,q,r,s,AM kU,l6,lt,(Ab:(0:Int)<(b.tm.length:Int)),Hw hpos (Ab:b.tm.length<9223372036854775807),y,z]
 by_cases qN:nm=Q7
 .have e:b.FG nm k=(if k=0 then some 7 else some 4):=by unfold BS.FG;rw[Ad d,Ad f,Ad g,Ad j,Ad l,Ad n,Ad p,Ad q,Ad r,Ad s,Ad kU,Af qN]
  rw[e];by_cases u:k=0;.simp only[abS,IU,Item.row,d,f,g,j,l,n,p,q,r,s,kU,AM qN,u]
  .simp only[abS,IU,Item.row,d,f,g,j,l,n,p,q,r,s,kU,AM qN,u]
 by_cases qO:nm=yB
 .have e:b.FG nm k=some 7:=by unfold BS.FG;rw[Ad d,Ad f,Ad g,Ad j,Ad l,Ad n,Ad p,Ad q,Ad r,Ad s,Ad kU,Ad qN,Af qO]
  rw[e];simp only[BF,IU,Item.row,d,f,g,j,l,n,p,q,r,s,kU,qN,AM qO]
 by_cases ny:nm=Qy
 .have e:b.FG nm k=some 20:=by unfold BS.FG;rw[Ad d,Ad f,Ad g,Ad j,Ad l,Ad n,Ad p,Ad q,Ad r,Ad s,Ad kU,Ad qN,Ad qO,Af ny]
  rw[e];simp only[BF,IU,Item.row,d,f,g,j,l,n,p,q,r,s,kU,qN,qO,AM ny]
 by_cases Ų:nm=DI
 .have e:b.FG nm k=some (if b.head=0 then 3 else 6):=by unfold BS.FG;rw[Ad d,Ad f,Ad g,Ad j,Ad l,Ad n,Ad p,Ad q,Ad r,Ad s,Ad kU,Ad qN,Ad qO,Ad ny,Af Ų]
  rw[e];by_cases v:b.head=0;.simp only[BF,IU,Item.row,d,f,g,j,l,n,p,q,r,s,kU,qN,qO,ny,AM Ų,l7,v]
  .simp only[BF,IU,Item.row,d,f,g,j,l,n,p,q,r,s,kU,qN,qO,ny,AM Ų,l7,v]
 have e:b.FG nm k=if k=0 then some 7 else none:=by unfold BS.FG;rw[Ad d,Ad f,Ad g,Ad j,Ad l,Ad n,Ad p,Ad q,Ad r,Ad s,Ad kU,Ad qN,Ad qO,Ad ny,Ad Ų]
 rw[e];by_cases u:k=0;.simp only[abS,IU,Item.row,d,f,g,j,l,n,p,q,r,s,kU,qN,qO,ny,Ų,u]
 .simp only[abS,IU,Item.row,d,f,g,j,l,n,p,q,r,s,kU,qN,qO,ny,Ų,u]
def zb(w:RX h bi a o c t G b)(rm:BZ b m):
  ∃h',BK cx 96 [Pt bi 0] h (.tuple []) h'/\RX h' bi a o c t G b.GG/\DB h (Bt bi G) h' (Bt bi G):=by
 have ho:=rm.AW;have ld:A7 h none (Pt bi 2)=some o:=w.ld 2;have lo:=AV.CN w.o;have RU:=w.l9;have hlc:=w.Ŝ;have Jl:Ev cx 96 [Pt bi 0] h λr h'=>r= .tuple []/\RX h' bi a o c t G b.GG/\DB h (Bt bi G) h' (Bt bi G):=by
  unfold Ev;rw[aDm];simp only[BF,ld,lo,C3 (Ab: -9223372036854775808<=(b.AW.length:Int)-1) (Ab:(b.AW.length:Int)-1<9223372036854775808)];have HT:∀v,Co h 1 (Pt bi 4) (I v)=some (Am.put h bi 4 (I v)):=λv=>w.st (k:=4) rfl rfl;refine Bl (λn:Nat=>[I ((n:Int)-1)]) (λn h1=>n<=b.AW.length/\b.LQ b.AW.length=b.LQ n/\h1=h) (λn=>n) b.AW.length rfl ⟨Ag _,rfl,rfl⟩ ?_;rintro n h1 ⟨hn,ha,rfl⟩;cases n with
  |zero=>
   have e:b.GG={b with mode:=7}:=by unfold BS.GG;rw[ha];rfl
   simp only[abS,↓reduceIte,(Ab:¬(0:Int)<=((0:Nat):Int)-1),HT];exact⟨_,rfl,rfl,by rw[e];exact w.pG 7,Bg⟩
  |succ n=>
   have hlt:n<b.AW.length:=Ab;have i1:((n+1:Nat):Int)-1=(n:Int):=Ab;have g:=AV.BM (k:= .i64) w.o hlt;have d:=aIW w rm (b.ED n) (k:=n) Ab;have e:b.LQ (n+1)=match b.Hi (b.ED n) n with|some m=>m|none=>b.LQ n:=rfl
   rw[e] at ha;have O9:=C3 (Ab: -9223372036854775808<=(n:Int)-1) (Ab:(n:Int)-1<9223372036854775808);have i:∀(h0:n≠0\/b.L7=false),b.ED n=b.AW[n]:=λh0=>by unfold BS.ED;rw[Ad (by rintro⟨h1,h2⟩;rcases h0 with h0|h0;exact h0 h1;rw[h0] at h2;exact absurd h2 AU),AJ,Ak hlt];rfl
   have j:n=0->b.L7=true->b.ED n=b.ctx:=λh0 hf=>by unfold BS.ED;rw[Af ⟨h0,hf⟩]
   have HG:∀v,b.Hi (b.ED n) n=some v->RX (Am.put h1 bi 4 (I v)) bi a o c t G b.GG:=λv hm=>by
    rw[hm] at ha;have e:b.GG={b with mode:=v}:=by unfold BS.GG;rw[ha]
    rw[e];exact w.pG v
   have f:b.Hi (b.ED n) n=none->b.LQ b.AW.length=b.LQ n:=λhm=>by rw[hm] at ha;exact ha
   generalize hx:b.AW[n]=x at*;by_cases h0:n=0
   .have ZB:((n:Int)=0)=True:=AM Ab;rw[As h0] at d;cases hf:b.L7 with
    |true=>
     rw[j h0 hf] at d HG f;rw[hf] at RU;cases hm:b.Hi b.ctx n with
     |none=>rw[hm] at d;simp only[BF,Nat.reduceLeDiff,↓reduceIte,Fc,i1,(Ab:(0:Int)<=(n:Int)),ld,g,ZB,RU,hlc,d.Ac,O9,IU];exact AL.next n rfl ⟨Ab,f hm,rfl⟩ Ab
     |some v=>rw[hm] at d;simp only[BF,Nat.reduceLeDiff,↓reduceIte,Fc,i1,(Ab:(0:Int)<=(n:Int)),ld,g,ZB,RU,hlc,d.Ac,HT,IU];exact⟨_,rfl,rfl,HG v hm,Bg⟩
    |false=>
     rw[i (.inr hf)] at d HG f;rw[hf] at RU;cases hm:b.Hi x n with
     |none=>rw[hm] at d;simp only[BF,Nat.reduceLeDiff,↓reduceIte,Fc,i1,(Ab:(0:Int)<=(n:Int)),ld,g,ZB,RU,d.Ac,O9,IU];exact AL.next n rfl ⟨Ab,f hm,rfl⟩ Ab
     |some v=>rw[hm] at d;simp only[BF,Nat.reduceLeDiff,↓reduceIte,Fc,i1,(Ab:(0:Int)<=(n:Int)),ld,g,ZB,RU,d.Ac,HT,IU];exact⟨_,rfl,rfl,HG v hm,Bg⟩
   .have ZB:¬(n:Int)=0:=by omega
    rw[Aq h0] at d;rw[i (.inl h0)] at d HG f;cases hm:b.Hi x n with
    |none=>rw[hm] at d;simp only[BF,Nat.reduceLeDiff,↓reduceIte,Fc,i1,(Ab:(0:Int)<=(n:Int)),ld,g,ZB,d.Ac,O9,IU];exact AL.next n rfl ⟨Ab,f hm,rfl⟩ Ab
    |some v=>rw[hm] at d;simp only[BF,Nat.reduceLeDiff,↓reduceIte,Fc,i1,(Ab:(0:Int)<=(n:Int)),ld,g,ZB,d.Ac,HT,IU];exact⟨_,rfl,rfl,HG v hm,Bg⟩
 obtain⟨r,h',hr,rfl,w',x'⟩:=Jl.ret;exact⟨h',hr,w',x'⟩
def aIX(w:RX h bi a o c t G b)(hc:B1 b.A5 c)(rm:BZ b m):
  ∃h' o' c' t',BK cx 98 [Pt bi 0] h (.tuple []) h'/\RX h' bi a o' c' t' G b.Cv/\B1 b.Cv.A5 c'/\DB h (Bt bi G) h' (Bt bi G):=by
 have aT:AS=140737488355328:=rfl;have ho:=rm.AW;have QB:=rm.A5;have ye:=rm.tm;have Vx:∀i∈b.AW,i.name.length<9223372036854775807:=λi hi=>by have:=rm.Yr i hi;omega
 have ld:A7 h none (Pt bi 2)=some o:=w.ld 2;have C:=ō (h:=h) w.o Ab AK;by_cases FY:AR (Bs [AK]) b.AW<0;.refine⟨h,o,c,t,?_,by unfold BS.Cv;rw[Af FY];exact w,by unfold BS.Cv;rw[Af FY];exact hc,.refl⟩;rw[Ae,uQ];simp only[abS,ld,C.Ac,FY]
 obtain⟨s,B,r2,O7⟩:=f165 (h:=h) w.o Ab Vx [] true;have HT:ES [] true=CG:=by funext a;rfl
 rw[HT] at O7;have w0:=w.Ib (u:=B);have J:=w0.st (k:=2) (v0:=o) rfl (AV.cells O7);have w1:=w0.HZ O7;have P:=w.C0.trans (Bg (bi:=bi) (G:=G) (h:=h++B) (k:=2) (v:=s));have l1:(DA CG Cx b.AW).length<=b.AW.length:=Qu;generalize put (h++B) bi 2 s=h1 at*;have nv:A7 h1 none (Pt bi 2)=some s:=w1.ld 2;obtain⟨g,t2,L,IE⟩:=f85 (h:=h1) O7 Ab (CX (ws:=[AK])) AU;rw[<-Mv] at IE;have f:=w1.Ib (u:=t2);have H:=f.st (k:=2) (v0:=s) rfl (AV.cells IE);have A:=f.HZ IE;have O:=(P.trans w1.C0).trans (Bg (bi:=bi) (G:=G) (h:=h1++t2) (k:=2) (v:=g));generalize put (h1++t2) bi 2 g=h2 at*;have j:=A.l3;obtain⟨fs,Gw,hcs⟩:=hc;have Hm:fs.length=b.A5.length:=by rw[<-Gw,Aj]
 obtain⟨d,K,Ş⟩:=f84 (h:=h2) hcs Ab;have E:=A.st (k:=3) (v0:=c) rfl (AV.cells Ş);have r:=A.Kh (u:=d) (l:=Ee b.A5);have D:=O.trans (Bg (bi:=bi) (G:=G) (h:=h2) (k:=3) (v:=d));have Nv:B1 (Ee b.A5) d:=⟨_,by rw[QF,Gw],Ş⟩;generalize put h2 bi 3 d=X at*;have lt:=AV.CN w.t;have l6:=r.l6;have e:b.Cv=BS.GG {b with AW:=DA Cx (Bs [AK]) (DA CG Cx b.AW),A5:=Ee b.A5,tm:=b.tm.dropLast}:=by unfold BS.Cv;rw[Ad FY]
 have sO:(DA Cx (Bs [AK]) (DA CG Cx b.AW)).Sublist b.AW:=(DO (p:=Cx) (q:=Bs [AK]) (l:=DA CG Cx b.AW)).trans DO;by_cases h0:b.tm=[]
 .have z:RX X bi a g d t G {b with AW:=DA Cx (Bs [AK]) (DA CG Cx b.AW),A5:=Ee b.A5,tm:=b.tm.dropLast}:=by
   have:b.tm.dropLast=b.tm:=by rw[h0];rfl
   rw[this];exact r
  obtain⟨W,U,y,N⟩:=zb z (rm.sub (b':={b with AW:=DA Cx (Bs [AK]) (DA CG Cx b.AW),A5:=Ee b.A5,tm:=b.tm.dropLast}) rfl sO (CM _ _) AH);refine⟨W,g,d,t,?_,by rw[e];exact y,by rw[e];exact Nv,D.trans N⟩;have ş:AB (.len false) [t]=some (I 0):=by rw[lt,h0];rfl
  rw[Ae,uQ];simp only[BF,ld,C.Ac,FY,r2.Ac,J,nv,bT,L.Ac,H,j,K.Ac,E,l6,ş,U.Ac,IU]
 .have hpos:=Dy.2 h0;obtain⟨u4,Z,yh⟩:=AV.Lw w.t (k:= .i64) (n:=b.tm.length-1) Ab;rw[<-JX] at yh;obtain⟨R,Y,R_⟩:=AV.FJ (b:=8) yh D9;have S:=r.st (k:=6) (v0:=t) rfl (AV.cells R_);have y:=r.YP R_;obtain⟨V,T,Q,M⟩:=zb y (rm.sub (b':={b with AW:=DA Cx (Bs [AK]) (DA CG Cx b.AW),A5:=Ee b.A5,tm:=b.tm.dropLast}) rfl sO (CM _ _) AH);refine⟨V,g,d,R,?_,by rw[e];exact Q,by rw[e];exact Nv,(D.trans Bg).trans M⟩;rw[Ae,uQ];simp only[BF,ld,C.Ac,FY,r2.Ac,J,nv,bT,L.Ac,H,j,K.Ac,E,l6,lt,(Ab:(0:Int)<(b.tm.length:Int)),Hw hpos (Ab:b.tm.length<9223372036854775807),Z,Y,S,T.Ac,IU]
def aND(w:RX h bi a o c t G b)(hc:B1 b.A5 c)(ok:EB b)(rm:BZ b (m+8*(4*(b.AW.length+8)+10)))(hnm:Nm b.a)(nm:An):
  ∃h' o' c' G',BK cx 95 [Pt bi 0,.str nm] h (.tuple []) h'/\RX h' bi a o' c' t G' (b.Ik nm)/\B1 (b.Ik nm).A5 c'/\DB h (Bt bi G) h' (Bt bi G'):=by
 have ho:=rm.AW;have QB:=rm.A5;have ld:A7 h none (Pt bi 2)=some o:=w.ld 2;have A:=yu w rm;have em:AB (.C8 1) [.str nm]=some (.sl 1 ([nm].map CC)):=D1 (ws:=[nm]) rfl AH;have r2:BK cx 218 [.agg (FA b.AW).row,.sl 1 ([nm].map CC)] h (.bool (Bs [nm] (FA b.AW))) h:=f167 (FA b.AW) (CX (ws:=[nm])) AH;have J:=hc.ix (n:=0) Ab (FA b.AW).node h;have D:b.Lk.A5=b.A5:=by unfold BS.Lk;split<;>rfl
 have l3:=w.l3;by_cases h1:Bs [nm] (FA b.AW)=true/\Fi (FA b.AW).node b.A5<0
 .obtain⟨u,N,O,hu⟩:=ŏ (h:=h) w.o Ab;have E:JS b.AW ((b.AW.length:Int)-1)=b.Lk.AW:=by
   unfold BS.Lk;split;.unfold JS;rw[AF Ab]
   .unfold JS;congr 1;omega
  rw[E] at hu;have w1:=w.Ib (u:=N);have f:=w1.HZ hu;have e:b.Ik nm=b.Lk:=by unfold BS.Ik;rw[Af h1]
  have R:({b with AW:=b.Lk.AW}:BS)=b.Lk:=by unfold BS.Lk;split<;>rfl
  rw[R] at f;rw[e];refine⟨_,u,c,G,?_,f,by rw[D];exact hc,w.C0.trans Bg⟩;rw[h1.1] at r2;rw[Ae,wj];simp only[abS,Fc,A.Ac,em,r2.Ac,l3,BN,J.Ac,h1.2,ld,O.Ac,w1.st (k:=2) (v0:=o) rfl (AV.cells hu)]
 have e:b.Ik nm=BS.Eh 8 b nm:=by unfold BS.Ik;rw[Ad h1]
 rw[e];have Jl:Ev cx 95 [Pt bi 0,.str nm] h λr h'=>r= .tuple []/\∃o' c' G',RX h' bi a o' c' t G' (BS.Eh 8 b nm)/\B1 (BS.Eh 8 b nm).A5 c'/\DB h (Bt bi G) h' (Bt bi G'):=by
  unfold Ev;rw[wj];have HG:∀(Q:HF) (k:DX->List Aa->IT),(∀x vs h1,(x= .exit 0\/x= .ret)->(∃o' c' G',RX h1 bi a o' c' t G' (BS.Eh 8 b nm)/\B1 (BS.Eh 8 b nm).A5 c'/\DB h (Bt bi G) h1 (Bt bi G'))->W cx (k x vs) Q h1)->
    W cx (.loop 3 [I 1] (λd=> .op (.int .leq) [g d 0,I 8] λz=> .Gg z (.call 224 [Pt bi 0,.str nm] λy=> .op (.un .not) [y] λv20=> .Gg v20 (.ret .ret [g d 0]) (.op (.int .add) [g d 0,I 1] λv=> .ret .normal [v])) (.ret (.exit 0) [g d 0])) k) Q h:=by
   intro Q k hk;refine Bl (λn:Nat=>[I ((9 -n:Nat):Int)]) (λn h1=>n<=8/\∃B p q b1,RX h1 bi a B p t q b1/\B1 b1.A5 p/\EB b1/\Nm b1.a/\BZ b1 (m+n*(4*(b.AW.length+8)+10))/\b1.AW.length<=b.AW.length+(8 -n)/\BS.Eh 8 b nm=BS.Eh n b1 nm/\DB h (Bt bi G) h1 (Bt bi q)) (λn=>n) 8 rfl ⟨Ag _,o,c,G,b,w,hc,ok,hnm,rm,Ab,rfl,.refl⟩ ?_;rintro n h1 ⟨hn,B,p,q,b1,w1,RS,VL,nm1,vC,Wa,j,s⟩;cases n with
   |zero=>simp only[abS,(AU:¬((9 -0:Nat):Int)<=8)];exact hk _ _ _ (.inl rfl) ⟨B,p,q,by rw[j];exact w1,by rw[j];exact RS,s⟩
   |succ n=>
    have hsp:(n+1)*(4*(b.AW.length+8)+10)=n*(4*(b.AW.length+8)+10)+(4*(b.AW.length+8)+10):=by rw[BJ,Ea]
    rw[hsp] at vC;have lj:BZ b1 (m+n*(4*(b.AW.length+8)+10)+4*b1.AW.length+10):=vC.le Ab;obtain⟨h2,K,L,M,l,f,IZ,H⟩:=aIS w1 RS VL lj nm1 nm;obtain⟨U9,aQ⟩:=ON lj nm;have xz:=(Yq (nm:=nm) VL).1;have C:=Nm.round (nm:=nm) nm1 lj;have hlt:((9 -(n+1):Nat):Int)<=8:=Ab;have inc:AB (.int .add) [I ((9 -(n+1):Nat):Int),I 1]=some (I ((9 -n:Nat):Int)):=by have:=BO (n:=9 -(n+1)) Ab;rwa [(Ab:9 -(n+1)+1=9 -n)] at this
    have i:BS.Eh (n+1) b1 nm=if(b1.round nm).1 then BS.Eh n (b1.round nm).2 nm else(b1.round nm).2:=rfl
    cases hr:(b1.round nm).1 with
    |true=>rw[hr] at l i;simp only[abS,hlt,l.Ac,inc];exact AL.next n rfl ⟨Ab,K,L,M,_,f,IZ,xz,C,U9,Ab,j.trans i,s.trans H⟩ Ab
    |false=>rw[hr] at l i;simp only[abS,hlt,l.Ac];exact hk _ _ _ (.inr rfl) ⟨K,L,M,by rw[j,i];exact f,by rw[j,i];exact IZ,s.trans H⟩
  by_cases h2:Bs [nm] (FA b.AW)=true
  .have P:¬Fi (FA b.AW).node b.A5<0:=λh=>h1 ⟨h2,h⟩;rw[h2] at r2;simp only[abS,Fc,A.Ac,em,r2.Ac,l3,BN,J.Ac,P];refine HG _ _ ?_;rintro x vs h1 (rfl|rfl) ⟨o',c',G',a1,a2,a3⟩;.simp only[BF];exact⟨_,rfl,rfl,o',c',G',a1,a2,a3⟩
   .simp only[BF];exact⟨_,rfl,rfl,o',c',G',a1,a2,a3⟩
  .have h2:Bs [nm] (FA b.AW)=false:=by simpa using h2
   rw[h2] at r2;simp only[BF,A.Ac,em,r2.Ac];refine HG _ _ ?_;rintro x vs h1 (rfl|rfl) ⟨o',c',G',a1,a2,a3⟩;.simp only[BF];exact⟨_,rfl,rfl,o',c',G',a1,a2,a3⟩
   .simp only[BF];exact⟨_,rfl,rfl,o',c',G',a1,a2,a3⟩
 obtain⟨r,h',hr,rfl,o',c',G',w',JO,x'⟩:=Jl.ret;exact⟨h',o',c',G',hr,w',JO,x'⟩
end
def mg{h:Ah}{fs:List Ci}{v:Aa}(hv:Dr fs v)(hne:fs≠[])(hl:fs.length<=1000000000):Jj h 3 48 .slnil v=some (h++[.cells (fs.map Ci.row).flatten],.Cs h.length 0 fs.length 3):=by have hm:AS=140737488355328:=rfl;have:=Lv (h:=h) (s:= .slnil) (z:=3) (b:=48) (.inl rfl) hv (by simpa using hne) (by rw[Aj];omega);rwa [Aj] at this
def vN{h:Ah}{v:Aa}(hv:Dr [] v):Jj h 3 48 .slnil v=some (h,.slnil):=PO (.inl rfl) hv
section
variable{h h':Ah}{bi a:Nat}{o c t:Aa}{G G' F:Nat->Prop}{b:BS}{x:Int}{m:Nat}
def aIY(w:RX h bi a o c t G b)(rm:BZ b m)(e:Ci):BK cx 217 [Pt bi 0,.agg e.row] h (.bool (b.settled e.c)) h:=by
 have ho:=rm.AW;have ld:A7 h none (Pt bi 2)=some o:=w.ld 2;have d:=ZQ (h:=h) w.o Ab e.c.node;unfold BS.settled;rw[Ae,ě,Ci.row];by_cases h0:e.c.node=0;.simp only[BF,AM h0,ld,d.Ac,true_or,Dx]
 .simp only[abS,h0,ld,d.Ac,false_or]
structure kW(h:Ah)(bi a:Nat)(t c:Aa)(G0:Nat->Prop)(b:BS)(fs:List Ci)(id m k:Nat)(h1:Ah):Prop where
 le:k<=fs.length
 low:b.Ly<=k
 ex:∃(o:Aa) (G:Nat->Prop) (b1:BS) (H5:List Ci),RX h1 bi a o c t G b1/\EB b1/\Nm b1.a/\BZ b1 (m+4*(fs.length-k))/\h1[id]?=some (.cells (H5.map Ci.row).flatten)/\H5.length=fs.length/\H5.drop k=fs.drop k/\
  BS.CR b={(BS.Jn (b.A5.drop k) b1).2 with A5:=(H5.take k).map (·.c)++(BS.Jn (b.A5.drop k) b1).1}/\¬Bt bi G id/\DB h (Bt bi G0) h1 (Bt bi G)
def kW.init(w:RX h bi a o c t G b)(ok:EB b)(hnm:Nm b.a)(rm:BZ b (m+4*b.A5.length)){fs:List Ci}(Gw:fs.map (·.c)=b.A5):
  kW h bi a t c G b fs h.length m b.Ly (h++[.cells (fs.map Ci.row).flatten]):=by
 have Hm:b.A5.length=fs.length:=by rw[<-Gw,Aj]
 have hk:=Ta (b:=b);have hne:h.length≠bi:=Nat.ne_of_gt w.lt;refine⟨Ab,Ag _,o,G,b,fs,w.Ib (u:=[.cells (fs.map Ci.row).flatten]),ok,hnm,rm.le Ab,?_,rfl,rfl,?_,?_,w.C0⟩;.simp
 .unfold BS.CR;simp only;rw[Ft,Gw]
 .rintro(rfl|hg);.exact hne rfl
  .exact absurd (w.w.lt hg) (Dj _)
def kW.step{fs:List Ci}{id k:Nat}{h1:Ah}(Gw:fs.map (·.c)=b.A5)(KI:∀e∈b.A5,e.name.length<=1000/\DP e.Az)(hi:h.length<=id)(hlt:k<fs.length)(i:kW h bi a t c G b fs id m k h1):
  ∃(h2:Ah) (n:Int),A7 h1 none (Pt id (k*3+1))=some (.str fs[k].c.name)/\A7 h1 none (Pt id (k*3+2))=some fs[k].v/\BK cx 86 [Pt bi 0,.agg [I 2,.str fs[k].c.name,ff,S [],ff,S [],ff,ff,fs[k].v,ff,S [],.int .i32 0]] h1 (I n) h2/\
   Co h2 1 (Pt id (k*3)) (I n)=some (Am.put h2 id (k*3) (I n))/\kW h bi a t c G b fs id m (k+1) (Am.put h2 id (k*3) (I n)):=by
 obtain⟨y,z,b1,H5,w1,VL,nm1,vC,RS,Wa,eY,ky,Nj,f⟩:=i.ex;have RK:k<H5.length:=Ab;have Hm:b.A5.length=fs.length:=by rw[<-Gw,Aj]
 have yj:k<b.A5.length:=Ab;have r:H5[k]=fs[k]:=by have:=Ca (λl=>l[0]?) eY;simp only[Cr,Bu] at this;rw[Ak RK,Ak hlt] at this;exact D7 this
 have q:b.A5[k]=fs[k].c:=by simp only[<-Gw,CZ]
 have hg:(H5.map Ci.row)[k]?=some fs[k].row:=by rw[Ck,Ak RK,r];rfl
 have ld:∀j,j<3->A7 h1 none (Pt id (k*3+j))=fs[k].row[j]?:=λj hj=>by simp only[A7,RS,Ex];exact LC (OB H5) hj hg
 have KI:=KI fs[k].c (by rw[<-q];exact AN yj);have hr:N1 fs[k].c.name fs[k].v [I 2,.str fs[k].c.name,ff,S [],ff,S [],ff,ff,fs[k].v,ff,S [],.int .i32 0]:=⟨I 2,ff,S [],ff,S [],ff,ff,ff,S [],.int .i32 0,rfl⟩;obtain⟨h2,w,s,r2,u,d⟩:=l_ (m:=m+4*(fs.length-(k+1))) w1 VL.ba (vC.le Ab) nm1 hr fs[k].ok KI.2 KI.1;have gl:id<h1.length:=(Al.1 RS).1;have IZ:h2[id]?=some (.cells (H5.map Ci.row).flatten):=by rw[d.old id gl Nj];exact RS
 have Tv:¬Bt bi s id:=λhg=>by
  rcases d.Bt id hg with hg|hg
  .exact Nj hg
  .omega
 have p:At h2 id (k*3) (I fs[k].c.node):=⟨_,IZ,by have:=LC (k:=0) (OB H5) AU hg;rw[Bu] at this;rw[this];rfl⟩
 let g:Ci:=⟨{fs[k].c with node:=b1.a.len+1},fs[k].v,fs[k].ok⟩
 have hrow:(H5.map Ci.row).flatten.set (k*3) (I (b1.a.len+1))=((H5.set k g).map Ci.row).flatten:=by have:=N0 (AD:=H5.map Ci.row) (i:=k) (k:=0) (v:= I (b1.a.len+1)) (OB H5) (by simpa using RK) AU;rw[Bu] at this;rw[Ep,BQ,Af (by rw[FV (OB H5),Aj];omega)];rw[AI] at this;rw[show g.row=((H5.map Ci.row)[k]'(by simpa using RK)).set 0 (I (b1.a.len+1)) by rw[CZ,r];rfl];exact this
 refine⟨h2,b1.a.len+1,ld 1 AU,ld 2 AU,r2,p.store rfl,⟨hlt,by have:=i.low;omega,w,s,_,H5.set k g,u.Dn λj hj=>Cj λe=>Tv (e▸hj),P2 VL,nm1.MR KI.1,JA (m:=m+4*(fs.length-(k+1))) (vC.le Ab) KI.2 KI.1,?_,by rw[Bp];exact Wa,?_,?_,Tv,⟨by rw[JG];exact(f.trans d).len,λj hj hn=>(Cj Ab).trans ((f.trans d).old j hj hn),(f.trans d).Bt⟩⟩⟩;.rw[Hy IZ,AO (by have:=d.len;omega),hrow]
 .rw[ZW (Nt k)];have:=Ca (λl=>l.drop 1) eY;simpa[El] using this
 .rw[ky,AG yj,q,BS.Jn];simp only
  congr 1
  rw[AE (by rw[Bp];exact RK),aFf,BE,O2 (Ag k),AI];rfl
def aIZ(w:RX h bi a o c t G b)(hc:B1 b.A5 c)(ok:EB b)(rm:BZ b (m+4*b.A5.length))(hnm:Nm b.a):
  ∃h' o' c' G',BK cx 93 [Pt bi 0] h (.tuple []) h'/\RX h' bi a o' c' t G' b.CR/\B1 b.CR.A5 c'/\DB h (Bt bi G) h' (Bt bi G'):=by
 have ho:=rm.AW;have QB:=rm.A5;obtain⟨fs,Gw,hcs⟩:=hc;have Hm:b.A5.length=fs.length:=by rw[<-Gw,Aj]
 have Jl:Ev cx 93 [Pt bi 0] h λr h'=>r= .tuple []/\∃o' c' G',RX h' bi a o' c' t G' b.CR/\B1 b.CR.A5 c'/\DB h (Bt bi G) h' (Bt bi G'):=by
  unfold Ev;have l3:=w.l3;have lc:=AV.CN hcs;rw[aDk];simp only[BF,l3,lc];refine DW (i:=0) (λn:Nat=>[I (n:Int)]) (λn h1=>n<=fs.length/\AR b.settled b.A5=AR b.settled (b.A5.take n)/\h1=h) (λn=>n) (λn h1=>n=b.Ly/\h1=h) fs.length rfl ⟨Ag _,by rw[<-Hm,Bx],rfl⟩ ?_ ?_
  .rintro n h1 ⟨hn,ha,rfl⟩;cases n with
   |zero=>simp only[abS,(AU:¬(0:Int)<((0:Nat):Int))];refine .HG 0 rfl ⟨?_,rfl⟩;unfold BS.Ly;rw[ha];rfl
   |succ n=>
    have hlt:n<b.A5.length:=Ab;have S4:n<fs.length:=Ab;rw[GV hlt] at ha;have i1:=Hw (n:=n+1) (Ab:0<n+1) (Ab:n+1<9223372036854775807);rw[Fb] at i1;have d:=AV.BM (k:= .i64) hcs S4;have en:fs[n].c=b.A5[n]:=by simp only[<-Gw,CZ]
    have z:=aIY w rm fs[n];rw[en] at z;have lM:fs[n].row.length=3:=rfl;have q:fs[n].row.take 3=fs[n].row:=rfl;simp only[abS,↓reduceIte,(Ab:(0:Int)<((n+1:Nat):Int)),l3,i1,d,lM,q,Ag,z.Ac];cases hs:b.settled b.A5[n] with
    |true=>rw[hs,Af rfl] at ha;simp only[abS];exact .HG (n+1) rfl ⟨by unfold BS.Ly;rw[ha];omega,rfl⟩
    |false=>rw[hs,Ad AU] at ha;simp only[abS];exact .next n rfl ⟨Ab,ha,rfl⟩ Ab
  .rintro n h1 ⟨rfl,M⟩;rw[M];by_cases hne:fs=[]
   .subst hne;have ha:b.A5=[]:=Gw.symm;have L:b.Ly=0:=by have:=Ta (b:=b);rw[ha] at this;exact Nat.le_zero.1 this
    have hb:b.CR=b:=by unfold BS.CR;rw[ha];simp only[aAd,BS.Jn,aAe,BU];rw[<-ha]
    have g0:=vN (h:=h) hcs;have f:=w.st (k:=3) (v:= .slnil) (v0:=c) rfl rfl;have w1:RX (put h bi 3 .slnil) bi a o .slnil t G b:=w.Kh (l:=b.A5);have d:=P4 w1.qM (cf (l:=[]) (.inr ⟨rfl,rfl⟩)) rfl;have hz:(b.Ly:Int)=((0:Nat):Int):=by rw[L]
    simp only[BF,↓reduceIte,l3,g0];refine DW (i:=2) (λn:Nat=>[I (n:Int)]) (λn h1=>n=0/\h1=h) (λn=>n) (λn h1=>n=0/\h1=h) 0 (by rw[hz]) ⟨rfl,rfl⟩ ?_ ?_;.rintro n h1 ⟨rfl,rfl⟩;simp only[BF,Nat.reduceLeDiff,↓reduceIte,AT,lN,show AB (.len false) [.slnil]=some (I 0) from rfl,(AU:¬((0:Nat):Int)<0)];exact .HG 0 rfl ⟨rfl,rfl⟩
    .rintro n h1 ⟨rfl,rfl⟩;simp only[BF,↓reduceIte,f,d];refine⟨_,rfl,rfl,o,.slnil,G,?_,⟨[],by rw[hb,ha];rfl,.inr ⟨rfl,rfl⟩⟩,Bg.trans Bg⟩;rw[hb];exact w1.Kh (l:=b.A5)
   .have i0:=kW.init (m:=m) w ok hnm rm Gw;have g1:=mg (h:=h) hcs hne Ab;have B:AB (.len false) [.Cs h.length 0 fs.length 3]=some (I (fs.length:Int)):=rfl;simp only[BF,↓reduceIte,l3,g1];refine DW (i:=2) (λn:Nat=>[I (n:Int)]) (λk h1=>kW h bi a t c G b fs h.length m k h1) (λk=>fs.length-k) (λk h1=>k=fs.length/\kW h bi a t c G b fs h.length m k h1) b.Ly rfl i0 ?_ ?_
    .intro k h1 i;have Eo:=i.le;rcases AQ k fs.length with hlt|Ei
     .obtain⟨h2,n,f,K,J,H,E⟩:=kW.step Gw rm.DE (Ag _) hlt i;have d:AB (.Fu 3) [.Cs h.length 0 fs.length 3,I (k:Int)]=some (Pt h.length (k*3)):=E0 hlt;have k_:fs[k].v.cells=[fs[k].v]:=AV.cells fs[k].ok;simp only[abS,Nat.reduceLeDiff,↓reduceIte,AT,B,(Ab:(k:Int)<(fs.length:Int)),d,f,K,k_,J.Ac,H,BO (Ab:k<9223372036854775807)];exact .next (k+1) rfl E Ab
     .simp only[abS,Nat.reduceLeDiff,↓reduceIte,AT,B,(Ab:¬(k:Int)<(fs.length:Int))];exact .HG k rfl ⟨Ab,i⟩
    .rintro k h1 ⟨rfl,i⟩;obtain⟨A,s,b1,H5,w1,VL,nm1,vC,RS,Wa,eY,ky,Nj,C⟩:=i.ex;have g:h.length≠bi:=λe=>Nj (.inl e);have f:=w1.st (k:=3) (v:= .Cs h.length 0 fs.length 3) (v0:=c) rfl rfl;have y:=w1.Kh (u:= .Cs h.length 0 fs.length 3) (l:=b1.A5);have IZ:(put h1 bi 3 (.Cs h.length 0 fs.length 3))[h.length]?=_:=(Cj g).trans RS;have hf:=I2 (OB H5) IZ;rw[Aj,Wa] at hf;have d:=P4 y.qM hf (by rw[Ap g]);have D:RX ((put h1 bi 3 (.Cs h.length 0 fs.length 3)).set h.length .CF) bi a A _ t s {b1 with A5:=b1.A5}:=y.Dn λj hj=>Ap λe=>Nj (by rw[e];exact hj);simp only[BF,↓reduceIte,f,d];have hb:b.CR={b1 with A5:=H5.map (·.c)}:=by rw[ky,A0 Ab,AF Ab];simp only[BS.Jn,By]
     refine⟨_,rfl,rfl,A,_,s,by rw[hb];exact D.Kh,⟨H5,by rw[hb],.mk⟩,?_⟩;have p:=C.trans (Bg (bi:=bi) (G:=s) (k:=3) (v:= .Cs h.length 0 fs.length 3));refine DB.trans ⟨by rw[Bp];exact p.len,λj hj hn=>?_,p.Bt⟩ Bg;rw[Ap Ab];exact p.old j hj hn
 obtain⟨r,h',hr,rfl,o',c',G',w',JO,x'⟩:=Jl.ret;exact⟨h',o',c',G',hr,w',JO,x'⟩
end
section
variable{h h':Ah}{bi a:Nat}{o c t:Aa}{G G' F:Nat->Prop}{b:BS}{x:Int}{m j:Nat}{q:pP}
variable{nm:An}{av:Aa}{l:List A6}{r:List Aa}{sp p:Int}
def aNE(w:RX h bi a o c t G b)(hc:B1 b.A5 c)(ok:EB b)(sz:Sz b (j+1))(hnm:Nm b.a)(hq:lp q)(hv:Bq q.Az av):
  ∃h' o' c' t' G',BK cx 25 [Pt bi 0,.agg (LS q av)] h (.agg (YS b q).2.row) h'/\RX h' bi a o' c' t' G' (YS b q).1/\B1 (YS b q).1.A5 c'/\DB h (Bt bi G) h' (Bt bi G'):=by
 unfold YS LS;by_cases d:q.k=1;.rw[Af d];dsimp only;obtain⟨r,cB,D,hr,DL⟩:=VP (q:=q) hv hq.Az.1 h;rw[LS] at D;obtain⟨h',o',G',r2,w',x'⟩:=l_ (m:=5000000*j) w ok sz.YW hnm hr DL hq.Az hq.name;refine⟨h',o',c,t,G',?_,w',by rw[Ek];exact hc,x'⟩;rw[Ae,FM];simp only[abS,Nat.reduceLeDiff,↓reduceIte,AT,AM d,D.Ac,r2.Ac];try rfl
 rw[Ad d];by_cases f:q.k=2;.rw[Af f];dsimp only;obtain⟨r,cB,D,hr,DL⟩:=VP (q:=q) hv hq.Az.1 h;rw[LS] at D;obtain⟨h',o',G',r2,w',x'⟩:=aIG (m:=5000000*j) w ok sz.YW hnm hr DL hq.Az hq.name q.Bc;refine⟨h',o',c,t,G',?_,w',by rw[Ek];exact hc,x'⟩;rw[Ae,FM];simp only[abS,Nat.reduceLeDiff,↓reduceIte,AT,d,AM f,D.Ac,r2.Ac];try rfl
 rw[Ad f];by_cases g:q.k=3;.rw[Af g];dsimp only;obtain⟨r,cB,D,hr,DL⟩:=VP (q:=q) hv hq.Az.1 h;rw[LS] at D;obtain⟨h',o',c',G',r2,w',JO,x'⟩:=aNA (m:=5000000*j) w hc ok sz.YW hnm hr DL hq.Az hq.name;refine⟨h',o',c',t,G',?_,w',JO,x'⟩;rw[Ae,FM];simp only[abS,Nat.reduceLeDiff,↓reduceIte,AT,d,f,AM g,D.Ac,r2.Ac];try rfl
 rw[Ad g];by_cases i:q.k=4;.rw[Af i];dsimp only;obtain⟨h',G',r2,w',x'⟩:=aIM (m:=5000000*j) w ok sz.YW hnm q.r;refine⟨h',o,c,t,G',?_,w',hc,x'⟩;rw[Ae,FM];simp only[abS,↓reduceIte,AT,d,f,g,AM i,r2.Ac];try rfl
 rw[Ad i];by_cases y:q.k=5;.rw[Af y];dsimp only;obtain⟨h',G',r2,w',x'⟩:=aIN (m:=5000000*j) w ok sz.YW hnm q.s (by have:=hq.s;omega) q.a;refine⟨h',o,c,t,G',?_,w',hc,x'⟩;rw[Ae,FM];simp only[abS,↓reduceIte,AT,d,f,g,i,AM y,r2.Ac];try rfl
 rw[Ad y];by_cases z:q.k=6;.rw[Af z];dsimp only;obtain⟨r,cB,D,hr,DL⟩:=VP (q:=q) hv hq.Az.1 h;rw[LS] at D;obtain⟨h',o',G',r2,w',x'⟩:=aII (m:=5000000*j) w ok sz.YW hnm hr DL hq.Az hq.name q.n;refine⟨h',o',c,t,G',?_,w',by show B1 (b.EG q.name q.Az 1).A5 c;rw[Ek];exact hc,x'⟩;rw[Ae,FM];simp only[abS,↓reduceIte,AT,d,f,g,i,y,AM z,D.Ac,r2.Ac];try rfl
 rw[Ad z];by_cases A:q.k=7;.rw[Af A];dsimp only;obtain⟨h',o',r2,w',x'⟩:=aNy w sz.rm;refine⟨h',o',c,t,G,?_,w',by have e:b.JV.A5=b.A5:=(by unfold BS.JV;split<;>rfl);rw[e];exact hc,x'⟩;rw[Ae,FM];simp only[abS,↓reduceIte,AT,d,f,g,i,y,z,AM A,r2.Ac];try rfl
 rw[Ad A];by_cases B:q.k=8;.rw[Af B];dsimp only;obtain⟨h',o',c',G',r2,w',JO,x'⟩:=aIZ (m:=5000000*j) w hc ok (sz.rm.le (by have:=sz.A5;omega)) hnm;refine⟨h',o',c',t,G',?_,w',JO,x'⟩;rw[Ae,FM];simp only[abS,↓reduceIte,AT,d,f,g,i,y,z,A,AM B,r2.Ac];try rfl
 rw[Ad B];by_cases C:q.k=9;.rw[Af C];dsimp only;obtain⟨h',o',r2,w',x'⟩:=aIJ w sz.rm q.name;refine⟨h',o',c,t,G,?_,w',by have e:(b.Ds q.name).A5=b.A5:=(by unfold BS.Ds;split;split<;>rfl;rfl);rw[e];exact hc,x'⟩;rw[Ae,FM];simp only[abS,↓reduceIte,AT,d,f,g,i,y,z,A,B,AM C,r2.Ac];try rfl
 rw[Ad C];by_cases L9:q.k=10;.rw[Af L9];dsimp only;obtain⟨h',o',c',G',r2,w',JO,x'⟩:=aND (m:=5000000*j) w hc ok (sz.rm.le (by have:=sz.AW;omega)) hnm q.name;refine⟨h',o',c',t,G',?_,w',JO,x'⟩;rw[Ae,FM];simp only[abS,↓reduceIte,AT,d,f,g,i,y,z,A,B,C,AM L9,r2.Ac];try rfl
 rw[Ad L9];by_cases MP:q.k=11;.rw[Af MP];dsimp only;obtain⟨h',r2,w',x'⟩:=zb w sz.rm;refine⟨h',o,c,t,G,?_,w',hc,x'⟩;rw[Ae,FM];simp only[abS,↓reduceIte,AT,d,f,g,i,y,z,A,B,C,L9,AM MP,r2.Ac];try rfl
 rw[Ad MP];by_cases Nq:q.k=12;.rw[Af Nq];dsimp only;obtain⟨r,cB,D,hr,DL⟩:=VP (q:=q) hv hq.Az.1 h;rw[LS] at D;obtain⟨h',G',r2,w',x'⟩:=aNx (m:=5000000*j) w ok sz.YW hr DL hq.Az q.a;refine⟨h',o,c,t,G',?_,w',by have e:(b.Gf q.Az q.a).A5=b.A5:=(by unfold BS.Gf;split<;>rfl);rw[e];exact hc,x'⟩;rw[Ae,FM];simp only[abS,↓reduceIte,AT,d,f,g,i,y,z,A,B,C,L9,MP,AM Nq,D.Ac,r2.Ac];try rfl
 rw[Ad Nq];by_cases Pj:q.k=13;.rw[Af Pj];dsimp only;obtain⟨h',o',c',t',r2,w',JO,x'⟩:=aIX w hc sz.rm;refine⟨h',o',c',t',G,?_,w',JO,x'⟩;rw[Ae,FM];simp only[abS,↓reduceIte,AT,d,f,g,i,y,z,A,B,C,L9,MP,Nq,AM Pj,r2.Ac];try rfl
 rw[Ad Pj];by_cases QI:q.k=14;.rw[Af QI];dsimp only;obtain⟨h',r2,w',x'⟩:=aIH w;refine⟨h',o,c,t,G,?_,w',hc,x'⟩;rw[Ae,FM];simp only[abS,↓reduceIte,AT,d,f,g,i,y,z,A,B,C,L9,MP,Nq,Pj,AM QI,r2.Ac];try rfl
 rw[Ad QI];by_cases Ud:q.k=15;.rw[Af Ud];dsimp only;have w':RX (put h bi 15 (.bool q.b)) bi a o c t G {b with EV:=q.b}:=w.put rfl rfl w.o w.t;refine⟨put h bi 15 (.bool q.b),o,c,t,G,?_,w',hc,Bg⟩;rw[Ae,FM];simp only[abS,↓reduceIte,AT,d,f,g,i,y,z,A,B,C,L9,MP,Nq,Pj,QI,AM Ud,w.st (k:=15) (v:= .bool q.b) rfl rfl];try rfl
 rw[Ad Ud];by_cases VQ:q.k=16;.rw[Af VQ];dsimp only;have ye:=sz.rm.tm;have aT:AS=140737488355328:=rfl;obtain⟨u,L,hu⟩:=AV.FJ (b:=8) w.t Ab;have K:=AV.Jv (b:=8) (a:=q.n) hu Ab;have em:AB (.C8 1) [I q.n]=some (.sl 1 [BH q.n]):=rfl;have IE:DV (b.tm++[q.n]) (.sl 1 ((b.tm++[q.n]).map BH)):= .mk;have w':=w.YP IE;refine⟨put h bi 6 (.sl 1 ((b.tm++[q.n]).map BH)),o,c,_,G,?_,w',hc,Bg⟩;rw[Ae,FM];simp only[abS,↓reduceIte,AT,d,f,g,i,y,z,A,B,C,L9,MP,Nq,Pj,QI,Ud,AM VQ,w.l6,L,em,K,w.st (k:=6) (v0:=t) rfl (AV.cells IE)];try rfl
 rw[Ad VQ];by_cases YX:q.k=17
 .rw[Af YX];dsimp only;have QB:=sz.rm.A5;obtain⟨u,r2,JO,H⟩:=hc.wi Ab (e:=Cc.zero) (v:= .slnil) (.inr ⟨rfl,rfl⟩) AU (b.A5.length:Int) h;rw[Vf (Ag _),Bx,Er] at JO;have w':=w.Kh (u:=u) (l:=b.A5++[Cc.zero]);have lc:AB (.len false) [c]=some (I (b.A5.length:Int)):=by obtain⟨fs,Gw,Sk⟩:=hc;rw[AV.CN Sk,<-Gw,Aj]
  have E:BK cx 100 [c,.agg [I 0,S [],.slnil],I (b.A5.length:Int)] h u h:=r2;refine⟨put h bi 3 u,o,u,t,G,?_,w',JO,Bg⟩;rw[Ae,FM];simp only[abS,↓reduceIte,AT,d,f,g,i,y,z,A,B,C,L9,MP,Nq,Pj,QI,Ud,VQ,AM YX,w.l3,lc,E.Ac,w.st (k:=3) (v0:=c) rfl H];try rfl
 rw[Ad YX];by_cases ZT:q.k=18;.rw[Af ZT];dsimp only;obtain⟨h',o',r2,w',x'⟩:=aNz w sz.rm;refine⟨h',o',c,t,G,?_,w',by have e:b.Lk.A5=b.A5:=(by unfold BS.Lk;split<;>rfl);rw[e];exact hc,x'⟩;rw[Ae,FM];simp only[abS,↓reduceIte,AT,Fc,d,f,g,i,y,z,A,B,C,L9,MP,Nq,Pj,QI,Ud,VQ,YX,AM ZT,r2.Ac];try rfl
 rw[Ad ZT];by_cases kQ:q.k=19;.rw[Af kQ];dsimp only;have w':RX (put h bi 7 (I q.a)) bi a o c t G {b with head:=q.a}:=w.put rfl rfl w.o w.t;refine⟨put h bi 7 (I q.a),o,c,t,G,?_,w',hc,Bg⟩;rw[Ae,FM];simp only[abS,↓reduceIte,AT,d,f,g,i,y,z,A,B,C,L9,MP,Nq,Pj,QI,Ud,VQ,YX,ZT,AM kQ,w.st (k:=7) (v:= I q.a) rfl rfl];try rfl
 rw[Ad kQ];by_cases pS:q.k=20;.rw[Af pS];dsimp only;have w':=w.pG q.n;refine⟨put h bi 4 (I q.n),o,c,t,G,?_,w',hc,Bg⟩;rw[Ae,FM];simp only[abS,↓reduceIte,AT,d,f,g,i,y,z,A,B,C,L9,MP,Nq,Pj,QI,Ud,VQ,YX,ZT,kQ,AM pS,w.st (k:=4) (v:= I q.n) rfl rfl];try rfl
 rw[Ad pS];by_cases vI:q.k=21;.rw[Af vI];dsimp only;have QB:=sz.rm.A5;obtain⟨fs,Gw,Sk⟩:=hc;obtain⟨u,r2,hu⟩:=f84 (h:=h) Sk (by rw[<-Gw,Aj] at QB;omega);have w':=w.Kh (u:=u) (l:=Ee b.A5);have JO:B1 (Ee b.A5) u:=⟨_,by rw[QF,Gw],hu⟩;refine⟨put h bi 3 u,o,u,t,G,?_,w',JO,Bg⟩;rw[Ae,FM];simp only[abS,↓reduceIte,AT,d,f,g,i,y,z,A,B,C,L9,MP,Nq,Pj,QI,Ud,VQ,YX,ZT,kQ,pS,AM vI,w.l3,r2.Ac,w.st (k:=3) (v0:=c) rfl (AV.cells hu)];try rfl
 rw[Ad vI];by_cases ls:q.k=22;.rw[Af ls];dsimp only;have ho:=sz.rm.AW;have ld:A7 h none (Pt bi 2)=some o:=w.ld 2;have em:AB (.C8 1) [.str q.name]=some (.sl 1 ([q.name].map CC)):=D1 (ws:=[q.name]) rfl AH;obtain⟨u,J,r2,hu⟩:=f85 (h:=h) w.o Ab (CX (ws:=[q.name])) AH;rw[<-Mv] at hu;have w1:=w.Ib (u:=J);have w':=w1.HZ hu;refine⟨put (h++J) bi 2 u,u,c,t,G,?_,w',hc,w.C0.trans Bg⟩;rw[Ae,FM];simp only[abS,↓reduceIte,AT,d,f,g,i,y,z,A,B,C,L9,MP,Nq,Pj,QI,Ud,VQ,YX,ZT,kQ,pS,vI,AM ls,ld,em,r2.Ac,w1.st (k:=2) (v0:=o) rfl (AV.cells hu)];try rfl
 rw[Ad ls];by_cases ym:q.k=23;.rw[Af ym];dsimp only;have w':RX (put h bi 8 (I q.a)) bi a o c t G {b with MT:=q.a}:=w.put rfl rfl w.o w.t;refine⟨put h bi 8 (I q.a),o,c,t,G,?_,w',hc,Bg⟩;rw[Ae,FM];simp only[abS,↓reduceIte,AT,d,f,g,i,y,z,A,B,C,L9,MP,Nq,Pj,QI,Ud,VQ,YX,ZT,kQ,pS,vI,ls,AM ym,w.st (k:=8) (v:= I q.a) rfl rfl];try rfl
 rw[Ad ym];by_cases Ū:q.k=24;.rw[Af Ū];dsimp only;obtain⟨r,cB,D,hr,DL⟩:=VP (q:=q) hv hq.Az.1 h;rw[LS] at D;obtain⟨h',G',r2,w',x'⟩:=ů (m:=5000000*j) w ok sz.YW hnm hr DL hq.Az hq.name q.a q.Bc;refine⟨h',o,c,t,G',?_,w',by have e:(b.Es q.name q.Az q.Bc q.a).A5=b.A5:=(by unfold BS.Es;split<;>rfl);rw[e];exact hc,x'⟩;rw[Ae,FM];simp only[abS,↓reduceIte,AT,Fc,d,f,g,i,y,z,A,B,C,L9,MP,Nq,Pj,QI,Ud,VQ,YX,ZT,kQ,pS,vI,ls,ym,AM Ū,D.Ac,r2.Ac];try rfl
 rw[Ad Ū];refine⟨h,o,c,t,G,?_,w,hc,.refl⟩;rw[Ae,FM];simp only[abS,↓reduceIte,AT,d,f,g,i,y,z,A,B,C,L9,MP,Nq,Pj,QI,Ud,VQ,YX,ZT,kQ,pS,vI,ls,ym,Ū];try rfl
end
section
variable{h h':Ah}{bi a:Nat}{o c t:Aa}{G G' F:Nat->Prop}{b:BS}{x:Int}{m j:Nat}{q:pP}
variable{nm:An}{av:Aa}{l:List A6}{r:List Aa}{sp p:Int}
def vO(h:Ah):V8 h []=some (h++[.CF,.cells RN.z.row,.cells [I 0],.cells [.Cs (h.length+1) 0 1 13,.Cs (h.length+2) 0 1 1]],.ptr (some (h.length+3,0))):=by unfold V8;simp only[AI,CO,BU];rfl
def aNF(h:Ah):BK cx 61 [] h (.ptr (some (h.length+3,0))) (h++[.CF,.cells RN.z.row,.cells [I 0],.cells [.Cs (h.length+1) 0 1 13,.Cs (h.length+2) 0 1 1]]):=by have d:E7 (.Rh V8) h []=some (h++[.CF,.cells RN.z.row,.cells [I 0],.cells [.Cs (h.length+1) 0 1 13,.Cs (h.length+2) 0 1 1]],.ptr (some (h.length+3,0))):=vO h;rw[Ae,show B9 cx 61 []=V9 [] from rfl,V9];simp only[BF,d]
def ų(h:Ah):RA (h++[.CF,.cells RN.z.row,.cells [I 0],.cells [.Cs (h.length+1) 0 1 13,.Cs (h.length+2) 0 1 1]]) (h.length+3) (h.length+1) (h.length+2) [] ⟨[],[]⟩:=by
 refine⟨rfl,rfl,?_,?_,?_,Ab,Ab,Ab⟩;.rw[Bd Ab,(Ab:h.length+3 -h.length=3)];rfl
 .rw[Bd Ab,(Ab:h.length+1 -h.length=1)];rfl
 .rw[Bd Ab,(Ab:h.length+2 -h.length=2)];rfl
def aI0(h:Ah)(q:Bool):∃h1 h2 h' a bi G,BK cx 61 [] h (Pt a 0) h1/\BK cx 62 [Pt a 0,.bool q] h1 (I 1) h2/\BK cx 64 [Pt a 0,I 1] h2 (Pt bi 0) h'/\RX h' bi a .slnil .slnil .slnil G (DC q)/\DB h (λ_=>False) h' (Bt bi G):=by
 obtain⟨h2,f,g,uW,r2,d,e⟩:=aIx (ų h) (by show(0:Int)<=1000000000;decide) q;have d:RA h2 (h.length+3) f g uW (nu q):=d;have hx:(nu q).has 1:=⟨GC 1,GC 1⟩;have hk:((nu q).nd 1).kind=1:=by rw[show(nu q).nd 1=(DC q).a.nd 1 from rfl,OP,Af rfl]
 have i:=da d hx hk;have Eo:h.length+4<=h2.length:=by have:=e.len;simpa using this
 refine⟨_,h2,h2++[.cells (IL (h.length+3) (DC q) .slnil .slnil .slnil)],h.length+3,h2.length,JC (h.length+3) f g,aNF h,r2,?_,⟨AH,.inr ⟨rfl,rfl⟩,.inr ⟨rfl,rfl⟩,⟨f,g,uW,d.Dn λj hj=>Ai (d.lt hj),rfl⟩,λhj=>absurd (d.lt hj) (Dj _)⟩,⟨?_,λj hj _=>?_,λj hj=> .inr ?_⟩⟩;.rw[Ae,aDe];simp only[abS,Nat.reduceLeDiff,↓reduceIte,AT,i.Ac,B2];rfl
 .simp;omega
 .rw[Ai Ab,e.old j D9 (by unfold JC;omega),Ai hj]
 .rcases hj with rfl|hj
  .omega
  .rcases e.Bt j hj with hj|hj
   .unfold JC at hj;omega
   .simp at hj;omega
def RX.yo(w:RX h bi a o c t G b)(i:Item):∃h',Co h 4 (Pt bi 10) (.agg i.row)=some h'/\RX h' bi a o c t G {b with ctx:=i}/\DB h (Bt bi G) h' (Bt bi G):=by refine⟨h.set bi (.cells (IL a {b with ctx:=i} o c t)),?_,⟨AO w.lt,w.o,w.t,w.w.Dn λj hj=>Ap λe=>w.nb (by rw[e];exact hj),w.nb⟩,⟨by rw[Bp];exact Ag _,λj _ hn=>Ap λe=>hn (.inl e.symm),λ_ h=> .inl h⟩⟩;simp only[Co,w.hb];rfl
def aNG(h:Ah)(sp:Int)(nm:An)(hv:Bq l av)(hl:DP l)(hn:nm.length<=1000)(q f q':Bool):∃h1 h2 h' a bi o t G,BK cx 61 [] h (Pt a 0) h1/\BK cx 62 [Pt a 0,.bool q] h1 (I 1) h2/\BK cx 63 [Pt a 0,I 1,.agg [I sp,.str nm,av,.bool q',.bool f]] h2 (Pt bi 0) h'/\RX h' bi a o .slnil t G (Ue sp nm l q f)/\DB h (λ_=>False) h' (Bt bi G):=by
 obtain⟨h1,h2,h3,a,bi,G,r1,r2,H,w,x⟩:=aI0 h q;have ok0:=OO q;have Pb:(DC q).a.has 1:=⟨GC 1,GC 1⟩;have Zs:((DC q).a.nd 1).kind=1:=by rw[OP,Af rfl]
 have V:(DC q).II 1=1:=by unfold BS.II;rw[OP,Af rfl];rfl
 have L:(DC q).Es DI [] 1 1={DC q with a:=(DC q).a.elem 1 1 DI []}:=by unfold BS.Es;rw[Af J1,V];rfl
 have M:(DC q).GB DI [] 1=⟨2,1,DI,false⟩:=by unfold BS.GB;rw[Af J1];rfl
 obtain⟨h4,G4,E,w4,x4⟩:=w.step (A':=(DC q).a.elem 1 1 DI []) (R:=λh'=>BK cx 165 [Pt a 0,I 1,I 1,.str DI,.slnil] h3 (.tuple [I ((DC q).a.len+1),I 0]) h') (λn i ps wa=>aBr (l:=[]) wa (by show(1:Int)+3<=1000000000;decide) Pb Zs J1 (.inr ⟨rfl,rfl⟩) AU (λy hy=>(nomatch hy)));rw[<-L] at w4;obtain⟨np,f4,le4⟩:=P1 (nm:=DI) (at_:=[]) (p:=1) (OO q) J1;have U:=I8 (m:=1000) (nm:=DI) (l:=[]) (sp:=1) (p:=1) ((OQ q).rm.le Ab) ⟨AU,λa ha=>(nomatch ha)⟩;obtain⟨O,e,A,w5,x5⟩:=de w4 np.ba U 1 ((DC q).GB DI [] 1).node 0;have ho:((DC q).Es DI [] 1 1).AW=[]:=by rw[L];rfl
 have K:BY (((DC q).Es DI [] 1 1).AW++[(DC q).GB DI [] 1]) (.sl 4 [((DC q).GB DI [] 1).row]):=by rw[ho];exact .mk
 have u:=w5.st (k:=2) (v:= .sl 4 [((DC q).GB DI [] 1).row]) (v0:= .slnil) rfl rfl;have T:=w5.HZ K;have s:Co (put O bi 2 (.sl 4 [((DC q).GB DI [] 1).row])) 1 (Pt bi 9) tt=some (put (put O bi 2 (.sl 4 [((DC q).GB DI [] 1).row])) bi 9 tt):=T.st (k:=9) (v:=tt) (v0:= .bool ((DC q).Es DI [] 1 1).L7) rfl rfl;have w7:RX (put (put O bi 2 (.sl 4 [((DC q).GB DI [] 1).row])) bi 9 tt) bi a _ .slnil .slnil e _:=T.put (k:=9) (v:=tt) (b':={{{(DC q).Es DI [] 1 1 with a:=((DC q).Es DI [] 1 1).a.EA ((DC q).GB DI [] 1).node 1 0} with AW:=((DC q).Es DI [] 1 1).AW++[(DC q).GB DI [] 1]} with L7:=true}) rfl rfl K T.t;have Z:DB h (λ_=>False) (put (put O bi 2 (.sl 4 [((DC q).GB DI [] 1).row])) bi 9 tt) (Bt bi e):=((((x.trans x4).trans x5).trans Bg).trans Bg);have YM:((DC q).GB DI [] 1).node=(DC q).a.len+1:=by rw[M];rfl
 rw[YM] at A;have aI1:((DC q).GB DI [] 1).row=[I ((DC q).a.len+1),I 1,S DI,ff]:=by rw[M];rfl
 rw[aI1] at u s w7 Z;generalize put O bi 2 (.sl 4 [[I ((DC q).a.len+1),I 1,S DI,ff]])=h6 at*;generalize put h6 bi 9 tt=h7 at*;have D:=aGN (h:=h7) hv (λa ha=>by have:=(hl.2 a ha).2;have:AS=140737488355328:=rfl;omega) (by have:=hl.1;omega) sp nm Ab;obtain⟨C,s8,w8,x8⟩:=w7.yo ⟨0,sp,nm,Fm sp nm l⟩;have g:RX C bi a _ .slnil .slnil e (Jh sp nm l q):=w8;have Q:=Z.trans x8;clear w8;have yp:Co h7 4 (Pt bi 10) (.agg [I 0,I sp,.str nm,.bool (Fm sp nm l)])=some C:=s8;have aD5:(Jh sp nm l q).ctx=⟨0,sp,nm,Fm sp nm l⟩:=rfl;obtain⟨aNk,Ŭ⟩:=YY sp nm l q;have key:∃N t9,RX N bi a (.sl 4 [[I ((DC q).a.len+1),I 1,S DI,ff]]) .slnil t9 e (LX sp nm l q)/\DB C (Bt bi e) N (Bt bi e)/\((sp=1/\nm=AK)->Co C 1 (Pt bi 6) (.sl 1 [[I 18]])=some N)/\(¬(sp=1/\nm=AK)->N=C):=by
  by_cases P:sp=1/\nm=AK;.have hu:DV [18] (.sl 1 [[I 18]]):= .mk;refine⟨put C bi 6 (.sl 1 [[I 18]]),.sl 1 [[I 18]],?_,Bg,λ_=>g.st (k:=6) (v0:= .slnil) rfl rfl,λh=>absurd P h⟩;unfold LX;rw[Af (by rw[QG,aD5];exact As P)];exact g.YP hu
  .refine⟨C,.slnil,?_,.refl,λh=>absurd h P,λ_=>rfl⟩;unfold LX;rw[Ad (by rw[QG,aD5];exact λh=>P (GH h))];exact g
 obtain⟨N,t9,w9,x9,k1,k2⟩:=key;obtain⟨U8,cq,Uc,vG⟩:=zb w9 Ŭ.rm;have em:AB (.C8 1) [I 18]=some (.sl 1 [[I 18]]):=rfl;have ű:AB (.C8 4) [.agg [I ((DC q).a.len+1),I 1,S DI,ff]]=some (.sl 4 [[I ((DC q).a.len+1),I 1,S DI,ff]]):=rfl;have Y:DB h (λ_=>False) U8 (Bt bi e):=(Q.trans x9).trans vG;have z:=Uc.st (k:=8) (v:=I (-1)) rfl rfl;have hw:DI=aTT:=rfl;have HG:∃h',RX h' bi a (.sl 4 [[I ((DC q).a.len+1),I 1,S DI,ff]]) .slnil t9 e (Ue sp nm l q f)/\DB h (λ_=>False) h' (Bt bi e)/\(f=true->h'=put U8 bi 8 (I (-1)))/\(f=false->h'=U8):=by
  cases f with
  |true=>exact⟨_,by unfold Ue;rw[Af rfl];exact Uc.put (k:=8) rfl rfl Uc.o Uc.t,Y.trans Bg,λ_=>rfl,λh=>absurd h AU⟩
  |false=>exact⟨U8,Uc,Y,λh=>absurd h AU,λ_=>rfl⟩
 obtain⟨h',w',x',X,W⟩:=HG;refine⟨h1,h2,h',a,bi,_,t9,e,r1,r2,?_,w',x'⟩;rw[Ae,aDd];by_cases hsp:sp=1
 .by_cases d:nm=AK
  .have J:=k1 ⟨hsp,d⟩;cases f with
   |true=>rw[X rfl];simp only[abS,Nat.reduceLeDiff,↓reduceIte,AT,IU,H.Ac,E.Ac,A.Ac,ű,u,s,D.Ac,yp,AM hsp,AM d,em,J,cq.Ac,z]
   |false=>rw[W rfl];simp only[abS,Nat.reduceLeDiff,↓reduceIte,AT,IU,H.Ac,E.Ac,A.Ac,ű,u,s,D.Ac,yp,AM hsp,AM d,em,J,cq.Ac]
  .have B:=k2 λh=>d h.2;subst B;cases f with
   |true=>rw[X rfl];simp only[abS,Nat.reduceLeDiff,↓reduceIte,AT,IU,H.Ac,E.Ac,A.Ac,ű,u,s,D.Ac,yp,AM hsp,d,cq.Ac,z]
   |false=>rw[W rfl];simp only[abS,Nat.reduceLeDiff,↓reduceIte,AT,IU,H.Ac,E.Ac,A.Ac,ű,u,s,D.Ac,yp,AM hsp,d,cq.Ac]
 .have B:=k2 λh=>hsp h.1;subst B;cases f with
  |true=>rw[X rfl];simp only[abS,Nat.reduceLeDiff,↓reduceIte,AT,IU,H.Ac,E.Ac,A.Ac,ű,u,s,D.Ac,yp,hsp,cq.Ac,z]
  |false=>rw[W rfl];simp only[abS,Nat.reduceLeDiff,↓reduceIte,AT,IU,H.Ac,E.Ac,A.Ac,ű,u,s,D.Ac,yp,hsp,cq.Ac]
def aNH(h:Ah)(s:EX)(hv:Bq s.Az av)(hl:DP s.Az)(hn:s.name.length<=1000):∃h' bi a o c t G,BK cx 23 [.agg (MC s av)] h (Pt bi 0) h'/\RX h' bi a o c t G s.b/\B1 s.b.A5 c/\DB h (λ_=>False) h' (Bt bi G):=by
 have sH:(Jh s.Bc s.name s.Az s.CH).A5=[]:=by unfold Jh;simp only;unfold BS.Es;rw[Af J1];rfl
 have Zh:av.cells=[av]:=AV.cells hv;cases hf:s.L7 with
 |true=>
  obtain⟨h1,h2,h',a,bi,o,t,G,f,r2,d,w,x⟩:=aNG h s.Bc s.name hv hl hn s.CH s.MT s.CH;refine⟨h',bi,a,o,.slnil,t,G,?_,by unfold EX.b;rw[Af hf];exact w,?_,x⟩;.rw[Ae,vo,MC,hf];simp only[BF,f.Ac,r2.Ac,d.Ac]
  .have e:s.b.A5=[]:=by unfold EX.b Ue LX;rw[Af hf];split<;>split<;>exact sH
   rw[e];exact⟨[],rfl,.inr ⟨rfl,rfl⟩⟩
 |false=>
  obtain⟨h1,h2,h',a,bi,G,f,r2,d,w,x⟩:=aI0 h s.CH;have e:s.b=DC s.CH:=by unfold EX.b;rw[Ad (by rw[hf];decide)]
  refine⟨h',bi,a,.slnil,.slnil,.slnil,G,?_,by rw[e];exact w,by rw[e];exact⟨[],rfl,.inr ⟨rfl,rfl⟩⟩,x⟩;rw[Ae,vo,MC,hf];simp only[BF,f.Ac,r2.Ac,d.Ac]
end
section
variable{h h':Ah}{bi a lo:Nat}{o c t:Aa}{G G' F:Nat->Prop}{b:BS}{x:Int}{m:Nat}
def aNI(w:RX h bi a o c t G b)(hc:B1 b.A5 c)(rm:BZ b m):∃t' o' c' u,BK cx 49 [Pt bi 0] h (.agg (Ve b.WU t' o' c')) (h++u)/\Tf (h++u) h.length b.WU t' o' c':=by
 have aT:AS=140737488355328:=rfl;have ho:=rm.AW;have QB:=rm.A5;have ye:=rm.tm;obtain⟨t',e0,Gm⟩:=AV.FJ (b:=8) w.t Ab;have E:t'.cells=[t']:=AV.cells Gm;obtain⟨fs,Gw,hv⟩:=hc;have Hm:b.A5.length=fs.length:=by rw[<-Gw,Aj]
 have Jl:Ev cx 49 [Pt bi 0] h λr h'=>∃t' o' c' u,r= .agg (Ve b.WU t' o' c')/\h'=h++u/\Tf (h++u) h.length b.WU t' o' c':=by
  unfold Ev;rw[aDa];simp only[abS,Nat.reduceLeDiff,↓reduceIte,AT,w.ld,IL,e0,E];refine DW (i:=0) (λz:Aa×Nat=>[.agg [I b.mode,I b.SN,t',z.1,.slnil,I b.head,I b.MT,.bool b.fs,.bool b.EV,.str b.oK,.bool b.skip,I b.sw,.bool b.stop],I (z.2:Int)]) (λz h1=>z.2<=b.AW.length/\∃u,h1=h++u/\Na (h++u) h.length z.1 ((b.AW.take z.2).map Item.node)) (λz=>b.AW.length-z.2) (λz h1=>∃u,h1=h++u/\Na (h++u) h.length z.1 (b.AW.map Item.node)) (.slnil,0) rfl ⟨AZ _,[],AH,.inl ⟨rfl,AH⟩⟩ ?_ ?_
  .rintro⟨V,n⟩ h1 ⟨hn,u,rfl,d⟩;simp only at hn d;have w1:=w.Ib (u:=u);have nv:A7 (h++u) none (Pt bi 2)=some o:=w1.ld 2;have p:=AV.CN w.o;have y:=d.cells;rcases AQ n b.AW.length with hlt|Ei
   .have B:=AV.BM (k:= .i64) w.o hlt;rw[Item.row] at B;obtain⟨D,H,g1,e⟩:=aBl d (by rw[Aj,Aw];omega) b.AW[n].node;have f:=e.cells;have em:AB (.C8 1) [I b.AW[n].node]=some (.sl 1 [[I b.AW[n].node]]):=rfl;simp only[abS,↓reduceIte,nv,p,(Ab:(n:Int)<(b.AW.length:Int)),B,em,g1,f,BO (Ab:n<9223372036854775807)];exact .next (H,n+1) rfl ⟨hlt,D,rfl,by rw[AE hlt,BE];exact e⟩ Dv
   .rw[AF Ei] at d;simp only[abS,↓reduceIte,nv,p,(Ab:¬(n:Int)<(b.AW.length:Int))];exact .HG (V,n) rfl ⟨u,rfl,d⟩
  .rintro⟨O,M⟩ h1 ⟨u,rfl,C⟩;simp only at C;have L:=C.cells;simp only[BF,↓reduceIte];have J:=w.Ib (u:=u);have s:h.length<=(h++u).length:=AH;obtain⟨l,j⟩:∃l,l=h++u:=⟨_,rfl⟩;rw[<-j] at C J s⊢;refine DW (i:=2) (λz:Aa×Nat=>[.agg [I b.mode,I b.SN,t',O,z.1,I b.head,I b.MT,.bool b.fs,.bool b.EV,.str b.oK,.bool b.skip,I b.sw,.bool b.stop],I (z.2:Int)]) (λz h1=>z.2<=fs.length/\∃g,h1=l++g/\MD (l++g) l.length z.1 ((b.A5.take z.2))) (λz=>fs.length-z.2) (λz h1=>∃g,h1=l++g/\MD (l++g) l.length z.1 b.A5) (.slnil,0) rfl ⟨AZ _,[],AH,.inl ⟨rfl,AH⟩⟩ ?_ ?_
   .rintro⟨V,n⟩ h1 ⟨hn,g,rfl,d⟩;simp only at hn d;have w1:=J.Ib (u:=g);have q:=w1.l3;have lc:=AV.CN hv;have y:=d.cells;rcases AQ n fs.length with hlt|Ei
    .have B:=AV.BM (k:= .i64) hv hlt;rw[Ci.row] at B;have A:fs[n].c=b.A5[n]:=by simp only[<-Gw,CZ]
     have VX:=(rm.DE fs[n].c (by rw[A];exact AN _)).2.1;obtain⟨av,ea,Zh⟩:=AV.FJ (b:=40) fs[n].ok Ab;have K:fs[n].v.cells=[fs[n].v]:=AV.cells fs[n].ok;have aD6:av.cells=[av]:=AV.cells Zh;obtain⟨D,H,g1,e⟩:=aIg d (by rw[Aw];omega) ⟨fs[n].c,av,Zh⟩;rw[Ci.row] at g1;simp only at g1 e;have f:=e.cells;have em:AB (.C8 3) [.agg [I fs[n].c.node,.str fs[n].c.name,av]]=some (.sl 3 [[I fs[n].c.node,.str fs[n].c.name,av]]):=Mg rfl;simp only[abS,Nat.reduceLeDiff,↓reduceIte,AT,q,lc,(Ab:(n:Int)<(fs.length:Int)),B,ea,aD6,em];simp only[BF,↓reduceIte,g1,f,BO (Ab:n<9223372036854775807)];exact .next (H,n+1) rfl ⟨hlt,D,rfl,by rw[AE Ab,<-A];exact e⟩ Dv
    .rw[AF Ab] at d;simp only[abS,Nat.reduceLeDiff,↓reduceIte,AT,q,lc,(Ab:¬(n:Int)<(fs.length:Int)),aaS];exact .HG (V,n) rfl ⟨g,rfl,d⟩
   .rintro⟨V,n⟩ h1 ⟨g,rfl,d⟩;simp only at d;have y:=d.cells;simp only[BF,↓reduceIte];refine⟨_,rfl,t',O,V,u++g,rfl,by rw[j,AI],.inl Gm,?_,?_⟩;.rw[<-AI,<-j];exact C.Dn λi _ hi=>Ai hi
    .rw[<-AI,<-j];exact d.low s
 obtain⟨r,h',hr,t',o',c',u,rfl,rfl,hs⟩:=Jl.ret;exact⟨t',o',c',u,hr,hs⟩
end
section
variable{h h':Ah}{a n i:Nat}{ps:List RN}{A:Ar}{x:Int}
def aNJ(w:RA h a n i ps A)(hb:A.n.length<=900000000):BK cx 149 [Pt a 0] h (I A.len) h:=by
 have hl:=w.len;have e:((ps.length+1:Nat):Int)-1=A.len:=by unfold Ar.len;omega
 have hs:=C3 (a:=((ps.length+1:Nat):Int)) (b:=1) Ab Ab;rw[e] at hs;rw[Ae,ċ];simp only[BF,lN,w.nodes,show AB (.len false) [.Cs n 0 (ps.length+1) 13]=some (I ((ps.length+1:Nat):Int)) from rfl,hs]
def aI3(p:RN)(h1:p.x.Bb.length<=1000000000)(h2:p.x.Az.length<=1000000000)(h:Ah):∃r,BK cx 297 [.agg p.row] h (.agg r) h/\∀h',NRd h' p.x r:=by have aT:AS=140737488355328:=rfl;obtain⟨K,j,d⟩:=AV.FJ (b:=8) p.okk Ab;obtain⟨V,g,c⟩:=AV.FJ (b:=40) p.oka Ab;have kc:p.kv.cells=[p.kv]:=AV.cells p.okk;have vc:p.av.cells=[p.av]:=AV.cells p.oka;have f:K.cells=[K]:=AV.cells d;have e:V.cells=[V]:=AV.cells c;refine⟨_,?_,λh'=>⟨K,V,rfl,DV.RI d,YF c,f,e⟩⟩;rw[Ae,İ,RN.row];simp only[BF,j,f,g,e]
def aNK(w:RA h a n i ps A)(hk:∀x,(A.nd x).Bb.length<=1000000000)(ha:∀x,(A.nd x).Az.length<=1000000000)(hb:A.n.length<=900000000):∃v,BK cx 152 [Pt a 0] h v h/\∀h',Y0 h' v A.n:=by
 have aT:AS=140737488355328:=rfl;have lJ:=w.len;have Jl:Ev cx 152 [Pt a 0] h λr h'=>h'=h/\∀h',Y0 h' r A.n:=by
  unfold Ev;rw[Ď];refine Bl (λz:Aa×Nat=>[z.1,I ((z.2+1:Nat):Int)]) (λz h1=>z.2<=ps.length/\h1=h/\∃AD:List (List Aa),AV 13 AD z.1/\AD.length=z.2/\∀h' k (h1:k<AD.length) (h2:k<A.n.length),NRd h' A.n[k] AD[k]) (λz=>ps.length-z.2) (.slnil,0) rfl ⟨AZ _,rfl,[],.nil,rfl,λh' k h1=>by simp at h1⟩ ?_;rintro⟨V,k⟩ h1 ⟨Zs,rfl,AD,d,e,f⟩;simp only at Zs d e;have g:AB (.len false) [.Cs n 0 (ps.length+1) 13]=some (I ((ps.length+1:Nat):Int)):=rfl;rcases AQ k ps.length with hlt|Ei
  .obtain⟨hx,ex⟩:=vL (A:=A) (k:=k) Ab;have c:=(w.pn hx).2;have ld:=w.aBq hx;have ea:=w.addr hx;obtain⟨r,l,hr⟩:=aI3 (pR ps ((k:Int)+1)) (by rw[c];exact hk _) (by rw[c];exact ha _) h1;rw[c,ex] at hr;have em:AB (.C8 13) [.agg r]=some (.sl 13 [r]):=by obtain⟨K,W,o,_⟩:=hr [];exact Ms (a:= .agg r) (by rw[o];rfl) AU
   have s:=AV.sZ (b:=168) (row:=r) d Ab;have p:((k+1:Nat):Int)=(k:Int)+1:=Ab;have inc:AB (.int .add) [I ((k:Int)+1),I 1]=some (I ((k:Int)+1+1)):=Oz Ab Ab;simp only[abS,w.nodes,g,p,(Ab:(k:Int)+1<(ps.length:Int)+1),Int.natCast_add,Int.natCast_one,ea,ld,l.Ac,em,s,inc];refine AL.next (_,k+1) rfl ⟨hlt,rfl,AD++[r],.mk,by simp[e],λh' j h1 h2=>?_⟩ Dv;by_cases hj:j<AD.length;.rw[Gl hj];exact f h' j hj h2
   .have q:j=k:=by simp at h1;omega
    subst q;rw[U_ Ab];simp only[e,Dc,aEA];exact hr h'
  .simp only[abS,w.nodes,g,(Ab:¬((k+1:Nat):Int)<((ps.length+1:Nat):Int))];exact⟨_,rfl,λh'=>⟨AD,d,Ab,λj a b=>f h' j a b⟩⟩
 obtain⟨r,h',hr,rfl,m⟩:=Jl.ret;exact⟨r,hr,m⟩
end
def RB(h:Ah)(bi:Nat)(b:BS)(F:Nat->Prop):Prop:=∃a o c t G,RX h bi a o c t G b/\B1 b.A5 c/\F=Bt bi G
structure Ug(h:Ah)(bi wi:Nat)(b:BS)(F F2:Nat->Prop):Prop where
 p:PB h bi b F
 r:RB h wi b F2
 d:∀i,F i->¬F2 i
structure QP(b:BS)(j:Nat):Prop where
 ok:EB b
 sz:Sz b j
 nm:Nm b.a
section
variable{h h':Ah}{bi wi:Nat}{b:BS}{F F2:Nat->Prop}{q:pP}{av:Aa}{j:Nat}
def RB.lt(w:RB h bi b F){i:Nat}(hi:F i):i<h.length:=by
 obtain⟨a,o,c,t,G,w,_,rfl⟩:=w;rcases hi with rfl|hi
 .exact w.lt
 .exact w.w.lt hi
def RB.Dn(w:RB h bi b F)(hf:∀i,F i->h'[i]?=h[i]?):RB h' bi b F:=by obtain⟨a,o,c,t,G,w,hc,rfl⟩:=w;exact⟨a,o,c,t,G,w.Dn hf,hc,rfl⟩
def RB.Ib(w:RB h bi b F){u:Ah}:RB (h++u) bi b F:=w.Dn λi hi=>Ai (w.lt hi)
def Ug.Ib(w:Ug h bi wi b F F2){u:Ah}:Ug (h++u) bi wi b F F2:=⟨w.p.Ib,w.r.Ib,w.d⟩
def QP.le{k:Nat}(f:QP b j)(hk:k<=j):QP b k:=⟨f.ok,⟨f.sz.rm.le Ab,by have:=f.sz.AW;omega,by have:=f.sz.A5;omega⟩,f.nm⟩
def QP.HG(f:QP b j):Fin b j:=⟨f.ok,f.sz⟩
def QP.do(f:QP b (j+1))(hq:lp q):QP (YS b q).1 j:=⟨aD2 f.ok,aD3 f.sz hq,aD8 f.nm f.sz hq⟩
def EX.pX(s:EX):QP s.b 100:=⟨s.ok.1,s.ok.2,yw s⟩
def Ug.prog{b':BS}{F':Nat->Prop}(w:Ug h bi wi b F F2)(p:PB h' bi b' F')(x:DB h F h' F'):RB h' wi b F2/\∀i,F' i->¬F2 i:=
 ⟨w.r.Dn λi hi=>x.old i (w.r.lt hi) λhp=>w.d i hp hi,λi h1 h2=>by
  rcases x.Bt i h1 with a|a
  .exact w.d i a h2
  .have:=w.r.lt h2;omega⟩
def aNM(w:RB h bi b F)(f:QP b (j+1))(hq:lp q)(hv:Bq q.Az av):∃h' F',BK cx 25 [Pt bi 0,.agg (LS q av)] h (.agg (YS b q).2.row) h'/\RB h' bi (YS b q).1 F'/\DB h F h' F':=by obtain⟨a,o,c,t,G,w,hc,rfl⟩:=w;obtain⟨h',o',c',t',G',r,w',JO,x⟩:=aNE w hc f.ok f.sz f.nm hq hv;exact⟨h',_,r,⟨a,o',c',t',G',w',JO,rfl⟩,x⟩
def Ŵ(w:Ug h bi wi b F F2)(f:QP b (j+1))(hq:lp q)(hv:Bq q.Az av):∃h1 h2 F' a,BK cx 24 [Pt bi 0,.agg (LS q av)] h (.agg (YS b q).2.row) h1/\BK cx 25 [Pt wi 0,.agg (LS q av)] h1 (.agg (YS b q).2.row) h2/\Ug h2 bi wi (YS b q).1 F' a:=by
 obtain⟨h1,F',n,w1,k⟩:=aNn w.p f.HG hq hv;obtain⟨m,g⟩:=w.prog w1 k;obtain⟨h2,a,r2,l,c⟩:=aNM m f hq hv;refine⟨h1,h2,F',a,n,r2,w1.Dn λi hi=>c.old i (w1.lt hi) (g i hi),l,λi e o=>?_⟩;rcases c.Bt i o with d|d
 .exact g i e d
 .have:=w1.lt e;omega
def aNN(s:EX)(hv:Bq s.Az av)(hl:DP s.Az)(hn:s.name.length<=1000)(h:Ah):∃h' bi F,BK cx 23 [.agg (MC s av)] h (Pt bi 0) h'/\RB h' bi s.b F/\DB h (λ_=>False) h' F:=by obtain⟨h',bi,a,o,c,t,G,r,w,hc,x⟩:=aNH h s hv hl hn;exact⟨h',bi,_,r,⟨a,o,c,t,G,w,hc,rfl⟩,x⟩
def vP(s:EX)(hv:Bq s.Az av)(hl:DP s.Az)(hn:s.name.length<=1000)(h:Ah):∃h1 h2 bi wi F F2,BK cx 22 [.agg (MC s av)] h (Pt bi 0) h1/\BK cx 23 [.agg (MC s av)] h1 (Pt wi 0) h2/\Ug h2 bi wi s.b F F2:=by
 obtain⟨h1,bi,F,e,w1,k⟩:=aNo s hv hl h;obtain⟨h2,wi,F2,r2,d,a⟩:=aNN s hv hl hn h1;refine⟨h1,h2,bi,wi,F,F2,e,r2,w1.Dn λi hi=>a.old i (w1.lt hi) (λh=>h),d,λi g f=>?_⟩;rcases a.Bt i f with c|c
 .exact c
 .have:=w1.lt g;omega
end
def Uh:∀{l:List QO} {b:BS} {j:Nat},QP b (j+l.length)->(∀x∈l,lp x.q)->QP (KO b l) j
 |[],_,_,f,_=>f
 |x::l,b,j,f,hq=>by rw[KO];exact Uh (QP.do (j:=j+l.length) (f.le (by simp only[Bf];omega)) (hq x AH)) λy hy=>hq y (by simp[hy])
def aNO(i:Item):AB (.geq true [.i,.i,.s,.b]) [.agg i.row,.agg i.row]=some (.bool false):=by rw[Rx];simp[Item.row,Eb,LJ]
section
variable{h h':Ah}{bi wi:Nat}{b:BS}{F F2:Nat->Prop}{q:pP}{av:Aa}{j:Nat}
def f7w(s:EX)(hv:Bq s.Az av)(hl:DP s.Az)(hn:s.name.length<=1000){l:List QO}{v:Aa}(ho:cC l v)(hb:l.length<=60)(hq:∀x∈l,lp x.q)(h:Ah):
  ∃h' bi wi F F2,BK cx 16 [.agg (MC s av),v] h (.tuple [Pt bi 0,Pt wi 0,tt]) h'/\Ug h' bi wi (KO s.b l) F F2:=by
 obtain⟨h1,h2,bi,wi,F,F2,f,r2,w0⟩:=vP s hv hl hn h;have Jl:Ev cx 16 [.agg (MC s av),v] h λr h'=>r= .tuple [Pt bi 0,Pt wi 0,tt]/\∃F F2,Ug h' bi wi (KO s.b l) F F2:=by
  unfold Ev;have Zh:av.cells=[av]:=AV.cells hv;have g:=AV.CN ho;rw[aC4];rw[MC] at f r2⊢;simp only[abS,f.Ac,r2.Ac];refine Bl (λn:Nat=>[.ptr none,.ptr none,ff,I (n:Int)]) (λn h1=>n<=l.length/\∃F F2,Ug h1 bi wi (KO s.b (l.take n)) F F2) (λn=>l.length-n) 0 rfl ⟨AZ _,F,F2,w0⟩ ?_;rintro n z ⟨Nj,u,t,a⟩;rcases AQ n l.length with hlt|Ei
  .have m:=AV.BM (k:= .i64) ho hlt;have pX:QP (KO s.b (l.take n)) (39+1):=(Uh (j:=40) (l:=l.take n) (s.pX.le (by rw[Aw];omega)) λx hx=>hq x (Bn hx));obtain⟨y,w,p,o,e,d,i⟩:=Ŵ a pX (hq _ (AN hlt)) l[n].ok;have hr:LS l[n].q l[n].v=l[n].row:=rfl;rw[hr] at e d;simp only[abS,g,(Ab:(n:Int)<(l.length:Int)),m,QO.CP,QO.HW,Ag,e.Ac,BN,d.Ac,aNO,BO (Ab:n<9223372036854775807)];exact AL.next (n+1) rfl ⟨hlt,p,o,by rw[AE hlt,YZ];exact i⟩ Ab
  .rw[AF Ei] at a;simp only[abS,g,(Ab:¬(n:Int)<(l.length:Int))];exact⟨_,rfl,rfl,u,t,a⟩
 obtain⟨r,h',hr,rfl,F',c,w'⟩:=Jl.ret;exact⟨h',bi,wi,F',c,hr,w'⟩
def f8g{m:Nat}(w:Ug h bi wi b F F2)(rm:BZ b m)(ok:EK b.a 0):∃u,BK cx 19 [Pt bi 0,Pt wi 0] h tt (h++u):=by
 obtain⟨a,o,c,t,G,wp,hc,e1⟩:=w.p;obtain⟨T,V,c1,f,N,E⟩:=aNm wp hc rm;have w1:=w.Ib (u:=f);obtain⟨a',o',c',t',G',wr,JO,e2⟩:=w1.r;obtain⟨t2,U,c2,d,r2,D⟩:=aNI wr JO rm;have R:=w1.Ib (u:=d);have Z:=rm.tm;have Y:=rm.AW;have X:=rm.A5;have W:=rm.n;have M:=f22 (E.Dn (h':=h++f++d) λi _ hi=>Ai hi) D (Ab:b.tm.length<=1000000000) (show(b.AW.map Item.node).length<=1000000000 by rw[Aj];omega) (Ab:b.A5.length<=1000000000) (λe he=>by have:=(rm.DE e he).2.1;omega);have v:=(wp.Ib (u:=f)).Ib (u:=d);have s:=wr.Ib (u:=d);have l0:=v.l0;have A:=s.l0;have B:∀x,(b.a.nd x).Bb.length<=1000000000:=λx=>rm.Zp.Bb ok x;have ab:∀x,(b.a.nd x).Az.length<=1000000000:=λx=>by have:=rm.at_ x;omega
 obtain⟨n,m',ps,C⟩:=v.w.pa;obtain⟨n',Q,JB,g,_⟩:=s.w;obtain⟨S,l,K,P⟩:=aNs C rm.Zp B Ab;have L:=aMo C;have z:=aNJ g Ab;have y:RA (h++f++d++l) a' n' Q JB b.a:=g.Dn λj hj=>Ai (g.lt hj);obtain⟨v2,J,O⟩:=aNK y B ab Ab;have I:=f90 P.rd (O (h++f++d++l)) Ab (λx hx=>by obtain⟨k,hk,rfl⟩:=List.getElem_of_mem hx;have:=(vL hk).2;rw[<-this];exact⟨ab _,B _⟩)
 have H:BK cx 50 [Pt a 0,Pt a' 0] (h++f++d) tt (h++f++d++l):=by rw[Ae,aDb];simp only[BF,L.Ac,z.Ac,CB,Dx,K.Ac,J.Ac,I.Ac]
 refine⟨f++d++l,?_⟩;rw[Ae,aC7];rw[show h++(f++d++l)=h++f++d++l by simp only[AI]];simp only[abS,N.Ac,r2.Ac,M.Ac,l0,A,H.Ac]
end
structure Gk where
 k:Int
 name:An
 hn:Bool
 nj:An
 hp:Bool
 sys:An
 hs:Bool
 q:Bool
 Az:List A6
 sc:Bool
 data:An
 r:Int
namespace Gk
def ok(t:Gk):Prop:=1<=t.k/\t.k<=6
instance(t:Gk):Decidable t.ok:=by unfold ok;infer_instance
def st(t:Gk)(ws:List An):Prop:=t.k=2/\t.name∈ws
instance(t:Gk)(ws:List An):Decidable (t.st ws):=by unfold st;infer_instance
def en(t:Gk)(ws:List An):Prop:=t.k=3/\t.name∈ws
instance(t:Gk)(ws:List An):Decidable (t.en ws):=by unfold en;infer_instance
def nz(t:Gk)(ws:List An):Prop:=t.k=3/\t.name∉ws
instance(t:Gk)(ws:List An):Decidable (t.nz ws):=by unfold nz;infer_instance
end Gk
def Y5(r:Int):Prop:=(9<=r/\r<=10)\/(12<=r/\r<=13)\/r=32
instance(r:Int):Decidable (Y5 r):=by unfold Y5;infer_instance
namespace Gk
def H7(t:Gk):Prop:=t.k=5/\Y5 t.r
instance(t:Gk):Decidable t.H7:=by unfold H7;infer_instance
end Gk
def cE:List An:=[aTY,aTR,aUb,aTT,[98,114]]
def Ti:List An:=[[98,97,115,101],aUT,[98,103,115,111,117,110,100],[108,105,110,107],[109,101,116,97]]
def ŵ:List An:=[aUS,[115,116,121,108,101]]
def MF:List An:=[[98,97,115,101],aUT,[98,103,115,111,117,110,100],[108,105,110,107],[109,101,116,97],aUS,aT5,[115,116,121,108,101],aTR,aT2]
def sT1:List An:=[aT7,aUk,aUr,aUo,aUs]
def sTd:List An:=[[116,100],[116,104]]
namespace BS
def KJ(b:BS)(t:Gk):BS:=b.EG t.name t.Az 1
def Y6(b:BS)(t:Gk):BS:=(b.KJ t).Lk
def again(b:BS)(m:Int):BS×Bool:=({b with mode:=m},true)
def eW(b:BS):Prop:=0<=AR (Bs [AK]) b.AW
instance(b:BS):Decidable b.eW:=by unfold eW;infer_instance
def Vh(b:BS)(t:Gk):BS:=if b.eW\/b.AW=[] then b else b.Gf t.Az (Hh b.AW 0).node
def Fo(b:BS)(t:Gk):BS×Bool:=
 if¬t.ok then(b,false)
 else if t.k=1 then(b,false)
 else if t.st [aTY] then(b,false)
 else if t.nz cE then(b,false)
 else if t.H7 then(b.Nn t.r,false)
 else if t.k=4 then(b.Fe t.data 0,false)
 else if t.st [aTT] then(b.Vh t,false)
 else if t.st Ti then(b.Y6 t,false)
 else if t.st [aT2] then(b.Fs t.name t.Az 2,false)
 else if t.st ŵ then(b.Fs t.name t.Az 3,false)
 else if t.st [aT5] then(b.Fs t.name t.Az 4,false)
 else if t.st [aT0] then({b.KJ t with mode:=5},false)
 else if t.en [aTY] then({b.Lk with mode:=6},false)
 else if t.st [AK] then
  let b1:=b.KJ t
  ({b1 with A5:=b1.A5++[Cc.zero],fs:=false,mode:=18,tm:=b1.tm++[18]},false)
 else if t.en [AK] then(b.Cv,false)
 else b.Lk.again 6
def pY(b:BS):BS:={b with tm:=b.tm.dropLast}
def D2(b:BS)(m:Int):BS×Bool:=({b with tm:=b.tm.dropLast++[m]}:BS).again m
def Rd(b:BS)(t:Gk):BS:=
 if t.r=0 then b else
 let b1:=b.CR.Nn t.r
 if t.H7 then b1 else{b1 with fs:=false}
def RL(b:BS):BS×Bool:=
 if b.eW then(({b with AW:=DA Cx (Bs [AK]) b.AW,A5:=Ee b.A5,tm:=b.tm.dropLast}:BS).GG,true)
 else({b with stop:=true},false)
def EY(b:BS)(t:Gk):BS×Bool:=
 if¬t.ok then(b,false)
 else if t.k=5 then(b.Rd t,false)
 else if t.k=4 then(b.Fe t.data 0,false)
 else if t.k=1 then(b,false)
 else if t.st MF then b.Fo t
 else if t.en [AK] then b.Fo t
 else if t.st sT1 then b.D2 9
 else if t.st [aUF] then b.D2 12
 else if t.st [[116,114]] then b.D2 13
 else if t.st sTd then b.D2 14
 else if t.k=2 then b.D2 7
 else if t.k=3 then(b,false)
 else b.RL
end BS
structure Gz(b:BS)(n o a:Nat):Prop where
 ok:EB b
 rm:BZ b n
 AW:b.AW.length<=o
 A5:b.A5.length<=a
structure Gk.Sm(t:Gk):Prop where
 name:t.name.length<=1000
 Az:DP t.Az
 data:t.data.length<=1000
 r: -2147483648<=t.r/\t.r<=2147483647
section
variable{b b':BS}{n n' o o' a a':Nat}{nm:An}{l:List A6}{t:Gk}{sp:Int}
def Gz.le(g:Gz b n o a)(h1:n'<=n)(h2:o<=o')(c:a<=a'):Gz b n' o' a':=⟨g.ok,g.rm.le h1,Br g.AW h2,Br g.A5 c⟩
def Gz.ite{c:Prop}[Decidable c]{x y:BS×Bool}(h1:Gz x.1 n o a)(h2:Gz y.1 n o a):Gz (if c then x else y).1 n o a:=by split;exact h1;exact h2
def Gz.aI4{d c:Prop}[Decidable d][Decidable c]{x y:BS×Bool}(h1:Gz x.1 n o a)(h2:Gz y.1 n o a):Gz (if d then x else if c then x else y).1 n o a:= .ite h1 (.ite h1 h2)
def Gz.aNQ{e d c:Prop}[Decidable e][Decidable d][Decidable c]{x y:BS×Bool}(h1:Gz x.1 n o a)(h2:Gz y.1 n o a):Gz (if e then x else if d then x else if c then x else y).1 n o a:= .ite h1 (.aI4 h1 h2)
def Gz.aNR{f e d c:Prop}[Decidable f][Decidable e][Decidable d][Decidable c]{x y:BS×Bool}(h1:Gz x.1 n o a)(h2:Gz y.1 n o a):Gz (if f then x else if e then x else if d then x else if c then x else y).1 n o a:= .ite h1 (.aNQ h1 h2)
def Gz.dn(g:Gz b n o a)(h:n'<=n):Gz b n' o a:=g.le h (Ag _) (Ag _)
def Gz.MR(g:Gz b (n+4) o a)(hl:DP l)(hn:nm.length<=1000):Gz (b.EG nm l sp) n (o+1) a:=by
 refine⟨P2 g.ok,JA g.rm hl hn,?_,by rw[Ek];exact g.A5⟩;have:=g.AW;unfold BS.EG;split
 .rename_i hs;have e:(b.Es nm l sp (b.place 0).1).AW=b.AW:=by unfold BS.Es;rw[Af hs]
  simp only[e,Av,A9];omega
 .omega
def Gz.eq{c:BS}(g:Gz b n o a)(h1:c.a=b.a)(h2:c.CQ=b.CQ)(e:c.AW=b.AW)(d:c.A5=b.A5)(f:c.tm=b.tm):Gz c n o a:=
 ⟨g.ok.of_eq h1 h2 e d,g.rm.eq h1 e d f,by rw[e];exact g.AW,by rw[d];exact g.A5⟩
def Gz.sub(g:Gz b n o a){lo:List Item}{lc:List Cc}{lt:List Int}(h1:lo.Sublist b.AW)(h2:lc.Sublist b.A5)(c:lt.length<=b.tm.length):Gz {b with AW:=lo,A5:=lc,tm:=lt} n o a:=
 ⟨((g.ok.SR h1).oQ (by exact h2)).of_eq rfl rfl rfl rfl,g.rm.sub rfl h1 h2 c,Br h1.length_le g.AW,Br h2.length_le g.A5⟩
def Gz.SR(g:Gz b n o a){lo:List Item}(h1:lo.Sublist b.AW):Gz {b with AW:=lo} n o a:=g.sub h1 (AP _) (Ag _)
def Gz.CR(g:Gz b (n+4*a) o a):Gz b.CR n (o+a) a:=by have h1:=g.A5;have h2:=g.AW;have h:=Td (m:=n) (g.rm.le Ab);exact⟨Yo g.ok,h.1,Ab,Ab⟩
def Gz.Nn(g:Gz b (n+5) o a){r:Int}:Gz (b.Nn r) n o a:=⟨yF g.ok,Vd g.rm (S7 _),g.AW,g.A5⟩
def Gz.Fe(g:Gz b (n+5) o a){s:An}(hs:s.length<=1000){p:Int}:Gz (b.Fe s p) n o a:=by
 refine⟨Ym g.ok,?_,g.AW,g.A5⟩;unfold BS.Fe;split;.exact Kw g.rm Ab
 .exact Kw g.rm Ab
def Gz.Gf(g:Gz b (n+1000) o a)(hl:DP l){h:Int}:Gz (b.Gf l h) n o a:=by
 refine⟨oS g.ok,YU g.rm hl.1,?_,?_⟩<;>unfold BS.Gf<;>split;.exact g.AW
 .exact g.AW
 .exact g.A5
 .exact g.A5
def Gz.Lk(g:Gz b n o a):Gz b.Lk n o a:=by
 unfold BS.Lk;split;.exact g
 .exact g.SR (CM _ _)
def Gz.GG(g:Gz b n o a):Gz b.GG n o a:=g.eq rfl rfl rfl rfl rfl
def Gz.mark(g:Gz b (n+1) o a):Gz {b with A5:=b.A5++[Cc.zero]} n o (a+1):=by
 refine⟨cu g.ok,g.rm.yH (e:=Cc.zero) AH (λe he=>?_) ⟨AU,AU,λa ha=>by cases ha⟩,g.AW,?_⟩
 .rcases Ax.1 he with he|he
  .exact .inl he
  .exact .inr (by simpa using he)
 .have:=g.A5;simp only[Av,A9];omega
def Gz.tm(g:Gz b (n+1) o a){m:Int}:Gz {b with tm:=b.tm++[m]} n o a:=by have r:=g.rm;have c:=r.le (m':=n) Ab;exact⟨g.ok.of_eq rfl rfl rfl rfl,⟨c.n,c.at_,c.data,c.AW,c.A5,by have:=r.tm;simp only[Av,A9];omega,c.DE,c.Yr⟩,g.AW,g.A5⟩
def Gz.Cv(g:Gz b n o a):Gz b.Cv n o a:=by
 unfold BS.Cv;split;.exact g
 .exact(g.sub (lo:=DA Cx (Bs [AK]) (DA CG Cx b.AW)) (lc:=Ee b.A5) (lt:=b.tm.dropLast) (DO.trans DO) (CM _ _) AH).GG
def Gz.Fs(g:Gz b (n+4) o a){s:Int}(hl:DP l)(hn:nm.length<=1000):Gz (b.Fs nm l s) n (o+1) a:=(g.MR (sp:=1) hl hn).eq rfl rfl rfl rfl rfl
def Gz.KJ(g:Gz b (n+4) o a)(ht:t.Sm):Gz (b.KJ t) n (o+1) a:=g.MR ht.Az ht.name
def Gz.Y6(g:Gz b (n+4) o a)(ht:t.Sm):Gz (b.Y6 t) n (o+1) a:=(g.KJ ht).Lk
def Gz.Vh(g:Gz b (n+1000) o a)(ht:t.Sm):Gz (b.Vh t) n o a:=by
 unfold BS.Vh;split;.exact g.le Ab (Ag _) (Ag _)
 .exact g.Gf ht.Az
def Gz.Fo(g:Gz b (n+1004) o a)(ht:t.Sm):Gz (b.Fo t).1 n (o+1) (a+1):=by have g0:Gz b n (o+1) (a+1):=g.le Ab Ab Ab;have d:Gz b (n+4) o a:=g.le Ab Ab Ab;unfold BS.Fo;refine .aNR g0 (.ite ((g.le (n':=n+5) Ab (Ag _) (Ag _)).Nn.le (Ag _) Ab Ab) (.ite (((g.le (n':=n+5) Ab (Ag _) (Ag _)).Fe ht.data).le (Ag _) Ab Ab) (.ite (((g.le (n':=n+1000) Ab (Ag _) (Ag _)).Vh ht).le (Ag _) Ab Ab) (.ite ((d.Y6 ht).le (Ag _) Ab Ab) (.ite ((d.Fs ht.Az ht.name).le (Ag _) Ab Ab) (.ite ((d.Fs ht.Az ht.name).le (Ag _) Ab Ab) (.ite ((d.Fs ht.Az ht.name).le (Ag _) Ab Ab) (.ite (((d.KJ ht).le (Ag _) Ab Ab).eq rfl rfl rfl rfl rfl) (.ite ((d.Lk.le Ab Ab Ab).eq rfl rfl rfl rfl rfl) (.ite ?_ (.ite (d.Cv.le Ab Ab Ab) ((d.Lk.le Ab Ab Ab).eq (c:={b.Lk with mode:=6}) rfl rfl rfl rfl rfl))))))))))));exact((((g.le (n':=n+2+4) Ab (Ag _) (Ag _)).KJ ht).mark.tm (m:=18)).eq rfl rfl rfl rfl rfl)
def Gz.Rd(g:Gz b (n+4*a+5) o a):Gz (b.Rd t) n (o+a) a:=by
 have g1:Gz (b.CR.Nn t.r) n (o+a) a:=(g.le (n':=n+5+4*a) Ab (Ag _) (Ag _)).CR.Nn;unfold BS.Rd;split;.exact g.le Ab Ab (Ag _)
 .split;.exact g1
  .exact g1.eq rfl rfl rfl rfl rfl
def Gz.RL(g:Gz b n o a):Gz b.RL.1 n o a:=by
 unfold BS.RL;split;.exact(g.sub (lo:=DA Cx (Bs [AK]) b.AW) (lc:=Ee b.A5) (lt:=b.tm.dropLast) DO (CM _ _) AH).GG
 .exact g.eq rfl rfl rfl rfl rfl
def Gz.D2(g:Gz b (n+1) o a){m:Int}:Gz (b.D2 m).1 n o a:=by have g1:=(g.sub (lo:=b.AW) (lc:=b.A5) (lt:=b.tm.dropLast) (AP _) (AP _) AH).tm (m:=m);exact g1.eq rfl rfl rfl rfl rfl
def Gz.EY(g:Gz b (n+4*a+1005) o a)(ht:t.Sm):Gz (b.EY t).1 n (o+a+1) (a+1):=by have g0:Gz b n (o+a+1) (a+1):=g.le Ab Ab Ab;have gf:∀m,Gz (b.D2 m).1 n (o+a+1) (a+1):=λm=>(g.le (n':=n+1) Ab (Ag _) (Ag _)).D2.le (Ag _) Ab Ab;unfold BS.EY;exact .ite g0 (.ite ((g.le (n':=n+4*a+5) Ab (Ag _) (Ag _)).Rd.le (Ag _) Ab Ab) (.ite (((g.le (n':=n+5) Ab (Ag _) (Ag _)).Fe ht.data).le (Ag _) Ab Ab) (.ite g0 (.aI4 (((g.le (n':=n+1004) Ab (Ag _) (Ag _)).Fo ht).le (Ag _) Ab Ab) (.ite (gf 9) (.ite (gf 12) (.ite (gf 13) (.ite (gf 14) (.ite (gf 7) (.ite g0 g0.RL))))))))))
end
def Ui(h:Ah)(F:Nat->Prop)(f:FuncId)(args:List Aa)(r:Aa)(bi:Nat)(b':BS):Prop:=∃h' F',BK cx f args h r h'/\PB h' bi b' F'/\DB h F h' F'
abbrev Dm(t:Gk)(av:Aa):List Aa:=[I t.k,.str t.name,.bool t.hn,.str t.nj,.bool t.hp,.str t.sys,.bool t.hs,.bool t.q,av,.bool t.sc,.str t.data,.int .i32 t.r]
section
variable{h h':Ah}{bi:Nat}{b b':BS}{F:Nat->Prop}{n o a:Nat}{t:Gk}{av:Aa}
def P7:N1 t.name av (Dm t av):=⟨_,_,_,_,_,_,_,_,_,_,rfl⟩
def zc(w:PB h bi b F)(g:Gz b (n+4) o a)(ht:t.Sm)(hv:Bq t.Az av):Ui h F 65 [Pt bi 0,.agg (Dm t av)] (I (b.Pc 1)) bi (b.KJ t):=by obtain⟨d,e,c,tt,G,w,hc,rfl⟩:=w;obtain⟨h',o',G',r,w',x⟩:=x_ (m:=n) w g.ok g.rm P7 hv ht.Az ht.name;exact⟨h',_,r,⟨d,o',c,tt,G',w',by unfold BS.KJ;rw[Ek];exact hc,rfl⟩,x⟩
def vQ(w:PB h bi b F)(g:Gz b (n+5) o a){r:Int}(hr: -2147483648<=r/\r<=2147483647):Ui h F 69 [Pt bi 0,.int .i32 r] (.tuple []) bi (b.Nn r):=by obtain⟨e,d,c,tt,G,w,hc,rfl⟩:=w;obtain⟨h',G',r,w',x⟩:=aHH (m:=n) w g.ok g.rm r hr;exact⟨h',_,r,⟨e,d,c,tt,G',w',hc,rfl⟩,x⟩
def cF(w:PB h bi b F)(g:Gz b (n+1) o a){s:An}(hs:s.length<=100000)(x:Int):Ui h F 70 [Pt bi 0,.str s,I x] (.tuple []) bi (b.Fe s x):=by obtain⟨e,d,c,tt,G,w,hc,rfl⟩:=w;obtain⟨h',G',r,w',x⟩:=aHJ (m:=n) w g.ok g.rm s hs x;exact⟨h',_,r,⟨e,d,c,tt,G',w',hc,rfl⟩,x⟩
def zd(w:PB h bi b F)(g:Gz b (n+4) o a)(ht:t.Sm)(hv:Bq t.Az av)(s:Int):Ui h F 71 [Pt bi 0,.agg (Dm t av),I s] (.tuple []) bi (b.Fs t.name t.Az s):=by obtain⟨d,e,c,tt,G,w,hc,rfl⟩:=w;obtain⟨h',o',G',r,w',x⟩:=aHK (m:=n) w g.ok g.rm P7 hv ht.Az ht.name s;exact⟨h',_,r,⟨d,o',c,tt,G',w',by show B1 (b.EG t.name t.Az 1).A5 c;rw[Ek];exact hc,rfl⟩,x⟩
def cG(w:PB h bi b F)(g:Gz b (n+4*a) o a):Ui h F 73 [Pt bi 0] (.tuple []) bi b.CR:=by obtain⟨d,e,c,tt,G,w,hc,rfl⟩:=w;obtain⟨h',o',c',G',r,w',JO,x⟩:=aHU (m:=n) w hc g.ok (g.rm.le (by have:=g.A5;omega));exact⟨h',_,r,⟨d,o',c',tt,G',w',JO,rfl⟩,x⟩
def Ŷ(w:PB h bi b F)(g:Gz b n o a):Ui h F 76 [Pt bi 0] (.tuple []) bi b.GG:=by obtain⟨e,d,c,tt,G,w,hc,rfl⟩:=w;obtain⟨h',r,w',x⟩:=yf w g.rm;exact⟨h',_,r,⟨e,d,c,tt,G,w',hc,rfl⟩,x⟩
def aEa(w:PB h bi b F)(g:Gz b n o a):Ui h F 78 [Pt bi 0] (.tuple []) bi b.Cv:=by obtain⟨d,e,c,tt,G,w,hc,rfl⟩:=w;obtain⟨h',o',c',t',r,w',JO,x⟩:=aHQ w hc g.rm;exact⟨h',_,r,⟨d,o',c',t',G,w',JO,rfl⟩,x⟩
def aEb(w:PB h bi b F):Ui h F 79 [Pt bi 0] (.tuple []) bi {b with stop:=true}:=by obtain⟨e,d,c,tt,G,w,hc,rfl⟩:=w;obtain⟨h',r,w',x⟩:=aHR w;exact⟨h',_,r,⟨e,d,c,tt,G,w',hc,rfl⟩,x⟩
def ze(w:PB h bi b F)(g:Gz b n o a):Ui h F 82 [Pt bi 2] (.agg b.oL.row) bi b.Lk:=by obtain⟨d,f,c,tt,G,w,hc,rfl⟩:=w;obtain⟨h',o',r,w',x⟩:=aDO w g.rm;exact⟨h',_,r,⟨d,o',c,tt,G,w',by have e:b.Lk.A5=b.A5:=(by unfold BS.Lk;split<;>rfl);rw[e];exact hc,rfl⟩,x⟩
def aEc(w:PB h bi b F)(g:Gz b n o a):Ui h F 80 [Pt bi 3] (.tuple []) bi {b with A5:=b.A5++[Cc.zero]}:=by obtain⟨e,d,c,tt,G,w,hc,rfl⟩:=w;have QB:=g.rm.A5;obtain⟨fs,Gw,Sk⟩:=hc;obtain⟨u,r2,hu⟩:=f63 (h:=h) (id:=bi) (o:=3) (l:=fs) ⟨c,w.qM,Sk⟩ (by rw[<-Gw,Aj] at QB;omega);exact⟨_,_,r2,⟨e,d,u,tt,G,w.Kh (u:=u) (l:=b.A5++[Cc.zero]),⟨_,by rw[BE,Gw];rfl,hu⟩,rfl⟩,Bg⟩
def ŷ(w:PB h bi b F)(g:Gz b n o a):∃r,Ui h F 83 [Pt bi 3] r bi {b with A5:=Ee b.A5}:=by obtain⟨e,d,c,tt,G,w,hc,rfl⟩:=w;have QB:=g.rm.A5;obtain⟨fs,Gw,Sk⟩:=hc;obtain⟨u,r2,hu⟩:=f65 (h:=h) (id:=bi) (o:=3) (l:=fs) ⟨c,w.qM,Sk⟩ (by rw[<-Gw,Aj] at QB;omega);exact⟨_,_,_,r2,⟨e,d,u,tt,G,w.Kh (u:=u) (l:=Ee b.A5),⟨_,by rw[QF,Gw],hu⟩,rfl⟩,Bg⟩
def Ÿ(w:PB h bi b F)(g:Gz b n o a){v:Aa}{ws:List An}(hw:Jm ws v)(hn:ws.length<=1000000000):∃r,Ui h F 84 [Pt bi 2,v] r bi {b with AW:=DA Cx (Bs ws) b.AW}:=by obtain⟨d,e,c,tt,G,w,hc,rfl⟩:=w;have ho:=g.rm.AW;obtain⟨u,r2,hu⟩:=f66 w.sO Ab hw hn;exact⟨_,_,_,r2,⟨d,u,c,tt,G,w.HZ hu,hc,rfl⟩,Bg⟩
def PB.sA(w:PB h bi b F):jf h (Pt bi 2) b.AW:=by obtain⟨e,d,c,tt,G,w,hc,rfl⟩:=w;exact w.sA
def PB.Ml(w:PB h bi b F):∃x,A7 h none (Pt bi 0)=some (Pt x 0):=by obtain⟨d,e,c,tt,G,w,hc,rfl⟩:=w;exact⟨d,w.l0⟩
def PB.dh(w:PB h bi b F):A7 h none (Pt bi 1)=some (I b.CQ)/\A7 h none (Pt bi 4)=some (I b.mode)/\A7 h none (Pt bi 5)=some (I b.SN)/\A7 h none (Pt bi 7)=some (I b.head)/\A7 h none (Pt bi 8)=some (I b.MT)/\A7 h none (Pt bi 14)=some (.bool b.fs)/\A7 h none (Pt bi 18)=some (I b.sw)/\A7 h none (Pt bi 19)=some (.bool b.stop):=by obtain⟨e,d,c,tt,G,w,hc,rfl⟩:=w;exact⟨w.ld 1,w.ld 4,w.ld 5,w.ld 7,w.ld 8,w.ld 14,w.ld 18,w.ld 19⟩
def PB.ltm(w:PB h bi b F):∃v,A7 h none (Pt bi 6)=some v/\T6 b.tm v:=by obtain⟨e,d,c,tt,G,w,hc,rfl⟩:=w;exact⟨tt,w.l6,w.t⟩
def aEd(w:PB h bi b F)(g:Gz b n o a)(s:An):BK cx 194 [Pt bi 2,.str s] h (I (AR (Bs [s]) b.AW)) h:=
 Ō w.sA (by have:=g.rm.AW;omega) s
def Wr(h:Ah)(F:Nat->Prop)(bi k:Nat)(v:Aa)(b':BS):Prop:=Co h 1 (Pt bi k) v=some (put h bi k v)/\PB (put h bi k v) bi b' F/\DB h F (put h bi k v) F
def Y7(w:PB h bi b F)(v:Int):Wr h F bi 4 (I v) {b with mode:=v}:=by obtain⟨e,d,c,tt,G,w,hc,rfl⟩:=w;exact⟨w.st (k:=4) rfl rfl,⟨e,d,c,tt,G,w.put rfl rfl w.o w.t,hc,rfl⟩,Bg⟩
def aI5(w:PB h bi b F)(v:Bool):Wr h F bi 14 (.bool v) {b with fs:=v}:=by obtain⟨e,d,c,tt,G,w,hc,rfl⟩:=w;exact⟨w.st (k:=14) rfl rfl,⟨e,d,c,tt,G,w.put rfl rfl w.o w.t,hc,rfl⟩,Bg⟩
def aI6(w:PB h bi b F){v:Aa}{l:List Int}(hv:T6 l v):Wr h F bi 6 v {b with tm:=l}:=by obtain⟨e,d,c,tt,G,w,hc,rfl⟩:=w;exact⟨w.st (k:=6) (v0:=tt) rfl hv.1.cells,⟨e,d,c,v,G,w.YP hv,hc,rfl⟩,Bg⟩
end
def N5(c:UInt8):Bool:=decide ((9<=c.toNat/\c.toNat<=13)\/c.toNat=32)
def wf:An->An->List An
 |cur,[]=>if cur=[] then[] else[cur]
 |cur,c::r=>if N5 c then(if cur=[] then wf [] r else cur::wf [] r) else wf (cur++[c]) r
def kX:Bool->An->Nat
 |_,[]=>0
 |w,c::r=>(if w&& !N5 c then 1 else 0)+kX (N5 c) r
def di(b:Bool):Int:=if b then 1 else 0
def Uj:∀{s cur:An},(wf cur s).length=(if cur=[] then 0 else 1)+kX (decide (cur=[])) s
 |[],cur=>by unfold wf kX;split<;>simp_all
 |c::r,cur=>by
  unfold wf kX;by_cases hc:N5 c=true
  .by_cases h0:cur=[];.simp[hc,h0,Uj (s:=r) (cur:=[])]
   .simp[hc,h0,Uj (s:=r) (cur:=[])];omega
  .have JO:N5 c=false:=by simpa using hc
   by_cases h0:cur=[];.simp[JO,h0,Uj (s:=r) (cur:=[c])]
   .simp[JO,h0,Uj (s:=r) (cur:=cur++[c])]
def dj:∀{s cur:An},(wf cur s).length<=s.length+1
 |[],cur=>by unfold wf;split<;>simp
 |c::r,cur=>by
  unfold wf;have h1:=dj (s:=r) (cur:=[]);have h2:=dj (s:=r) (cur:=cur++[c]);split;.split<;>simp only[Bf]<;>omega
  .simp only[Bf];omega
def dk{c:UInt8}(k:Option Nat)(hk:k=none){h:Ah}:∃v,AB (.Uq 256 1) [.CJ Hg,.int .u8 (c.toNat:Int)]=some v/\A7 h k v=some (.int .u8 (di (N5 c))):=by
 subst hk;have key:∀n:Nat,n<256->Hg[n]?=some (.int .u8 (di (decide ((9<=n/\n<=13)\/n=32)))):=by intro n hn;have h1:∀n,n<256->NL[n]?=some (di (decide ((9<=n/\n<=13)\/n=32))):=Di;rw[Hg,Ck,h1 n hn];rfl
 have hc:=c.toNat_lt;have hi:Mi (c.toNat:Int) 256=some c.toNat:=by unfold Mi;rw[Af Ab];rfl
 refine⟨.CJ (Hg.drop (c.toNat*1)),by simp[AB,hi,WL],?_⟩;rw[XV,Ex,Cr,FH,Bu,key _ hc];rfl
def aEe{s c:Nat}(hs:s<128)(hc:c<128):∃n:Nat,n<128/\AB (.int .or) [.int .u8 (s:Int),.int .u8 (c:Int)]=some (.int .u8 (n:Int)):=by
 have key:∀s:Nat,s<128->∀c:Nat,c<128->(match AB (.int .or) [.int .u8 (s:Int),.int .u8 (c:Int)] with|some (.int .u8 n)=>decide (0<=n/\n<128)|_=>false)=true:=Di;have h1:=key s hs c hc;split at h1;.rename_i n hv;have:=GH h1;exact⟨n.toNat,Ab,by rw[hv,GZ this.1]⟩
 .cases h1
def aEf(w i:Bool):∃v,AB (.un .xor) [I (di i)]=some v/\AB (.int .and) [I (di w),v]=some (I (if w&& !i then 1 else 0)):=by cases w<;>cases i<;>exact⟨_,rfl,rfl⟩
def aEg(i:Bool):IntKind.i64.wrap (di i)=di i:=by cases i<;>rfl
def dr{U:Type}(l:List U)(x y:U)(r:List U){k:Nat}(hk:k=l.length):(l++y::r).take k++[x]++(l++y::r).drop (k+1)=l++x::r:=by subst hk;simp
def aI7(s:An)(hs:s.length<=1000000)(ha:∀c∈s,c.toNat<128)(h:Ah):BK cx 410 [.str s] h (.sl 1 ((wf [] s).map CC)) (h++[.CF]):=by
 have aT:AS=140737488355328:=rfl;have O:=dj (s:=s) (cur:=[]);obtain⟨N,hNe⟩:∃N,N=(wf [] s).length:=⟨_,rfl⟩;rw[Ae,jY,aGD];refine DW (i:=0) (λz:Nat×Bool×Nat×Nat=>[I (z.1:Int),I (di z.2.1),.int .u8 (z.2.2.1:Int),I (z.2.2.2:Int)]) (λz h1=>h1=h/\z.2.2.2<=s.length/\z.2.2.1<128/\z.1+kX z.2.1 (s.drop z.2.2.2)=kX true s) (λz=>s.length-z.2.2.2) (λz h1=>h1=h/\z.2.2.1<128/\z.1=N) (0,true,0,0) rfl ⟨rfl,AZ _,AU,AH⟩ ?_ ?_
 .rintro⟨n,w,bits,i⟩ h1 ⟨rfl,hi,hb,hn⟩;simp only at hi hb hn;rcases AQ i s.length with hlt|Ei
  .obtain⟨bits',Qh,y⟩:=aEe hb (ha _ (AN hlt));obtain⟨v,J,H⟩:=dk (c:=s[i]) none rfl (h:=h1);obtain⟨v2,p,d⟩:=aEf w (N5 s[i]);have M:kX true s<=s.length+1:=by have:=Uj (s:=s) (cur:=[]);simp at this;omega
   rw[AG hlt,kX] at hn;have u:=Oz (a:=(n:Int)) (b:=if w&& !N5 s[i] then 1 else 0) (by split<;>omega) (by split<;>omega);have t:((n:Int)+if(w&& !N5 s[i])=true then 1 else 0)=((n+if(w&& !N5 s[i])=true then 1 else 0:Nat):Int):=by split<;>simp
   simp only[abS,(Ab:(i:Int)<(s.length:Int)),Fz hlt,y,J,H,Qq,aEg,p,d,u,t,BO (Ab:i<9223372036854775807)];exact .next (_,N5 s[i],bits',i+1) rfl ⟨rfl,hlt,Qh,Dv⟩ Dv
  .simp only[abS,(Ab:¬(i:Int)<(s.length:Int))];refine .HG (n,w,bits,i) rfl ⟨rfl,hb,?_⟩;rw[A0 Ei,kX] at hn;have:=Uj (s:=s) (cur:=[]);simp at this;simp only;omega
 rintro⟨n,w,bits,i⟩ h1 ⟨rfl,hb,hn⟩;simp only at hb hn;subst hn;have y:R2 h1 1 16 [S []] (I (n:Int)) (I (n:Int))=some (h1++[.cells (List.replicate n [S []]).flatten],.Cs h1.length 0 n 1):=by simp only[R2];rw[Af ⟨Ab,Ab,D9,rfl⟩];simp
 have J:(List.replicate n [S []]).flatten=List.replicate n (S []):=by
  clear y hNe O;induction n with
  |zero=>rfl
  |succ n ih=>rw[K6,CK,ih];rfl
 rw[J] at y;have H:¬(128:Int)<=(bits:Int):=Ab;simp only[abS,H];refine qW y ?_;refine DW (i:=2) (λi:Nat=>[I (i:Int)]) (λi h2=>h2=h1++[.cells (List.replicate n (S []))]/\i<=s.length/\wf [] s=wf [] (s.drop i)) (λi=>s.length-i) (λi h2=>h2=h1++[.cells (List.replicate n (S []))]/\i<=s.length/\wf [] s=wf [] (s.drop i)/\∀hi:i<s.length,N5 s[i]=false) 0 rfl ⟨rfl,AZ _,rfl⟩ ?_ ?_
 .rintro i h2 ⟨rfl,hi,hw⟩;rcases AQ i s.length with hlt|Ei
  .obtain⟨v,p,d⟩:=dk (c:=s[i]) none rfl (h:=h1++[.cells (List.replicate n (S []))]);cases hsp:N5 s[i] with
   |true=>rw[hsp] at d;simp only[abS,(Ab:(i:Int)<(s.length:Int)),Fz hlt,p,d,di,↓reduceIte,(AU:(1:Int)≠0),B2,BO (Ab:i<9223372036854775807)];rw[AG hlt,wf,hsp] at hw;exact .next (i+1) rfl ⟨rfl,hlt,by simpa using hw⟩ Ab
   |false=>rw[hsp] at d;simp only[abS,(Ab:(i:Int)<(s.length:Int)),Fz hlt,p,d,di,Cu,↓reduceIte,B2];exact .HG i rfl ⟨rfl,hi,hw,λ_=>hsp⟩
  .simp only[abS,(Ab:¬(i:Int)<(s.length:Int))];exact .HG i rfl ⟨rfl,hi,hw,λh=>absurd h Ab⟩
 rintro i0 h2 ⟨rfl,uV,C,m_⟩;simp only[BF];refine DW (i:=4) (λz:List An×Nat×Nat=>[I (z.1.length:Int),I (z.2.1:Int),I (z.2.2:Int)]) (λz h2=>h2=h1++[.cells (z.1.map Aa.str++List.replicate (n-z.1.length) (S []))]/\z.2.1<=z.2.2/\z.2.2<=s.length/\z.1++wf ((s.take z.2.2).drop z.2.1) (s.drop z.2.2)=wf [] s/\(z.2.1=z.2.2->∀hi:z.2.2<s.length,N5 s[z.2.2]=false)) (λz=>s.length-z.2.2)
  (λz h2=>h2=h1++[.cells (z.1.map Aa.str++List.replicate (n-z.1.length) (S []))]/\z.2.1<=s.length/\z.1++wf (s.drop z.2.1) []=wf [] s) ([],i0,i0) rfl ⟨AH,Ag _,uV,by simp[C,O3],λ_=>m_⟩ ?_ ?_
 .rintro⟨dn,f,i⟩ h2 ⟨rfl,hf,hi,hw,hz⟩;simp only at hf hi hw hz;have qK:dn.length<=n:=by rw[hNe,<-hw,Av];omega
  rcases AQ i s.length with hlt|Ei
  .obtain⟨v,p,d⟩:=dk (c:=s[i]) none rfl (h:=h1++[.cells (dn.map Aa.str++List.replicate (n-dn.length) (S []))]);rw[AG hlt] at hw;cases hsp:N5 s[i] with
   |false=>
    rw[hsp] at d;simp only[abS,(Ab:(i:Int)<(s.length:Int)),Fz hlt,p,d,di,Cu,↓reduceIte,BO (Ab:i<9223372036854775807)];rw[wf,hsp] at hw;refine .next (dn,f,i+1) rfl ⟨rfl,Dv,hlt,?_,λe=>by simp only at e;omega⟩ Dv
    simp only
    rw[XZ hf hlt];simpa using hw
   |true=>
    rw[hsp] at d;have ő:f<i:=by
     rcases AQ f i with h|h
     .exact h
     .have:=hz Ab hlt;rw[hsp] at this;cases this
    have aNS:(s.take i).drop f≠[]:=by intro e;have:=Ca List.length e;simp at this;omega
    rw[wf,hsp] at hw;simp only[BI,aNS,DG] at hw;have m:dn.length<n:=by rw[hNe,<-hw];simp
    have u:AB (.Fu 1) [.Cs h1.length 0 n 1,I (dn.length:Int)]=some (Pt h1.length dn.length):=by have:=E0 (id:=h1.length) (z:=1) (n:=n) (k:= .i64) m;rwa [FH] at this
    have hcl:(dn.map Aa.str++List.replicate (n-dn.length) (S [])).length=n:=D9;have t:Co (h1++[.cells (dn.map Aa.str++List.replicate (n-dn.length) (S []))]) 1 (Pt h1.length dn.length) (.str ((s.take i).drop f))=some (h1++[.cells ((dn++[(s.take i).drop f]).map Aa.str++List.replicate (n-(dn++[(s.take i).drop f]).length) (S []))]):=by have F:(h1++[Du.cells (dn.map Aa.str++List.replicate (n-dn.length) (S []))])[h1.length]?=some (.cells (dn.map Aa.str++List.replicate (n-dn.length) (S []))):=AH;simp only[Co,F,Qr,A9];rw[Af ⟨trivial,by rw[hcl];omega⟩,BB _ _ (Ag _),Dc];have E:n-dn.length=(n-(dn.length+1))+1:=Ab;have D:(dn.map Aa.str).length=dn.length:=Aj ..;simp only[Qb,BE,Bk,C2,Av,A9];rw[E,K6,dr _ _ _ _ D.symm];simp
    simp only[abS,(Ab:(i:Int)<(s.length:Int)),Fz hlt,p,d,di,↓reduceIte,(AU:¬(1:Int)=0),Mr (z:=0) (k:= .i64) (l:= .i64) (Ab:f<=i) hi,u,t,BO (Ab:dn.length<9223372036854775807),BO (Ab:i<9223372036854775807)];refine DW (i:=6) (λj:Nat=>[I (j:Int)]) (λj h2=>h2=h1++[.cells ((dn++[(s.take i).drop f]).map Aa.str++List.replicate (n-(dn++[(s.take i).drop f]).length) (S []))]/\i<j/\j<=s.length/\wf [] (s.drop (i+1))=wf [] (s.drop j)) (λj=>s.length-j) (λj h2=>h2=h1++[.cells ((dn++[(s.take i).drop f]).map Aa.str++List.replicate (n-(dn++[(s.take i).drop f]).length) (S []))]/\i<j/\j<=s.length/\wf [] (s.drop (i+1))=wf [] (s.drop j)/\∀hj:j<s.length,N5 s[j]=false) (i+1) rfl ⟨rfl,Ab,hlt,rfl⟩ ?_ ?_
    .rintro j h2 ⟨rfl,o,hj,sB⟩;rcases AQ j s.length with aF|L
     .obtain⟨v,K,A⟩:=dk (c:=s[j]) none rfl (h:=h1++[.cells ((dn++[(s.take i).drop f]).map Aa.str++List.replicate (n-(dn++[(s.take i).drop f]).length) (S []))]);cases g:N5 s[j] with
      |true=>rw[g] at A;simp only[abS,(Ab:(j:Int)<(s.length:Int)),Fz aF,K,A,di,↓reduceIte,(AU:(1:Int)≠0),B2,BO (Ab:j<9223372036854775807)];rw[AG aF,wf,g] at sB;exact .next (j+1) rfl ⟨rfl,Ab,aF,by simpa using sB⟩ Ab
      |false=>rw[g] at A;simp only[abS,(Ab:(j:Int)<(s.length:Int)),Fz aF,K,A,di,Cu,↓reduceIte,B2];exact .HG j rfl ⟨rfl,o,hj,sB,λ_=>g⟩
     .simp only[abS,(Ab:¬(j:Int)<(s.length:Int))];exact .HG j rfl ⟨rfl,o,hj,sB,λh=>absurd h Ab⟩
    .rintro j h2 ⟨rfl,o,hj,sB,B⟩;simp only[BF,↓reduceIte];refine .next (dn++[(s.take i).drop f],j,j) AH ⟨rfl,Ag _,hj,?_,λ_=>B⟩ Dv
     simp only[O3];rw[<-sB,AI];exact hw
  .simp only[abS,(Ab:¬(i:Int)<(s.length:Int))];have hie:i=s.length:=Ab;refine .HG (dn,f,i) rfl ⟨rfl,Dv,?_⟩;simp only
   rw[A0 Ei,hie,Bx] at hw;exact hw
 .rintro⟨dn,f,i⟩ h2 ⟨rfl,hf,hw⟩;simp only at hf hw;have fz:∀l:List An,l=wf [] s->Kd (h1++[.cells (l.map Aa.str)]) (.Cs h1.length 0 n 1)=some (h1++[.CF],.sl 1 ((wf [] s).map CC)):=by
   rintro l rfl;have hr:∀r∈(wf [] s).map CC,r.length=1:=λr hr=>by obtain⟨w,_,rfl⟩:=Bm.1 hr;rfl
   have P:((wf [] s).map CC).flatten=(wf [] s).map Aa.str:=by
    generalize wf [] s=q;induction q with
    |nil=>rfl
    |cons x q ih=>simp[CC,ih]
   have:=I2 (h:=h1++[.cells ((wf [] s).map Aa.str)]) (id:=h1.length) hr (by rw[P];simp);rw[Aj,<-hNe] at this;rw[this,BB _ _ (Ag _),Dc];rfl
  rcases AQ f s.length with hlt|Ei
  .have hne:s.drop f≠[]:=by intro e;have:=Ca List.length e;simp at this;omega
   rw[wf,Ad hne] at hw;have m:n=dn.length+1:=by rw[hNe,<-hw];simp
   have u:AB (.Fu 1) [.Cs h1.length 0 n 1,I (dn.length:Int)]=some (Pt h1.length dn.length):=by have:=E0 (id:=h1.length) (z:=1) (n:=n) (k:= .i64) (Ab:dn.length<n);rwa [FH] at this
   have t:Co (h1++[.cells (dn.map Aa.str++List.replicate (n-dn.length) (S []))]) 1 (Pt h1.length dn.length) (.str (s.drop f))=some (h1++[.cells ((dn++[s.drop f]).map Aa.str)]):=by have F:(h1++[Du.cells (dn.map Aa.str++List.replicate (n-dn.length) (S []))])[h1.length]?=some (.cells (dn.map Aa.str++List.replicate (n-dn.length) (S []))):=AH;have E:n-dn.length=1:=Ab;have D:(dn.map Aa.str).length=dn.length:=Aj ..;simp only[Co,F,Qr,A9];rw[Af ⟨trivial,D9⟩,BB _ _ (Ag _),Dc,E,show List.replicate 1 (S [])=S []::[] from rfl,dr _ _ _ _ D.symm];simp
   simp only[abS,(Ab:(f:Int)<(s.length:Int)),TQ (z:=0) (k:= .i64) (Ab:f<=s.length),u,t,fz _ hw]
  .rw[A0 Ei,wf] at hw;simp only[BI,By] at hw;have m:n-dn.length=0:=by rw[hNe,<-hw];omega
   have G:=fz _ hw;rw[m,List.replicate_zero,By];simp only[abS,(Ab:¬(f:Int)<(s.length:Int)),G]
section
variable{h h':Ah}{bi:Nat}{b b':BS}{F:Nat->Prop}{n o a:Nat}{t:Gk}{av:Aa}
def aI8(lo hi r:Int)(h:Ah):BK cx 414 [.int .i32 r,.CJ [.int .i32 lo],.CJ [.int .i32 hi]] h (.bool (decide (lo<=r/\r<=hi))) h:=by rw[Ae,WD];simp only[BF];refine⟨λh1=>by simp[h1],λh1=>by simp[h1]⟩
def Vi(p:Int×Int):List Aa:=[.func (.func 414) [] [.CJ [.int .i32 p.1],.CJ [.int .i32 p.2]]]
def aI9{L:List (Int×Int)}(g:L.length<=1000)(r:Int)(h:Ah):BK cx 413 [.int .i32 r,.CJ [.sl 1 (L.map Vi)]] h (.bool (L.any λp=>decide (p.1<=r/\r<=p.2))) h:=by
 have hv:AV 1 (L.map Vi) (.sl 1 (L.map Vi)):= .mk;have e:=AV.CN hv;rw[Ae,jZ];simp only[BF,e];refine Bl (λn:Nat=>[ff,I (n:Int)]) (λn h1=>n<=L.length/\h1=h/\L.any (λp=>decide (p.1<=r/\r<=p.2))=(L.drop n).any λp=>decide (p.1<=r/\r<=p.2)) (λn=>L.length-n) 0 rfl ⟨AZ _,rfl,rfl⟩ ?_;rintro n h1 ⟨hn,rfl,ha⟩;rcases AQ n L.length with hlt|Ei
 .have c:=AV.BM (k:= .i64) hv hlt;have f:∀x y:Int,DD (.func (.func 414) [] [.CJ [.int .i32 x],.CJ [.int .i32 y]]) [.int .i32 r]=some (414,[.int .i32 r,.CJ [.int .i32 x],.CJ [.int .i32 y]]):=λ_ _=>rfl;have d:=aI8 L[n].1 L[n].2 r h1;rw[AG hlt,Nx] at ha;rw[Vi] at c;simp only[abS,(Ab:(n:Int)<(L.length:Int)),c,f,d.Ac,BO (Ab:n<9223372036854775807)];refine⟨λh2=>?_,λh2=>?_⟩;.rw[ha];simp[h2]
  .rw[Aq h2,Hl] at ha;exact AL.next (n+1) rfl ⟨hlt,rfl,ha⟩ Ab
 .rw[A0 Ei] at ha;simp only[abS,(Ab:¬(n:Int)<(L.length:Int)),ha,Uo]
def aNU(r:Int):JQ cx 233 [.int .i32 r] (.bool (decide (Y5 r))):=by
 have d:∀(lo hi:Int) (h:Ah),BK cx 361 [.int .i32 lo,.int .i32 hi] h (.func (.func 414) [] [.CJ [.int .i32 lo],.CJ [.int .i32 hi]]) h:=λlo hi h=>by rw[Ae,S1];simp only[BF]
 have g:∀(v:Aa) (h:Ah),v.cells=[v]->BK cx 360 [v] h (.func (.func 413) [] [.CJ [v]]) h:=λv h hv=>by rw[Ae,Wy];simp only[BF,hv]
 have e:=aI9 (L:=[(9,10),(12,13),(32,32)]) AU r [];have c:AB (.C8 1) [.func (.func 414) [] [.CJ [.int .i32 9],.CJ [.int .i32 10]],.func (.func 414) [] [.CJ [.int .i32 12],.CJ [.int .i32 13]],.func (.func 414) [] [.CJ [.int .i32 32],.CJ [.int .i32 32]]]=some (.sl 1 ([((9:Int),(10:Int)),(12,13),(32,32)].map Vi)):=rfl;have f:∀v:Aa,DD (.func (.func 413) [] [v]) [.int .i32 r]=some (413,[.int .i32 r,v]):=λ_=>rfl;have r2:=g (.sl 1 ([((9:Int),(10:Int)),(12,13),(32,32)].map Vi)) [] rfl;have e0:decide (Y5 r)=([((9:Int),(10:Int)),(12,13),(32,32)].any λp=>decide (p.1<=r/\r<=p.2)):=by
  have c:Y5 r↔((9<=r/\r<=10)\/(12<=r/\r<=13)\/(32<=r/\r<=32)):=by unfold Y5;omega
  simp only[Nx,Uo,JI,<-Bool.decide_or,Db];exact c
 rw[e0,L4,Ws];simp only[BF,(d 9 10 []).Ac,(d 12 13 []).Ac,(d 32 32 []).Ac,c,r2.Ac,f,e.Ac]
structure WI(l:An)(ws:List An):Prop where
 len:l.length<=1000000
 asc:∀c∈l,c.toNat<128
 wf:wf [] l=ws
def du{l:An}{ws:List An}(h:(decide (l.length<=1000000)&&l.all (λc=>decide (c.toNat<128))&&decide (wf [] l=ws))=true):WI l ws:=by simp only[Bv,CL,C9] at h;exact⟨h.1.1,h.1.2,h.2⟩
def WI.few{l:An}{ws:List An}(w:WI l ws):ws.length<=1000001:=by have:=dj (s:=l) (cur:=[]);have:=w.len;rw[<-w.wf];omega
def aEh{l:An}{ws:List An}(w:WI l ws)(h:Ah):BK cx 368 [.str l] h (.sl 1 (ws.map CC)) (h++[.CF]):=by have c:=aI7 l w.len w.asc h;rw[w.wf] at c;rw[Ae,jN];simp only[BF,c.Ac]
def aEi{l:An}{ws:List An}(w:WI l ws)(s:An):JQ cx 243 [.str s,.str l] (.bool (decide (s∈ws))):=by have c:BK cx 368 _ [] _ [.CF]:=aEh w [];have r2:=ŋ (CX (ws:=ws)) (by have:=w.few;omega) s [Du.CF];rw[L4,Wu];simp only[BF,c.Ac,r2.Ac]
def LH{l:An}{ws:List An}(w:WI l ws)(t:Gk)(av:Aa)(h:Ah):BK cx 114 [.agg (Dm t av),.str l] h (.bool (decide (t.st ws))) h:=by
 rw[Ae,fN];simp only[BF,(aEi w t.name).B7 rfl rfl];refine⟨λh1=>?_,λh1=>?_⟩;.congr 2;unfold Gk.st;simp[h1]
 .unfold Gk.st;simp[h1]
def mh{l:An}{ws:List An}(w:WI l ws)(t:Gk)(av:Aa)(h:Ah):BK cx 117 [.agg (Dm t av),.str l] h (.bool (decide (t.en ws))) h:=by
 rw[Ae,fP];simp only[BF,(aEi w t.name).B7 rfl rfl];refine⟨λh1=>?_,λh1=>?_⟩;.congr 2;unfold Gk.en;simp[h1]
 .unfold Gk.en;simp[h1]
def aJa{l:An}{ws:List An}(w:WI l ws)(t:Gk)(av:Aa)(h:Ah):BK cx 113 [.agg (Dm t av),.str l] h (.bool (decide (t.nz ws))) h:=by
 rw[Ae,fM];simp only[BF,(aEi w t.name).B7 rfl rfl];refine⟨λh1=>?_,λh1=>?_⟩;.congr 2;unfold Gk.nz;simp[h1]
 .unfold Gk.nz;simp[h1]
def Ź(t:Gk)(av:Aa)(h:Ah):BK cx 107 [.agg (Dm t av)] h (.bool (decide t.H7)) h:=by
 rw[Ae,fL];simp only[BF,(aNU t.r).B7 rfl rfl];refine⟨λh1=>?_,λh1=>?_⟩;.congr 2;unfold Gk.H7;simp[h1]
 .unfold Gk.H7;simp[h1]
def vR(w:PB h bi b F)(t:Gk)(av:Aa):BK cx 105 [Pt bi 0,.agg (Dm t av)] h (.bool (decide t.ok)) h:=by
 obtain⟨x,l0⟩:=w.Ml;rw[Ae,fK];simp only[abS,l0];refine⟨λh1=>?_,λh1=>?_⟩;.congr 2;unfold Gk.ok;simp[h1]
 .unfold Gk.ok;simp[h1]
def aNV(w:PB h bi b F)(m:Int):Ui h F 109 [Pt bi 0,I m] tt bi (b.again m).1:=by obtain⟨d,w1,c⟩:=Y7 w m;refine⟨_,_,?_,w1,c⟩;rw[Ae,Wf];simp only[BF,d]
def aJb(w:PB h bi b F)(g:Gz b n o a):BK cx 124 [Pt bi 0] h (.bool (decide b.eW)) h:=by rw[Ae,fR];simp only[BF,(aEd w g AK).Ac];rfl
def aNW(w:PB h bi b F)(g:Gz b (n+4) o a)(ht:t.Sm)(hv:Bq t.Az av):Ui h F 116 [Pt bi 0,.agg (Dm t av)] (.tuple []) bi (b.Y6 t):=by obtain⟨h1,i,f,w1,d⟩:=zc w g ht hv;obtain⟨h2,F2,r2,e,c⟩:=ze w1 (g.KJ ht);refine⟨h2,F2,?_,e,d.trans c⟩;rw[Ae,fO];simp only[BF,f.Ac,r2.Ac]
end
def pZ:WI aUj cE:=du Di
def p8:WI aTZ Ti:=du Di
def zf:WI aUd ŵ:=du Di
def cH:WI aTQ MF:=du Di
def zg:WI aTW sT1:=du Di
def zh:WI aUM sTd:=du Di
def p9:WI aTT [aTT]:=du Di
def Tj:WI aTY [aTY]:=du Di
def cI:WI aT2 [aT2]:=du Di
def Y8:WI aT5 [aT5]:=du Di
def Tk:WI aT0 [aT0]:=du Di
def dv:WI aUF [aUF]:=du Di
def zi:WI [116,114] [[116,114]]:=du Di
def Jb:WI aTR [aTR]:=du Di
section
variable{h h':Ah}{bi:Nat}{b b':BS}{F:Nat->Prop}{n o a:Nat}{t:Gk}{av:Aa}
def aJc(w:PB h bi b F)(g:Gz b (n+1004) o a)(ht:t.Sm)(hv:Bq t.Az av)(hh:t.st [aTT]->Ui h F 34 [Pt bi 0,.agg (Dm t av)] ff bi (b.Vh t)):Ui h F 31 [Pt bi 0,.agg (Dm t av)] (.bool (b.Fo t).2) bi (b.Fo t).1:=by
 have dh:=w.dh;unfold BS.Fo;by_cases N:¬t.ok;.rw[Af N];have e:=vR w t av;rw[Aq N] at e;refine⟨_,_,?_,w,.refl⟩;rw[Ae,Il];simp only[abS,↓reduceIte,e.Ac]
 rw[Ad N];have e:=vR w t av;rw[As (Kb.1 N)] at e;by_cases j:t.k=1;.rw[Af j];refine⟨_,_,?_,w,.refl⟩;rw[Ae,Il];simp only[abS,↓reduceIte,e.Ac,AM j]
 rw[Ad j];by_cases M:t.st [aTY];.rw[Af M];have f:=LH Tj t av h;rw[As M] at f;refine⟨_,_,?_,w,.refl⟩;rw[Ae,Il];simp only[abS,↓reduceIte,e.Ac,f.Ac,j]
 rw[Ad M];have f:=LH Tj t av h;rw[Aq M] at f;by_cases L:t.nz cE;.rw[Af L];have l:=aJa pZ t av h;rw[As L] at l;refine⟨_,_,?_,w,.refl⟩;rw[Ae,Il];simp only[abS,↓reduceIte,e.Ac,f.Ac,l.Ac,j]
 rw[Ad L];have l:=aJa pZ t av h;rw[Aq L] at l;by_cases K:t.H7;.rw[Af K];have m:=Ź t av h;rw[As K] at m;obtain⟨h1,A,d,w1,c⟩:=vQ w (g.dn (n':=n+5) Ab) ht.r;refine⟨_,_,?_,w1,c⟩;rw[Ae,Il];simp only[abS,↓reduceIte,e.Ac,f.Ac,l.Ac,m.Ac,j,d.Ac]
 rw[Ad K];have m:=Ź t av h;rw[Aq K] at m;by_cases v:t.k=4;.rw[Af v];obtain⟨h1,A,d,w1,c⟩:=cF (s:=t.data) w (g.dn (n':=n+1) Ab) (by have:=ht.data;omega) 0;refine⟨_,_,?_,w1,c⟩;rw[Ae,Il];simp only[abS,↓reduceIte,e.Ac,f.Ac,l.Ac,m.Ac,j,AM v,d.Ac]
 rw[Ad v];by_cases E:t.st [aTT];.rw[Af E];have p:=LH p9 t av h;rw[As E] at p;obtain⟨h1,A,d,w1,c⟩:=hh E;refine⟨_,_,?_,w1,c⟩;rw[Ae,Il];simp only[abS,↓reduceIte,e.Ac,f.Ac,l.Ac,m.Ac,p.Ac,j,v,d.Ac]
 rw[Ad E];have p:=LH p9 t av h;rw[Aq E] at p;by_cases J:t.st Ti;.rw[Af J];have x:=LH p8 t av h;rw[As J] at x;obtain⟨h1,A,d,w1,c⟩:=aNW w (g.dn (n':=n+4) Ab) ht hv;refine⟨_,_,?_,w1,c⟩;rw[Ae,Il];simp only[abS,↓reduceIte,e.Ac,f.Ac,l.Ac,m.Ac,p.Ac,x.Ac,j,v,d.Ac]
 rw[Ad J];have x:=LH p8 t av h;rw[Aq J] at x;by_cases H:t.st [aT2];.rw[Af H];have y:=LH cI t av h;rw[As H] at y;obtain⟨h1,A,d,w1,c⟩:=zd w (g.dn (n':=n+4) Ab) ht hv 2;refine⟨_,_,?_,w1,c⟩;rw[Ae,Il];simp only[abS,↓reduceIte,e.Ac,f.Ac,l.Ac,m.Ac,p.Ac,x.Ac,y.Ac,j,v,d.Ac]
 rw[Ad H];have y:=LH cI t av h;rw[Aq H] at y;by_cases G:t.st ŵ;.rw[Af G];have B:=LH zf t av h;rw[As G] at B;obtain⟨h1,A,d,w1,c⟩:=zd w (g.dn (n':=n+4) Ab) ht hv 3;refine⟨_,_,?_,w1,c⟩;rw[Ae,Il];simp only[abS,↓reduceIte,e.Ac,f.Ac,l.Ac,m.Ac,p.Ac,x.Ac,y.Ac,B.Ac,j,v,d.Ac]
 rw[Ad G];have B:=LH zf t av h;rw[Aq G] at B;by_cases L9:t.st [aT5];.rw[Af L9];have n_:=LH Y8 t av h;rw[As L9] at n_;obtain⟨h1,A,d,w1,c⟩:=zd w (g.dn (n':=n+4) Ab) ht hv 4;refine⟨_,_,?_,w1,c⟩;rw[Ae,Il];simp only[abS,↓reduceIte,e.Ac,f.Ac,l.Ac,m.Ac,p.Ac,x.Ac,y.Ac,B.Ac,n_.Ac,j,v,d.Ac]
 rw[Ad L9];have n_:=LH Y8 t av h;rw[Aq L9] at n_;by_cases MP:t.st [aT0];.rw[Af MP];have i:=LH Tk t av h;rw[As MP] at i;obtain⟨h1,A,d,w1,c⟩:=zc w (g.dn (n':=n+4) Ab) ht hv;obtain⟨O,D,C⟩:=Y7 w1 5;refine⟨_,_,?_,D,c.trans C⟩;rw[Ae,Il];simp only[abS,↓reduceIte,e.Ac,f.Ac,l.Ac,m.Ac,p.Ac,x.Ac,y.Ac,B.Ac,n_.Ac,i.Ac,j,v,d.Ac,O]
 rw[Ad MP];have i:=LH Tk t av h;rw[Aq MP] at i;by_cases Nq:t.en [aTY];.rw[Af Nq];have mi:=mh Tj t av h;rw[As Nq] at mi;obtain⟨h1,A,d,w1,c⟩:=ze w (g.dn (n':=n) Ab);obtain⟨O,D,C⟩:=Y7 w1 6;refine⟨_,_,?_,D,c.trans C⟩;rw[Ae,Il];simp only[abS,↓reduceIte,e.Ac,f.Ac,l.Ac,m.Ac,p.Ac,x.Ac,y.Ac,B.Ac,n_.Ac,i.Ac,mi.Ac,j,v,d.Ac,O]
 rw[Ad Nq];have mi:=mh Tj t av h;rw[Aq Nq] at mi;by_cases Pj:t.st [AK]
 .rw[Af Pj];have q:=LH Jb t av h;rw[As Pj] at q;obtain⟨h1,A,d,w1,c⟩:=zc w (g.dn (n':=n+4) Ab) ht hv;have g1:=(g.dn (n':=n+2+4) Ab).KJ ht;obtain⟨h2,F2,r2,D,C⟩:=aEc w1 g1;obtain⟨Y,V,T⟩:=aI5 D false;obtain⟨X,Q,S⟩:=Y7 V 18;obtain⟨tv,l5,P⟩:=Q.ltm;have tb:(b.KJ t).tm.length<=900000000:=by have:=g1.rm.tm;omega
  obtain⟨u,Z,hu⟩:=ŝ P.1 Dv (put (put h2 bi 14 ff) bi 4 (I 18));have e6:=hu.1.sZ 18 (by simp only;have:AS=140737488355328:=rfl;omega);have em:AB (.C8 1) [I 18]=some (.sl 1 [BH 18]):=rfl;have IE:T6 ((b.KJ t).tm++[(18:Int)]) (.sl 1 (((b.KJ t).tm++[(18:Int)]).map BH)):= .rS;obtain⟨W,U,R⟩:=aI6 Q IE;refine⟨_,_,?_,U,(((c.trans C).trans T).trans S).trans R⟩;rw[Ae,Il];simp only[abS,↓reduceIte,e.Ac,f.Ac,l.Ac,m.Ac,p.Ac,x.Ac,y.Ac,B.Ac,n_.Ac,i.Ac,mi.Ac,q.Ac,j,v,d.Ac,r2.Ac,Y,X,l5,Z.Ac,em,e6,W]
 rw[Ad Pj];have q:=LH Jb t av h;rw[Aq Pj] at q;by_cases QI:t.en [AK];.rw[Af QI];have z:=mh Jb t av h;rw[As QI] at z;obtain⟨h1,A,d,w1,c⟩:=aEa w (g.dn (n':=n) Ab);refine⟨_,_,?_,w1,c⟩;rw[Ae,Il];simp only[abS,↓reduceIte,e.Ac,f.Ac,l.Ac,m.Ac,p.Ac,x.Ac,y.Ac,B.Ac,n_.Ac,i.Ac,mi.Ac,q.Ac,z.Ac,j,v,d.Ac]
 rw[Ad QI];have z:=mh Jb t av h;rw[Aq QI] at z;obtain⟨h1,A,d,w1,c⟩:=ze w (g.dn (n':=n) Ab);obtain⟨h2,F2,r2,D,C⟩:=aNV w1 6;refine⟨_,_,?_,D,c.trans C⟩;rw[Ae,Il];simp only[abS,↓reduceIte,e.Ac,f.Ac,l.Ac,m.Ac,p.Ac,x.Ac,y.Ac,B.Ac,n_.Ac,i.Ac,mi.Ac,q.Ac,z.Ac,j,v,d.Ac,r2.Ac,BS.again]
end
def MV(h:Ah)(F:Nat->Prop)(f:FuncId)(args:List Aa)(r:Aa)(bi:Nat)(b':BS):Prop:=∃h' F',BK cx f args h r h'/\RB h' bi b' F'/\DB h F h' F'
def WrR(h:Ah)(F:Nat->Prop)(bi k:Nat)(v:Aa)(b':BS):Prop:=Co h 1 (.ptr (some (bi,k))) v=some (put h bi k v)/\RB (put h bi k v) bi b' F/\DB h F (put h bi k v) F
section
variable{h h':Ah}{bi:Nat}{b b':BS}{F:Nat->Prop}{n o a:Nat}{t:Gk}{av:Aa}
def aJe(w:RB h bi b F)(g:Gz b (n+4) o a)(hm:Nm b.a)(ht:t.Sm)(hv:Bq t.Az av):MV h F 86 [.ptr (some (bi,0)),.agg (Dm t av)] (.int .i64 (b.a.len+1)) bi (b.KJ t):=by obtain⟨d,e,c,tt,G,w,hc,rfl⟩:=w;obtain⟨h',o',G',r,w',x⟩:=l_ (m:=n) w g.ok g.rm hm P7 hv ht.Az ht.name;exact⟨h',_,r,⟨d,o',c,tt,G',w',by unfold BS.KJ;rw[Ek];exact hc,rfl⟩,x⟩
def zj(w:RB h bi b F)(g:Gz b (n+5) o a)(hm:Nm b.a)(r:Int):MV h F 89 [.ptr (some (bi,0)),.int .i32 r] (.tuple []) bi (b.Nn r):=by obtain⟨e,d,c,tt,G,w,hc,rfl⟩:=w;obtain⟨h',G',r,w',x⟩:=aIM (m:=n) w g.ok g.rm hm r;exact⟨h',_,r,⟨e,d,c,tt,G',w',hc,rfl⟩,x⟩
def cJ(w:RB h bi b F)(g:Gz b (n+1) o a)(hm:Nm b.a){s:An}(hs:s.length<=100000)(x:Int):MV h F 90 [.ptr (some (bi,0)),.str s,.int .i64 x] (.tuple []) bi (b.Fe s x):=by obtain⟨e,d,c,tt,G,w,hc,rfl⟩:=w;obtain⟨h',G',r,w',x⟩:=aIN (m:=n) w g.ok g.rm hm s hs x;exact⟨h',_,r,⟨e,d,c,tt,G',w',hc,rfl⟩,x⟩
def dw(w:RB h bi b F)(g:Gz b n o a):MV h F 136 [.ptr (some (bi,0))] (.tuple []) bi b.Lk:=by
 obtain⟨l,d,c,tt,G,w,hc,rfl⟩:=w;have ho:=g.rm.AW;have ld:A7 h none (.ptr (some (bi,2)))=some d:=w.ld 2;obtain⟨u,i,j,hu⟩:=ŏ (h:=h) w.o Ab;have e:b.Lk={b with AW:=JS b.AW ((b.AW.length:Int)-1)}:=by
  unfold BS.Lk JS;split
  .have h1:max 1 ((b.AW.length:Int)-1).toNat=1:=by omega
   rw[h1,AF Ab]
  .have h1:max 1 ((b.AW.length:Int)-1).toNat=b.AW.length-1:=by omega
   rw[h1]
 have w1:=w.Ib (u:=i);have f:=w1.HZ hu;refine⟨_,_,?_,⟨l,u,c,tt,G,by rw[e];exact f,by rw[e];exact hc,rfl⟩,w.C0.trans Bg⟩;rw[Ae,yV];simp only[abS,↓reduceIte,ld,j.Ac,w1.st (k:=2) (v0:=d) rfl (AV.cells hu)]
def RM(w:RB h bi b F)(v:Int):WrR h F bi 4 (.int .i64 v) {b with mode:=v}:=by obtain⟨e,d,c,tt,G,w,hc,rfl⟩:=w;exact⟨w.st (k:=4) rfl rfl,⟨e,d,c,tt,G,w.put rfl rfl w.o w.t,hc,rfl⟩,Bg⟩
end
end Go.Am
end
section
end
