/- Lemmas -/
import Derived.Test.YtkaolmlpcamojaaGreatDoorH27
set_option linter.all false
noncomputable section
set_option maxHeartbeats 0
set_option maxRecDepth 100000
section
namespace Go.Am
open Go
def VL{nm:Aj}:∀{r:List Cb} {j:Nat},Qo nm r=(j:Int)->∃hj:j<r.reverse.length,r.reverse[j].node≠0
 |[],j,e=>by rw[Qo] at e;omega
 |x::r,j,e=>by
  rw[Qo] at e;split at e;.omega
  .rename_i h0;split at e
   .have d:j=r.reverse.length:=by rw[Lq];omega
    subst d;exact⟨AH,by simpa using h0⟩
   .obtain⟨hj,h1⟩:=VL e;refine⟨by simp at hj⊢;omega,?_⟩;simp only[Ee];rw[Gr hj];exact h1
def xQ{nm:Aj}{l:List Cb}{f:Nat}(e:GL nm l=(f:Int)):∃hf:f<l.length,l[f].node≠0:=by unfold GL at e;obtain⟨hj,h⟩:=VL e;simp only[Fm] at hj h;exact⟨hj,h⟩
def Zx{l:List Cb}{n:Int}{q:Nat}(e:Fk n l=(q:Int)):rT n l=Bg l q:=by unfold rT;rw[e,Af Ac,AX]
section
variable{h h':Ai}{bi a:Nat}{o c t:Aa}{G G' F:Nat->Prop}{b:BS}{x:Int}{m:Nat}
variable{nm:Aj}{av:Aa}{l:List A5}{r:List Aa}{sp p:Int}
def B1.aJJ{d:List Cb}(hc:B1 d c)(hb:d.length<=900000000)(nm:Aj)(h:Ai):BG cx 353 [c,.str nm] h (I (GL nm d)) h:=by obtain⟨fs,GK,hv⟩:=hc;have:=aNe (h:=h) hv (by rw[<-GK,Ao] at hb;omega) nm;rwa [gd,GK] at this
def aJK(w:RX h bi a o c t G b)(hc:B1 b.A6 c)(ok:EB b)(rm:BM b (m+4*b.AQ.length+10))(hnm:Nm b.a)(nm:Aj):
  ∃h' o' c' G',BG cx 224 [Pt bi 0,.str nm] h (.bool (b.round nm).1) h'/\RX h' bi a o' c' t G' (b.round nm).2/\B1 (b.round nm).2.A6 c'/\DC h (Bs bi G) h' (Bs bi G'):=by
 have ho:=rm.AQ;have Rx:=rm.A6;have V8:∀i∈b.AQ,i.name.length<9223372036854775807:=λi hi=>by have:=rm.Wg i hi;omega
 have l3:=w.l3;have ld:A7 h none (Pt bi 2)=some o:=w.ld 2;have Q:=hc.aJJ Ac nm h;by_cases hf:GL nm b.A6<0
 .obtain⟨h2,o2,r2,X,x2⟩:=aJB w rm nm;have e:b.round nm=(false,b.Du nm):=by unfold BS.round;simp only;rw[Af hf]
  have ea:(b.Du nm).A6=b.A6:=by
   unfold BS.Du;split;.split<;>rfl
   .rfl
  rw[e];refine⟨h2,o2,c,G,?_,X,by rw[ea];exact hc,x2⟩;rw[Ae,Q1];simp only[abS,l3,Q.Ab,hf,r2.Ab]
 obtain⟨f,Hu,W⟩:=TI (JA.1 hf);obtain⟨_,aAA⟩:=xQ W;have sM:¬(f:Int)<0:=Ac;rw[W] at Q;have Kw:=hc;obtain⟨fs,GK,hv⟩:=Kw;have aN7:b.A6.length=fs.length:=by rw[<-GK,Ao]
 have efp:fs[f].c=b.A6[f]:=by simp only[<-GK,C0]
 have Y:=AU.BL (k:= .i64) hv (Ac:f<fs.length);have Zj:=gj ok.mv Hu aAA;have KX:=rm.DB _ (AN Hu);have Xo:b.A6.getD f Cb.zero=b.A6[f]:=by rw[AJ,Ap Hu];rfl
 rw[<-efp] at Zj KX Xo aAA;generalize hfe:fs[f]=fe at*;have oh:fe.v.cells=[fe.v]:=AU.cells fe.ok;rw[Ck.row] at Y;have r2:=aM (h:=h) w.o Ac fe.c.node;by_cases hk:AV (Bz fe.c.node) b.AQ<0
 .obtain⟨h2,c2,H,X,I7,x2⟩:=R_ w hc Ac fe.c.node;rw[Zx Zj] at X I7;have e:b.round nm=(false,{b with A6:=Bg b.A6 f}):=by unfold BS.round;simp only;rw[Ad hf,W,AX,Xo,Af hk]
  rw[e];refine⟨h2,o,c2,G,?_,X,I7,x2⟩;rw[Ae,Q1];simp only[abS,Nat.reduceLeDiff,↓reduceIte,l3,Q.Ab,sM,Y,ld,r2.Ab,hk,H.Ab]
 obtain⟨k,V⟩:∃k:Nat,AV (Bz fe.c.node) b.AQ=(k:Int):=⟨_,(Hh (JA.1 hk)).symm⟩;obtain⟨QF,hkq,_⟩:=IZ V;have qW:¬(k:Int)<0:=Ac;rw[V] at r2;have H:=aM3 (h:=h) w.o Ac V8 1 fe.c.node;by_cases Ri:Kn (Bz fe.c.node) (JZ 1) b.AQ.reverse=false
 .have e:b.round nm=(false,b):=by unfold BS.round;simp only;rw[Ad hf,W,AX,Xo,Ad hk,Af (.inr Ri)]
  rw[e];refine⟨h,o,c,G,?_,w,hc,.refl⟩;rw[Ri] at H;rw[Ae,Q1];simp only[abS,Nat.reduceLeDiff,↓reduceIte,l3,Q.Ab,sM,Y,ld,r2.Ab,qW,A0,H.Ab]
 have aEL:Kn (Bz fe.c.node) (JZ 1) b.AQ.reverse=true:=by simpa using Ri
 rw[aEL] at H;by_cases hkz:k=0
 .have e:b.round nm=(false,b):=by unfold BS.round;simp only;rw[Ad hf,W,AX,Xo,Ad hk,Af (.inl (by rw[V,hkz];rfl))]
  rw[e];refine⟨h,o,c,G,?_,w,hc,.refl⟩;rw[Ae,Q1];simp only[abS,Nat.reduceLeDiff,↓reduceIte,l3,Q.Ab,sM,Y,ld,r2.Ab,qW,A0,H.Ab,AL (Ac:(k:Int)=0)]
 have rM:¬(k:Int)=0:=Ac;have r4:=aM4 (h:=h) w.o Ac V8 fe.c.node;have hor:¬(AV (Bz fe.c.node) b.AQ=0\/Kn (Bz fe.c.node) (JZ 1) b.AQ.reverse=false):=by rw[V];rintro(h|h);exact rM h;exact Ri h
 by_cases hfa:D2 fe.c.node b.AQ<0
 .have e:b.round nm=(false,{b with AQ:=Hd fe.c.node b.AQ,A6:=Bg b.A6 f}):=by unfold BS.round;simp only;rw[Ad hf,W,AX,Xo,Ad hk,Ad hor,Af hfa]
  obtain⟨u,t1,r5,hu⟩:=aHO (h:=h) w.o Ac fe.c.node;have w1:=w.HQ (u:=t1);have X:=w1.HZ hu;obtain⟨h3,c3,r6,w3,NR,x3⟩:=R_ X hc Dv fe.c.node;simp only at w3 NR;rw[Zx Zj] at w3 NR;rw[e];refine⟨h3,u,c3,G,?_,w3,NR,(w.C2.trans Bf).trans x3⟩;rw[Ae,Q1];simp only[abS,Nat.reduceLeDiff,↓reduceIte,l3,Q.Ab,sM,Y,ld,r2.Ab,qW,A0,H.Ab,rM,r4.Ab,hfa,r5.Ab,w1.st (k:=2) (v0:=o) rfl (AU.cells hu),r6.Ab]
 obtain⟨N,hN,eN⟩:∃N:Nat,k+1+N<b.AQ.length/\D2 fe.c.node b.AQ=((k+1+N:Nat):Int):=by
  have xJ:=hfa;rw[IS,Ad hk,V,AX] at xJ⊢;unfold E2 at xJ⊢;split at xJ;.rename_i j hj;have:=(EK.1 hj).1;rw[Be] at this;exact⟨j,Ac,Ac⟩
  .omega
 have e2:=AU.BL (k:= .i64) w.o hN;have e3:=AU.BL (k:= .i64) w.o (Ac:k-1<b.AQ.length);obtain⟨d,nr⟩:∃d,d=b.AQ[k+1+N]:=⟨_,rfl⟩;obtain⟨an,han⟩:∃an,an=b.AQ[k-1]'(by omega):=⟨_,rfl⟩;rw[<-nr,Item.row] at e2;rw[<-han,Item.row] at e3;have vr:b.AQ.getD (k+1+N) Item.zero=d:=by rw[AJ,Ap hN,nr];rfl
 have hga:b.AQ.getD (k-1) Item.zero=an:=by rw[AJ,Ap Ac,han];rfl
 have e:b.round nm=(true,BS.GP fe.c d.node an.node (BS.KV d.node an.node (k+1+N) k N (b,d.node,f))):=by
  unfold BS.round;simp only
  rw[Ad hf,W,AX,Xo,Ad hk,Ad hor,Ad hfa,V,eN,AX,AX,vr,hga,(Ac:k+1+N-1 -k=N)]
 have oj:=ok.op d (by rw[nr];exact AN _);have aEM:b.AQ[k].node=fe.c.node:=by simpa[Bz] using hkq
 have aAz:b.a.has fe.c.node:=by rw[<-aEM];exact(ok.op _ (AN _)).1
 have Wc:=Iv (n:=k) Ac Ac;have le0:=(WQ (blk:=d.node) (anc:=an.node) (far:=k+1+N) (k:=k) (c:=N) (s:=(b,d.node,f)) ok oj.1).2.2;obtain⟨h5,o5,c5,G5,s',r7,es,i⟩:=aJG (m:=m+10) (anc:=an.node) (fe:=fe.c.node) (f:=f) w hc ok (rm.le Ac) hnm hN Ac nr.symm V (by rw[Zj];omega) aAz;rw[<-es] at le0 e;obtain⟨q,hq,ny,hq0,hq2,hq3⟩:=HJ i.WI;have hmk:=i.mkb;have r8:=gz i.w i.ok.ba i.rm i.nm an.node;obtain⟨h7,G7,r9,w7,x7⟩:=gy i.w i.ok.ba i.rm (s'.1.place an.node).1 s'.2.1 (s'.1.place an.node).2;have le7:Le s'.1.a (s'.1.a.Es s'.2.1 (s'.1.place an.node).1 (s'.1.place an.node).2):=IE;have R:=i.ok.KW (Np (n:=s'.2.1) (p:=(s'.1.place an.node).1) (b:=(s'.1.place an.node).2) i.ok.ok) le7;have O:=i.rm.KW (Kj (x:=s'.2.1) (p:=(s'.1.place an.node).1) (bf:=(s'.1.place an.node).2));have nm7:Nm (s'.1.a.Es s'.2.1 (s'.1.place an.node).1 (s'.1.place an.node).2):=i.nm.Es;obtain⟨b2,OC⟩:∃b2,b2={s'.1 with a:=s'.1.a.Es s'.2.1 (s'.1.place an.node).1 (s'.1.place an.node).2}:=⟨_,rfl⟩;have ZK:b2.AQ=s'.1.AQ:=by rw[OC]
 have I7:b2.A6=s'.1.A6:=by rw[OC]
 have le2:Le s'.1.a b2.a:=by rw[OC];exact le7
 have nm2:Nm b2.a:=by rw[OC];exact nm7
 rw[<-OC] at w7 R O;have hr:Oq fe.c.name fe.v [I 2,.str fe.c.name,ff,S [],ff,S [],ff,ff,fe.v,ff,S [],.int .i32 0]:=⟨I 2,ff,S [],ff,S [],ff,ff,ff,S [],.int .i32 0,rfl⟩;obtain⟨h8,G8,r11,w8,x8⟩:=aAN (m:=m+7) w7 R.ba (O.le Ac) nm2 hr fe.ok KX.2 KX.1 d.node 1;obtain⟨é,fr,le8⟩:=Qp (nm:=fe.c.name) (at_:=fe.c.Av) (p:=d.node) R J9;have M:=Jf (m:=m+7) (nm:=fe.c.name) (l:=fe.c.Av) (sp:=1) (p:=d.node) (O.le Ac) KX.2;obtain⟨g,hnw⟩:∃g,g=b2.GG fe.c.name fe.c.Av 1:=⟨_,rfl⟩;obtain⟨b3,qo⟩:∃b3,b3=b2.El fe.c.name fe.c.Av 1 d.node:=⟨_,rfl⟩;have ho3:b3.AQ=s'.1.AQ:=by rw[qo,<-ZK];unfold BS.El;rw[Af J9]
 have NR:b3.A6=s'.1.A6:=by rw[qo,<-I7];unfold BS.El;rw[Af J9]
 rw[<-hnw] at r11 fr;rw[<-qo] at w8 é fr le8 M;have aI2:(b3.a.nd d.node).Bc.length<=1000000000:=M.ZR.Bc é.ok d.node;obtain⟨kv,r12,fy⟩:∃v,BG cx 212 [Pt a 0,I d.node] h8 v h8/\DX (b3.a.nd d.node).Bc v:=by obtain⟨n,i,ps,wa,_⟩:=w8.w;exact L_ wa aI2
 have dD:=λ(y:Item)=>@Item.CP y;have I9:Ev cx 224 [Pt bi 0,.str nm] h λr h'=>r= .bool true/\∃o' c' G',RX h' bi a o' c' t G' (BS.GP fe.c d.node an.node s')/\B1 (BS.GP fe.c d.node an.node s').A6 c'/\DC h (Bs bi G) h' (Bs bi G'):=by
  unfold Ev;rw[Q1];simp only[abS,Nat.reduceLeDiff,↓reduceIte,E9,l3,Q.Ab,sM,Y,ld,r2.Ab,qW,A0,H.Ab,rM,r4.Ab,eN,(Ac:¬((k+1+N:Nat):Int)<0),e2,Wc,e3];simp only[abS,Nat.reduceLeDiff,↓reduceIte,AT,r7.Ab,r8.Ab,r9.Ab,oh];simp only[abS,↓reduceIte,E9,r11.Ab,dD,w8.l0,r12.Ab];have x8':DC h (Bs bi G) h8 (Bs bi G8):=(i.x.trans x7).trans x8;have hvl:=AU.CN fy;refine DK (i:=0) (λj:Nat=>[I (j:Int)]) (λj U=>j<=(b3.a.nd d.node).Bc.length/\∃K,RX U bi a o5 c5 t K {b3 with a:=BS.CB b3.a g.node ((b3.a.nd d.node).Bc.take j)}/\EB {b3 with a:=BS.CB b3.a g.node ((b3.a.nd d.node).Bc.take j)}/\BM {b3 with a:=BS.CB b3.a g.node ((b3.a.nd d.node).Bc.take j)} (m+7)/\DC h8 (Bs bi G8) U (Bs bi K)) (λj=>(b3.a.nd d.node).Bc.length-j)
   (λj U=>j=(b3.a.nd d.node).Bc.length/\∃K,RX U bi a o5 c5 t K {b3 with a:=BS.CB b3.a g.node ((b3.a.nd d.node).Bc.take j)}/\EB {b3 with a:=BS.CB b3.a g.node ((b3.a.nd d.node).Bc.take j)}/\BM {b3 with a:=BS.CB b3.a g.node ((b3.a.nd d.node).Bc.take j)} (m+7)/\DC h8 (Bs bi G8) U (Bs bi K)) 0 rfl ⟨AY _,G8,w8,é,M,.refl⟩ ?_ ?_
  .rintro j U ⟨hj,K,E,xK,gl,Z⟩;rcases AR j (b3.a.nd d.node).Bc.length with hlt|Eh
   .have e9:=AU.BL (k:= .i64) fy hlt;obtain⟨er,VE,z,F_,UG,xL⟩:=E.mJ xK.ba gl g.node (b3.a.nd d.node).Bc[j] 0;have hs:BS.CB b3.a g.node ((b3.a.nd d.node).Bc.take (j+1))=(BS.CB b3.a g.node ((b3.a.nd d.node).Bc.take j)).F0 g.node (b3.a.nd d.node).Bc[j] 0:=by rw[AB hlt,RD]
    rw[B8] at e9;simp only[abS,hvl,(Ac:(j:Int)<((b3.a.nd d.node).Bc.length:Int)),E.l0,e9,F_.Ab,BN (Ac:j<9223372036854775807)];refine .next (j+1) rfl ⟨hlt,z,by rw[hs];exact UG,?_,?_,Z.trans xL⟩ Ac
    .have:=xK.KW (QU (p:=g.node) (n:=(b3.a.nd d.node).Bc[j]) (b:=0) xK.ok) O3;rw[hs];exact this
    .have:=gl.KW (Ki (p:=g.node) (x:=(b3.a.nd d.node).Bc[j]) (bf:=0));rw[hs];exact this
   .simp only[abS,hvl,(Ac:¬(j:Int)<((b3.a.nd d.node).Bc.length:Int))];exact .HN j rfl ⟨Ac,K,E,xK,gl,Z⟩
  .rintro j U ⟨rfl,K,E,xK,gl,Z⟩;rw[Bx] at E xK gl;obtain⟨er,VE,z,F_,UG,xL⟩:=E.mJ xK.ba gl d.node g.node 0;have aAC:B1 ({b3 with a:=(BS.CB b3.a g.node (b3.a.nd d.node).Bc).F0 d.node g.node 0}:BS).A6 c5:=by simp only;rw[NR];exact i.hc
   have hqa:=i.rm.A6;have vz:Fk fe.c.node b3.A6=(q:Int):=by rw[NR];exact ny
   have B:=aAC.ix (n:=0) (by simp only;rw[NR];omega) fe.c.node VE;simp only at B;rw[vz] at B;obtain⟨aB,Yg,r15,A,om,x11⟩:=R_ UG aAC (by simp only;rw[NR];omega) fe.c.node;simp only at A om;rw[Zx vz] at A om;obtain⟨UF,Ws⟩:∃UF:Nat,UF=if q<s'.2.2 then s'.2.2 -1 else s'.2.2:=⟨_,rfl⟩
   have sN:(Bg b3.A6 q).length=b3.A6.length-1:=Hq (by rw[NR];exact hq);have WC:b3.A6.length=s'.1.A6.length:=by rw[NR]
   obtain⟨u1,P,aAG,T⟩:=om.wi Ac (e:={fe.c with node:=g.node}) fe.ok (by have:=KX.2.1;simp only;omega) (UF:Int) aB;have l11:=A.l3;have s12:=A.st (k:=3) (v0:=Yg) rfl T;have ê:=A.KE (u:=u1) (l:=(Bg b3.A6 q).take (CJ UF (Bg b3.A6 q).length)++{fe.c with node:=g.node}::(Bg b3.A6 q).drop (CJ UF (Bg b3.A6 q).length));have x12:=x11.trans (Bf (bi:=bi) (G:=z) (h:=aB) (k:=3) (v:=u1));generalize put aB bi 3 u1=D at*;have hob:=i.rm.AQ;have ql:b3.AQ.length=s'.1.AQ.length:=by rw[ho3]
   have aJL:A7 D none (Pt bi 2)=some o5:=ê.ld 2;obtain⟨u2,t2,r17,IG⟩:=aHQ (h:=D) ê.o Dv fe.c.node;simp only at IG;have w13:=ê.HQ (u:=t2);have s13:=w13.st (k:=2) (v0:=o5) rfl (AU.cells IG);have L:=w13.HZ IG;have x14:=(x12.trans ê.C2).trans (Bf (bi:=bi) (G:=z) (h:=D++t2) (k:=2) (v:=u2));generalize put (D++t2) bi 2 u2=C at*;have sJ:(CX fe.c.node b3.AQ).length<=s'.1.AQ.length:=by rw[<-ho3];exact Kh.length_le
   have aJM:A7 C none (Pt bi 2)=some u2:=L.ld 2;have r18:=aM (h:=C) IG Ac d.node;have hli: -1<=AV (Bz d.node) (CX fe.c.node b3.AQ)/\AV (Bz d.node) (CX fe.c.node b3.AQ)<=(CX fe.c.node b3.AQ).length:=by rcases Dj (q:=Bz d.node) (l:=CX fe.c.node b3.AQ) with⟨h,_⟩|⟨n,h1,h2,_⟩<;>omega
   have add:=OY (a:=AV (Bz d.node) (CX fe.c.node b3.AQ)) (b:=1) Ac Ac;obtain⟨u3,r19,hu3⟩:=aNc (h:=C) IG Ac g (AV (Bz d.node) (CX fe.c.node b3.AQ)+1);have s15:=L.st (k:=2) (v0:=u2) rfl (AU.cells hu3);have w15:=L.HZ hu3;have x15:=x14.trans (Bf (bi:=bi) (G:=z) (h:=C) (k:=2) (v:=u3));have hE:BS.GP fe.c d.node an.node s'={b3 with a:=(BS.CB b3.a g.node (b3.a.nd d.node).Bc).F0 d.node g.node 0,A6:=(Bg b3.A6 q).take (CJ UF (Bg b3.A6 q).length)++{fe.c with node:=g.node}::(Bg b3.A6 q).drop (CJ UF (Bg b3.A6 q).length),AQ:=(CX fe.c.node b3.AQ).take (E3 (AV (Bz d.node) (CX fe.c.node b3.AQ)+1) (CX fe.c.node b3.AQ).length)++g::(CX fe.c.node b3.AQ).drop (E3 (AV (Bz d.node) (CX fe.c.node b3.AQ)+1) (CX fe.c.node b3.AQ).length)}:=by
    unfold BS.GP;simp only
    rw[<-OC,<-qo,<-hnw,vz,AX,<-Ws]
   have J:=UG.l3;by_cases hqm:(q:Int)<(s'.2.2:Int);.have dm:=Iv (n:=s'.2.2) Ac Ac;rw[Af (Ac:q<s'.2.2)] at Ws;rw[<-Ws] at dm;simp only[abS,Nat.reduceLeDiff,↓reduceIte,AT,E9,E.l0,F_.Ab,J,B.Ab,hqm,A0,dm,r15.Ab,l11,oh];simp only[BE,P.Ab,s12,aJL,r17.Ab,s13,aJM,r18.Ab,BK,add,r19.Ab,s15];rw[hE];exact⟨_,rfl,rfl,u3,u1,z,w15,aAG,(x8'.trans (Z.trans xL)).trans x15⟩
   .rw[Ad (Ac:¬q<s'.2.2)] at Ws;rw[Ws] at P;simp only[abS,Nat.reduceLeDiff,↓reduceIte,AT,E9,E.l0,F_.Ab,J,B.Ab,hqm,A0,r15.Ab,l11,oh];simp only[BE,P.Ab,s12,aJL,r17.Ab,s13,aJM,r18.Ab,BK,add,r19.Ab,s15];rw[hE];exact⟨_,rfl,rfl,u3,u1,z,w15,aAG,(x8'.trans (Z.trans xL)).trans x15⟩
 obtain⟨r,h',hr,rfl,o',c',G',w',Kw,x'⟩:=I9.ret;rw[e];exact⟨h',o',c',G',hr,w',Kw,x'⟩
end
namespace BS
def FH(b:BS)(nm:Aj)(k:Nat):Option Int:=
 if nm=LA then some (JO (b.AQ.take k))
 else if nm=xo then(if k=0 then some 7 else some 15)
 else if nm=xq then(if k=0 then some 7 else some 15)
 else if nm=wTr then some 14
 else if nm=Us then some 13
 else if nm=Uu then some 13
 else if nm=Ut then some 13
 else if nm=Tp then some 11
 else if nm=QV then some 12
 else if nm=Fa then some 9
 else if nm=AM then some (b.tm.getLast?.getD 7)
 else if nm=Rw then(if k=0 then some 7 else some 4)
 else if nm=ao then some 7
 else if nm=QW then some 20
 else if nm=DI then some (if b.head=0 then 3 else 6)
 else if k=0 then some 7 else none
end BS
section
variable{h h':Ai}{bi a:Nat}{o c t:Aa}{G G' F:Nat->Prop}{b:BS}{x:Int}{m:Nat}
def S_{nd:Int}{nm:Aj}{v:Bool}{k:Nat}:b.Hp ⟨nd,1,nm,v⟩ k=b.FH nm k:=by
 unfold BS.Hp BS.FH;simp only[BJ];by_cases u:nm=LA;.subst u;cases k<;>rfl
 by_cases s:nm=xo;.subst s;cases k<;>rfl
 by_cases q:nm=xq;.subst q;cases k<;>rfl
 by_cases p:nm=wTr;.subst p;cases k<;>rfl
 by_cases n:nm=Us;.subst n;cases k<;>rfl
 by_cases l:nm=Uu;.subst l;cases k<;>rfl
 by_cases j:nm=Ut;.subst j;cases k<;>rfl
 by_cases i:nm=Tp;.subst i;cases k<;>rfl
 by_cases g:nm=QV;.subst g;cases k<;>rfl
 by_cases f:nm=Fa;.subst f;cases k<;>rfl
 by_cases mM:nm=AM;.subst mM;cases k<;>rfl
 by_cases sR:nm=Rw;.subst sR;cases k<;>rfl
 by_cases sS:nm=ao;.subst sS;cases k<;>rfl
 by_cases qy:nm=QW;.subst qy;cases k<;>rfl
 by_cases d:nm=DI;.subst d;cases k<;>rfl
 have hf:(JH.find? λr=>decide (r.1=nm))=none:=by
  rw[Jz];intro r hr;simp only[JH,AS,KY,sE] at hr;rcases hr with rfl|rfl|rfl|rfl|rfl|rfl|rfl|rfl|rfl<;>simp only[CO]<;>intro e
  .exact p e.symm
  .exact n e.symm
  .exact l e.symm
  .exact j e.symm
  .exact i e.symm
  .exact g e.symm
  .exact f e.symm
  .exact sS e.symm
  .exact qy e.symm
 rw[hf];simp only[u,s,q,p,n,l,j,i,g,f,mM,sR,sS,qy,d,DF,aFq,ZS]
def T_{i:Item}{k:Nat}(h:¬i.Bb=1):b.Hp i k=if k=0 then some 7 else none:=by unfold BS.Hp;rw[Ad h]
def aJN(w:RX h bi a o c t G b)(rm:BM b m){k:Nat}(hk:k<=b.AQ.length):BG cx 358 [Pt bi 0,I (k:Int)] h (I (BS.JO (b.AQ.take k))) h:=by
 have ho:=rm.AQ;have ld:A7 h none (Pt bi 2)=some o:=w.ld 2;rw[Ae,Ų];simp only[BE,Da (Ac: -9223372036854775808<=(k:Int)-1) (Ac:(k:Int)-1<9223372036854775808)];refine Bm (λn:Nat=>[I 0,I ((n:Int)-1)]) (λn h1=>n<=k/\((b.AQ.take k).reverse.find? λi=>Bw [AM] i||Bw [Fa] i)=((b.AQ.take n).reverse.find? λi=>Bw [AM] i||Bw [Fa] i)/\h1=h) (λn=>n) k rfl ⟨Ag _,rfl,rfl⟩ ?_;rintro n h1 ⟨hn,ha,rfl⟩;cases n with
 |zero=>simp only[abS,↓reduceIte,(Ac:¬(0:Int)<=((0:Nat):Int)-1)];unfold BS.JO;rw[ha];rfl
 |succ n=>
  have hlt:n<b.AQ.length:=Ac;have i1:((n+1:Nat):Int)-1=(n:Int):=Ac;have g:=AU.BL (k:= .i64) w.o hlt;have e:AD (.Dk 1) [S AM]=some (.sl 1 ([AM].map Cu)):=Ea (ws:=[AM]) rfl AP;have xF:AD (.Dk 1) [S Fa]=some (.sl 1 ([Fa].map Cu)):=Ea (ws:=[Fa]) rfl AP;have r2:=f167 (h:=h1) b.AQ[n] (C1 (ws:=[AM])) AP;have f:=f167 (h:=h1) b.AQ[n] (C1 (ws:=[Fa])) AP;rw[TE hlt,GQ] at ha;generalize b.AQ[n]=i at*;simp only[abS,Nat.reduceLeDiff,↓reduceIte,E9,i1,(Ac:(0:Int)<=(n:Int)),ld,g,e,r2.Ab,xF,f.Ab,Da (Ac: -9223372036854775808<=(n:Int)-1) (Ac:(n:Int)-1<9223372036854775808)];rw[CS];refine⟨λh2=>?_,λh2=>?_⟩;.simp only[h2,UW] at ha;unfold BS.JO;rw[ha];simp only[h2,BJ]
  .simp only[h2,Ht] at ha;rw[CS];refine⟨λd=>?_,λd=>?_⟩;.rw[d] at ha;unfold BS.JO;rw[ha];simp only[h2,Cx,DF]
   .rw[d] at ha;exact AK.next n rfl ⟨Ac,ha,rfl⟩ Ac
def aJO(w:RX h bi a o c t G b)(rm:BM b m)(i:Item){k:Nat}(hk:k<=b.AQ.length):BG cx 225 [Pt bi 0,.agg i.row,I (k:Int),.bool (decide (k=0))] h (.tuple [I ((b.Hp i k).getD 7),.bool (b.Hp i k).isSome]) h:=by
 have B:=rm.tm;have l6:=w.l6;have l7:=w.l7;have lt:=AU.CN w.t;obtain⟨nd,sp,nm,D⟩:=i;by_cases hs:sp=1;rotate_left
 .rw[T_ (by exact hs),Ae,bu];by_cases u:k=0;.simp only[abS,Item.row,hs,u,Dw,Gg,nA]
  .simp only[abS,Item.row,hs,u,DG,Option.getD_none,aPm]
 subst hs;rw[S_,Ae,bu];by_cases d:nm=LA
 .have e:b.FH nm k=some (BS.JO (b.AQ.take k)):=by unfold BS.FH;rw[Af d]
  rw[e];simp only[BE,Jr,Item.row,AL d,(aJN w rm hk).Ab]
 by_cases f:nm=xo
 .have e:b.FH nm k=(if k=0 then some 7 else some 15):=by unfold BS.FH;rw[Ad d,Af f]
  rw[e];by_cases u:k=0;.simp only[abS,Jr,Item.row,d,AL f,u]
  .simp only[abS,Jr,Item.row,d,AL f,u]
 by_cases g:nm=xq
 .have e:b.FH nm k=(if k=0 then some 7 else some 15):=by unfold BS.FH;rw[Ad d,Ad f,Af g]
  rw[e];by_cases u:k=0;.simp only[abS,Jr,Item.row,d,f,AL g,u]
  .simp only[abS,Jr,Item.row,d,f,AL g,u]
 by_cases j:nm=wTr
 .have e:b.FH nm k=some 14:=by unfold BS.FH;rw[Ad d,Ad f,Ad g,Af j]
  rw[e];simp only[BE,Jr,Item.row,d,f,g,AL j]
 by_cases l:nm=Us
 .have e:b.FH nm k=some 13:=by unfold BS.FH;rw[Ad d,Ad f,Ad g,Ad j,Af l]
  rw[e];simp only[BE,Jr,Item.row,d,f,g,j,AL l]
 by_cases n:nm=Uu
 .have e:b.FH nm k=some 13:=by unfold BS.FH;rw[Ad d,Ad f,Ad g,Ad j,Ad l,Af n]
  rw[e];simp only[BE,Jr,Item.row,d,f,g,j,l,AL n]
 by_cases p:nm=Ut
 .have e:b.FH nm k=some 13:=by unfold BS.FH;rw[Ad d,Ad f,Ad g,Ad j,Ad l,Ad n,Af p]
  rw[e];simp only[BE,Jr,Item.row,d,f,g,j,l,n,AL p]
 by_cases q:nm=Tp
 .have e:b.FH nm k=some 11:=by unfold BS.FH;rw[Ad d,Ad f,Ad g,Ad j,Ad l,Ad n,Ad p,Af q]
  rw[e];simp only[BE,Jr,Item.row,d,f,g,j,l,n,p,AL q]
 by_cases r:nm=QV
 .have e:b.FH nm k=some 12:=by unfold BS.FH;rw[Ad d,Ad f,Ad g,Ad j,Ad l,Ad n,Ad p,Ad q,Af r]
  rw[e];simp only[BE,Jr,Item.row,d,f,g,j,l,n,p,q,AL r]
 by_cases s:nm=Fa
 .have e:b.FH nm k=some 9:=by unfold BS.FH;rw[Ad d,Ad f,Ad g,Ad j,Ad l,Ad n,Ad p,Ad q,Ad r,Af s]
  rw[e];simp only[BE,Jr,Item.row,d,f,g,j,l,n,p,q,r,AL s]
 by_cases mM:nm=AM
 .have e:b.FH nm k=some (b.tm.getLast?.getD 7):=by unfold BS.FH;rw[Ad d,Ad f,Ad g,Ad j,Ad l,Ad n,Ad p,Ad q,Ad r,Ad s,Af mM]
  rw[e];by_cases ht:b.tm=[]
  .have y:AD (.len false) [t]=some (I 0):=by rw[lt,ht];rfl
   simp only[BE,Jr,Item.row,d,f,g,j,l,n,p,q,r,s,AL mM,l6,y,ht,sG]
  .have hpos:=D7.2 ht;have A:=AU.BL (k:= .i64) w.t (Ac:b.tm.length-1<b.tm.length);have C:b.tm.getLast?.getD 7=b.tm[b.tm.length-1]:=by rw[K5,Ap Ac];rfl
   rw[B8] at A;simp only[BE,Jr,Item.row,d,f,g,j,l,n,p,q,r,s,AL mM,l6,lt,(Ac:(0:Int)<(b.tm.length:Int)),Iv hpos (Ac:b.tm.length<9223372036854775807),A,C]
 by_cases sR:nm=Rw
 .have e:b.FH nm k=(if k=0 then some 7 else some 4):=by unfold BS.FH;rw[Ad d,Ad f,Ad g,Ad j,Ad l,Ad n,Ad p,Ad q,Ad r,Ad s,Ad mM,Af sR]
  rw[e];by_cases u:k=0;.simp only[abS,Jr,Item.row,d,f,g,j,l,n,p,q,r,s,mM,AL sR,u]
  .simp only[abS,Jr,Item.row,d,f,g,j,l,n,p,q,r,s,mM,AL sR,u]
 by_cases sS:nm=ao
 .have e:b.FH nm k=some 7:=by unfold BS.FH;rw[Ad d,Ad f,Ad g,Ad j,Ad l,Ad n,Ad p,Ad q,Ad r,Ad s,Ad mM,Ad sR,Af sS]
  rw[e];simp only[BE,Jr,Item.row,d,f,g,j,l,n,p,q,r,s,mM,sR,AL sS]
 by_cases qy:nm=QW
 .have e:b.FH nm k=some 20:=by unfold BS.FH;rw[Ad d,Ad f,Ad g,Ad j,Ad l,Ad n,Ad p,Ad q,Ad r,Ad s,Ad mM,Ad sR,Ad sS,Af qy]
  rw[e];simp only[BE,Jr,Item.row,d,f,g,j,l,n,p,q,r,s,mM,sR,sS,AL qy]
 by_cases v:nm=DI
 .have e:b.FH nm k=some (if b.head=0 then 3 else 6):=by unfold BS.FH;rw[Ad d,Ad f,Ad g,Ad j,Ad l,Ad n,Ad p,Ad q,Ad r,Ad s,Ad mM,Ad sR,Ad sS,Ad qy,Af v]
  rw[e];by_cases z:b.head=0;.simp only[BE,Jr,Item.row,d,f,g,j,l,n,p,q,r,s,mM,sR,sS,qy,AL v,l7,z]
  .simp only[BE,Jr,Item.row,d,f,g,j,l,n,p,q,r,s,mM,sR,sS,qy,AL v,l7,z]
 have e:b.FH nm k=if k=0 then some 7 else none:=by unfold BS.FH;rw[Ad d,Ad f,Ad g,Ad j,Ad l,Ad n,Ad p,Ad q,Ad r,Ad s,Ad mM,Ad sR,Ad sS,Ad qy,Ad v]
 rw[e];by_cases u:k=0;.simp only[abS,Jr,Item.row,d,f,g,j,l,n,p,q,r,s,mM,sR,sS,qy,v,u]
 .simp only[abS,Jr,Item.row,d,f,g,j,l,n,p,q,r,s,mM,sR,sS,qy,v,u]
def aAS(w:RX h bi a o c t G b)(rm:BM b m):
  ∃h',BG cx 96 [Pt bi 0] h (.tuple []) h'/\RX h' bi a o c t G b.HS/\DC h (Bs bi G) h' (Bs bi G):=by
 have ho:=rm.AQ;have ld:A7 h none (Pt bi 2)=some o:=w.ld 2;have lo:=AU.CN w.o;have SC:=w.l9;have hlc:=w.aAr;have I9:Ev cx 96 [Pt bi 0] h λr h'=>r= .tuple []/\RX h' bi a o c t G b.HS/\DC h (Bs bi G) h' (Bs bi G):=by
  unfold Ev;rw[aEe];simp only[BE,ld,lo,Da (Ac: -9223372036854775808<=(b.AQ.length:Int)-1) (Ac:(b.AQ.length:Int)-1<9223372036854775808)];have Ib:∀v,Cv h 1 (Pt bi 4) (I v)=some (Am.put h bi 4 (I v)):=λv=>w.st (k:=4) rfl rfl;refine Bm (λn:Nat=>[I ((n:Int)-1)]) (λn h1=>n<=b.AQ.length/\b.L6 b.AQ.length=b.L6 n/\h1=h) (λn=>n) b.AQ.length rfl ⟨Ag _,rfl,rfl⟩ ?_;rintro n h1 ⟨hn,ha,rfl⟩;cases n with
  |zero=>
   have e:b.HS={b with mode:=7}:=by unfold BS.HS;rw[ha];rfl
   simp only[abS,↓reduceIte,(Ac:¬(0:Int)<=((0:Nat):Int)-1),Ib];exact⟨_,rfl,rfl,by rw[e];exact w.rF 7,Bf⟩
  |succ n=>
   have hlt:n<b.AQ.length:=Ac;have i1:((n+1:Nat):Int)-1=(n:Int):=Ac;have g:=AU.BL (k:= .i64) w.o hlt;have d:=aJO w rm (b.EF n) (k:=n) Ac;have e:b.L6 (n+1)=match b.Hp (b.EF n) n with|some m=>m|none=>b.L6 n:=rfl
   rw[e] at ha;have PC:=Da (Ac: -9223372036854775808<=(n:Int)-1) (Ac:(n:Int)-1<9223372036854775808);have i:∀(h0:n≠0\/b.Mo=false),b.EF n=b.AQ[n]:=λh0=>by unfold BS.EF;rw[Ad (by rintro⟨h1,h2⟩;rcases h0 with h0|h0;exact h0 h1;rw[h0] at h2;exact absurd h2 AP),AJ,Ap hlt];rfl
   have j:n=0->b.Mo=true->b.EF n=b.ctx:=λh0 hf=>by unfold BS.EF;rw[Af ⟨h0,hf⟩]
   have HN:∀v,b.Hp (b.EF n) n=some v->RX (Am.put h1 bi 4 (I v)) bi a o c t G b.HS:=λv hm=>by
    rw[hm] at ha;have e:b.HS={b with mode:=v}:=by unfold BS.HS;rw[ha]
    rw[e];exact w.rF v
   have f:b.Hp (b.EF n) n=none->b.L6 b.AQ.length=b.L6 n:=λhm=>by rw[hm] at ha;exact ha
   generalize hx:b.AQ[n]=x at*;by_cases h0:n=0
   .have Z5:((n:Int)=0)=True:=AL Ac;rw[Al h0] at d;cases hf:b.Mo with
    |true=>
     rw[j h0 hf] at d HN f;rw[hf] at SC;cases hm:b.Hp b.ctx n with
     |none=>rw[hm] at d;simp only[BE,Nat.reduceLeDiff,↓reduceIte,E9,i1,(Ac:(0:Int)<=(n:Int)),ld,g,Z5,SC,hlc,d.Ab,PC,Jr];exact AK.next n rfl ⟨Ac,f hm,rfl⟩ Ac
     |some v=>rw[hm] at d;simp only[BE,Nat.reduceLeDiff,↓reduceIte,E9,i1,(Ac:(0:Int)<=(n:Int)),ld,g,Z5,SC,hlc,d.Ab,Ib,Jr];exact⟨_,rfl,rfl,HN v hm,Bf⟩
    |false=>
     rw[i (.inr hf)] at d HN f;rw[hf] at SC;cases hm:b.Hp x n with
     |none=>rw[hm] at d;simp only[BE,Nat.reduceLeDiff,↓reduceIte,E9,i1,(Ac:(0:Int)<=(n:Int)),ld,g,Z5,SC,d.Ab,PC,Jr];exact AK.next n rfl ⟨Ac,f hm,rfl⟩ Ac
     |some v=>rw[hm] at d;simp only[BE,Nat.reduceLeDiff,↓reduceIte,E9,i1,(Ac:(0:Int)<=(n:Int)),ld,g,Z5,SC,d.Ab,Ib,Jr];exact⟨_,rfl,rfl,HN v hm,Bf⟩
   .have Z5:¬(n:Int)=0:=by omega
    rw[Ah h0] at d;rw[i (.inl h0)] at d HN f;cases hm:b.Hp x n with
    |none=>rw[hm] at d;simp only[BE,Nat.reduceLeDiff,↓reduceIte,E9,i1,(Ac:(0:Int)<=(n:Int)),ld,g,Z5,d.Ab,PC,Jr];exact AK.next n rfl ⟨Ac,f hm,rfl⟩ Ac
    |some v=>rw[hm] at d;simp only[BE,Nat.reduceLeDiff,↓reduceIte,E9,i1,(Ac:(0:Int)<=(n:Int)),ld,g,Z5,d.Ab,Ib,Jr];exact⟨_,rfl,rfl,HN v hm,Bf⟩
 obtain⟨r,h',hr,rfl,w',x'⟩:=I9.ret;exact⟨h',hr,w',x'⟩
def aJP(w:RX h bi a o c t G b)(hc:B1 b.A6 c)(rm:BM b m):
  ∃h' o' c' t',BG cx 98 [Pt bi 0] h (.tuple []) h'/\RX h' bi a o' c' t' G b.Cy/\B1 b.Cy.A6 c'/\DC h (Bs bi G) h' (Bs bi G):=by
 have bX:AW=140737488355328:=rfl;have ho:=rm.AQ;have Rx:=rm.A6;have Z:=rm.tm;have V8:∀i∈b.AQ,i.name.length<9223372036854775807:=λi hi=>by have:=rm.Wg i hi;omega
 have ld:A7 h none (Pt bi 2)=some o:=w.ld 2;have H:=aAb (h:=h) w.o Ac AM;by_cases F7:AV (Bw [AM]) b.AQ<0;.refine⟨h,o,c,t,?_,by unfold BS.Cy;rw[Af F7];exact w,by unfold BS.Cy;rw[Af F7];exact hc,.refl⟩;rw[Ae,wT];simp only[abS,ld,H.Ab,F7]
 obtain⟨A,E,r2,Py⟩:=f165 (h:=h) w.o Ac V8 [] true;have Ib:EU [] true=CK:=by funext a;rfl
 rw[Ib] at Py;have w0:=w.HQ (u:=E);have N:=w0.st (k:=2) (v0:=o) rfl (AU.cells Py);have w1:=w0.HZ Py;have T:=w.C2.trans (Bf (bi:=bi) (G:=G) (h:=h++E) (k:=2) (v:=A));have l1:(DN CK CY b.AQ).length<=b.AQ.length:=QS;generalize put (h++E) bi 2 A=h1 at*;have qx:A7 h1 none (Pt bi 2)=some A:=w1.ld 2;obtain⟨g,t2,P,IG⟩:=f85 (h:=h1) Py Ac (C1 (ws:=[AM])) AP;rw[<-O0] at IG;have f:=w1.HQ (u:=t2);have M:=f.st (k:=2) (v0:=A) rfl (AU.cells IG);have D:=f.HZ IG;have S:=(T.trans w1.C2).trans (Bf (bi:=bi) (G:=G) (h:=h1++t2) (k:=2) (v:=g));generalize put (h1++t2) bi 2 g=h2 at*;have j:=D.l3;obtain⟨fs,GK,hcs⟩:=hc;have Hu:fs.length=b.A6.length:=by rw[<-GK,Ao]
 obtain⟨d,O,y⟩:=f84 (h:=h2) hcs Ac;have L:=D.st (k:=3) (v0:=c) rfl (AU.cells y);have z:=D.KE (u:=d) (l:=Ge b.A6);have K:=S.trans (Bf (bi:=bi) (G:=G) (h:=h2) (k:=3) (v:=d));have NR:B1 (Ge b.A6) d:=⟨_,by rw[Xm,GK],y⟩;generalize put h2 bi 3 d=h3 at*;have lt:=AU.CN w.t;have l6:=z.l6;have e:b.Cy=BS.HS {b with AQ:=DN CY (Bw [AM]) (DN CK CY b.AQ),A6:=Ge b.A6,tm:=b.tm.dropLast}:=by unfold BS.Cy;rw[Ad F7]
 have sO:(DN CY (Bw [AM]) (DN CK CY b.AQ)).Sublist b.AQ:=(EC (p:=CY) (q:=Bw [AM]) (l:=DN CK CY b.AQ)).trans EC;by_cases h0:b.tm=[]
 .have C:RX h3 bi a g d t G {b with AQ:=DN CY (Bw [AM]) (DN CK CY b.AQ),A6:=Ge b.A6,tm:=b.tm.dropLast}:=by
   have:b.tm.dropLast=b.tm:=by rw[h0];rfl
   rw[this];exact z
  obtain⟨h4,Y,B,R⟩:=aAS C (rm.sub (b':={b with AQ:=DN CY (Bw [AM]) (DN CK CY b.AQ),A6:=Ge b.A6,tm:=b.tm.dropLast}) rfl sO (Dq _ _) AH);refine⟨h4,g,d,t,?_,by rw[e];exact B,by rw[e];exact NR,K.trans R⟩;have J:AD (.len false) [t]=some (I 0):=by rw[lt,h0];rfl
  rw[Ae,wT];simp only[BE,ld,H.Ab,F7,r2.Ab,N,qx,rG,P.Ab,M,j,O.Ab,L,l6,J,Y.Ab,Jr]
 .have hpos:=D7.2 h0;obtain⟨u4,e4,s⟩:=AU.ML w.t (k:= .i64) (n:=b.tm.length-1) Ac;rw[<-aF7] at s;obtain⟨V,e5,r⟩:=AU.FL (b:=8) s Ei;have W:=z.st (k:=6) (v0:=t) rfl (AU.cells r);have B:=z.mC r;obtain⟨h5,X,U,Q⟩:=aAS B (rm.sub (b':={b with AQ:=DN CY (Bw [AM]) (DN CK CY b.AQ),A6:=Ge b.A6,tm:=b.tm.dropLast}) rfl sO (Dq _ _) AH);refine⟨h5,g,d,V,?_,by rw[e];exact U,by rw[e];exact NR,(K.trans Bf).trans Q⟩;rw[Ae,wT];simp only[BE,ld,H.Ab,F7,r2.Ab,N,qx,rG,P.Ab,M,j,O.Ab,L,l6,lt,(Ac:(0:Int)<(b.tm.length:Int)),Iv hpos (Ac:b.tm.length<9223372036854775807),e4,e5,W,X.Ab,Jr]
def aOG(w:RX h bi a o c t G b)(hc:B1 b.A6 c)(ok:EB b)(rm:BM b (m+8*(4*(b.AQ.length+8)+10)))(hnm:Nm b.a)(nm:Aj):
  ∃h' o' c' G',BG cx 95 [Pt bi 0,.str nm] h (.tuple []) h'/\RX h' bi a o' c' t G' (b.Iy nm)/\B1 (b.Iy nm).A6 c'/\DC h (Bs bi G) h' (Bs bi G'):=by
 have ho:=rm.AQ;have Rx:=rm.A6;have ld:A7 h none (Pt bi 2)=some o:=w.ld 2;have A:=N_ w rm;have em:AD (.Dk 1) [.str nm]=some (.sl 1 ([nm].map Cu)):=Ea (ws:=[nm]) rfl AH;have r2:BG cx 218 [.agg (Fy b.AQ).row,.sl 1 ([nm].map Cu)] h (.bool (Bw [nm] (Fy b.AQ))) h:=f167 (Fy b.AQ) (C1 (ws:=[nm])) AH;have J:=hc.ix (n:=0) Ac (Fy b.AQ).node h;have D:b.Jt.A6=b.A6:=by unfold BS.Jt;split<;>rfl
 have l3:=w.l3;by_cases h1:Bw [nm] (Fy b.AQ)=true/\Fk (Fy b.AQ).node b.A6<0
 .obtain⟨u,N,O,hu⟩:=aAe (h:=h) w.o Ac;have E:J0 b.AQ ((b.AQ.length:Int)-1)=b.Jt.AQ:=by
   unfold BS.Jt;split;.unfold J0;rw[AF Ac]
   .unfold J0;congr 1;omega
  rw[E] at hu;have w1:=w.HQ (u:=N);have f:=w1.HZ hu;have e:b.Iy nm=b.Jt:=by unfold BS.Iy;rw[Af h1]
  have R:({b with AQ:=b.Jt.AQ}:BS)=b.Jt:=by unfold BS.Jt;split<;>rfl
  rw[R] at f;rw[e];refine⟨_,u,c,G,?_,f,by rw[D];exact hc,w.C2.trans Bf⟩;rw[h1.1] at r2;rw[Ae,yq];simp only[abS,E9,A.Ab,em,r2.Ab,l3,BK,J.Ab,h1.2,ld,O.Ab,w1.st (k:=2) (v0:=o) rfl (AU.cells hu)]
 have e:b.Iy nm=BS.Eg 8 b nm:=by unfold BS.Iy;rw[Ad h1]
 rw[e];have I9:Ev cx 95 [Pt bi 0,.str nm] h λr h'=>r= .tuple []/\∃o' c' G',RX h' bi a o' c' t G' (BS.Eg 8 b nm)/\B1 (BS.Eg 8 b nm).A6 c'/\DC h (Bs bi G) h' (Bs bi G'):=by
  unfold Ev;rw[yq];have HN:∀(Q:HO) (k:DU->List Aa->IT),(∀x vs h1,(x= .exit 0\/x= .ret)->(∃o' c' G',RX h1 bi a o' c' t G' (BS.Eg 8 b nm)/\B1 (BS.Eg 8 b nm).A6 c'/\DC h (Bs bi G) h1 (Bs bi G'))->W cx (k x vs) Q h1)->
    W cx (.loop 3 [I 1] (λd=> .op (.int .leq) [g d 0,I 8] λz=> .Gm z (.call 224 [Pt bi 0,.str nm] λy=> .op (.un .not) [y] λv20=> .Gm v20 (.ret .ret [g d 0]) (.op (.int .add) [g d 0,I 1] λv=> .ret .normal [v])) (.ret (.exit 0) [g d 0])) k) Q h:=by
   intro Q k hk;refine Bm (λn:Nat=>[I ((9 -n:Nat):Int)]) (λn h1=>n<=8/\∃B p q b1,RX h1 bi a B p t q b1/\B1 b1.A6 p/\EB b1/\Nm b1.a/\BM b1 (m+n*(4*(b.AQ.length+8)+10))/\b1.AQ.length<=b.AQ.length+(8 -n)/\BS.Eg 8 b nm=BS.Eg n b1 nm/\DC h (Bs bi G) h1 (Bs bi q)) (λn=>n) 8 rfl ⟨Ag _,o,c,G,b,w,hc,ok,hnm,rm,Ac,rfl,.refl⟩ ?_;rintro n h1 ⟨hn,B,p,q,b1,w1,SA,Wo,nm1,xH,WM,j,s⟩;cases n with
   |zero=>simp only[abS,(AP:¬((9 -0:Nat):Int)<=8)];exact hk _ _ _ (.inl rfl) ⟨B,p,q,by rw[j];exact w1,by rw[j];exact SA,s⟩
   |succ n=>
    have hsp:(n+1)*(4*(b.AQ.length+8)+10)=n*(4*(b.AQ.length+8)+10)+(4*(b.AQ.length+8)+10):=by rw[BI,D6]
    rw[hsp] at xH;have ot:BM b1 (m+n*(4*(b.AQ.length+8)+10)+4*b1.AQ.length+10):=xH.le Ac;obtain⟨h2,K,L,M,l,f,I7,H⟩:=aJK w1 SA Wo ot nm1 nm;obtain⟨VF,bU⟩:=Pc ot nm;have zw:=(YV (nm:=nm) Wo).1;have C:=Nm.round (nm:=nm) nm1 ot;have hlt:((9 -(n+1):Nat):Int)<=8:=Ac;have inc:AD (.int .add) [I ((9 -(n+1):Nat):Int),I 1]=some (I ((9 -n:Nat):Int)):=by have:=BN (n:=9 -(n+1)) Ac;rwa [(Ac:9 -(n+1)+1=9 -n)] at this
    have i:BS.Eg (n+1) b1 nm=if(b1.round nm).1 then BS.Eg n (b1.round nm).2 nm else(b1.round nm).2:=rfl
    cases hr:(b1.round nm).1 with
    |true=>rw[hr] at l i;simp only[abS,hlt,l.Ab,inc];exact AK.next n rfl ⟨Ac,K,L,M,_,f,I7,zw,C,VF,Ac,j.trans i,s.trans H⟩ Ac
    |false=>rw[hr] at l i;simp only[abS,hlt,l.Ab];exact hk _ _ _ (.inr rfl) ⟨K,L,M,by rw[j,i];exact f,by rw[j,i];exact I7,s.trans H⟩
  by_cases h2:Bw [nm] (Fy b.AQ)=true
  .have P:¬Fk (Fy b.AQ).node b.A6<0:=λh=>h1 ⟨h2,h⟩;rw[h2] at r2;simp only[abS,E9,A.Ab,em,r2.Ab,l3,BK,J.Ab,P];refine HN _ _ ?_;rintro x vs h1 (rfl|rfl) ⟨o',c',G',a1,a2,a3⟩;.simp only[BE];exact⟨_,rfl,rfl,o',c',G',a1,a2,a3⟩
   .simp only[BE];exact⟨_,rfl,rfl,o',c',G',a1,a2,a3⟩
  .have h2:Bw [nm] (Fy b.AQ)=false:=by simpa using h2
   rw[h2] at r2;simp only[BE,A.Ab,em,r2.Ab];refine HN _ _ ?_;rintro x vs h1 (rfl|rfl) ⟨o',c',G',a1,a2,a3⟩;.simp only[BE];exact⟨_,rfl,rfl,o',c',G',a1,a2,a3⟩
   .simp only[BE];exact⟨_,rfl,rfl,o',c',G',a1,a2,a3⟩
 obtain⟨r,h',hr,rfl,o',c',G',w',Kw,x'⟩:=I9.ret;exact⟨h',o',c',G',hr,w',Kw,x'⟩
end
def pq{h:Ai}{fs:List Ck}{v:Aa}(hv:Dt fs v)(hne:fs≠[])(hl:fs.length<=1000000000):K8 h 3 48 .slnil v=some (h++[.cells (fs.map Ck.row).flatten],.CE h.length 0 fs.length 3):=by have hm:AW=140737488355328:=rfl;have:=LN (h:=h) (s:= .slnil) (z:=3) (b:=48) (.inl rfl) hv (by simpa using hne) (by rw[Ao];omega);rwa [Ao] at this
def xR{h:Ai}{v:Aa}(hv:Dt [] v):K8 h 3 48 .slnil v=some (h,.slnil):=Qe (.inl rfl) hv
section
variable{h h':Ai}{bi a:Nat}{o c t:Aa}{G G' F:Nat->Prop}{b:BS}{x:Int}{m:Nat}
def aJQ(w:RX h bi a o c t G b)(rm:BM b m)(e:Ck):BG cx 217 [Pt bi 0,.agg e.row] h (.bool (b.settled e.c)) h:=by
 have ho:=rm.AQ;have ld:A7 h none (Pt bi 2)=some o:=w.ld 2;have d:=aM (h:=h) w.o Ac e.c.node;unfold BS.settled;rw[Ae,Ŏ,Ck.row];by_cases h0:e.c.node=0;.simp only[BE,AL h0,ld,d.Ab,true_or,Dw]
 .simp only[abS,h0,ld,d.Ab,false_or]
structure mN(h:Ai)(bi a:Nat)(t c:Aa)(G0:Nat->Prop)(b:BS)(fs:List Ck)(id m k:Nat)(h1:Ai):Prop where
 le:k<=fs.length
 low:b.LQ<=k
 ex:∃(o:Aa) (G:Nat->Prop) (b1:BS) (Ii:List Ck),RX h1 bi a o c t G b1/\EB b1/\Nm b1.a/\BM b1 (m+4*(fs.length-k))/\h1[id]?=some (.cells (Ii.map Ck.row).flatten)/\Ii.length=fs.length/\Ii.drop k=fs.drop k/\
  BS.DV b={(BS.JG (b.A6.drop k) b1).2 with A6:=(Ii.take k).map (·.c)++(BS.JG (b.A6.drop k) b1).1}/\¬Bs bi G id/\DC h (Bs bi G0) h1 (Bs bi G)
def mN.init(w:RX h bi a o c t G b)(ok:EB b)(hnm:Nm b.a)(rm:BM b (m+4*b.A6.length)){fs:List Ck}(GK:fs.map (·.c)=b.A6):
  mN h bi a t c G b fs h.length m b.LQ (h++[.cells (fs.map Ck.row).flatten]):=by
 have Hu:b.A6.length=fs.length:=by rw[<-GK,Ao]
 have hk:=TG (b:=b);have hne:h.length≠bi:=Nat.ne_of_gt w.lt;refine⟨Ac,Ag _,o,G,b,fs,w.HQ (u:=[.cells (fs.map Ck.row).flatten]),ok,hnm,rm.le Ac,?_,rfl,rfl,?_,?_,w.C2⟩;.simp
 .unfold BS.DV;simp only;rw[Gq,GK]
 .rintro(rfl|hg);.exact hne rfl
  .exact absurd (w.w.lt hg) (Dm _)
def mN.step{fs:List Ck}{id k:Nat}{h1:Ai}(GK:fs.map (·.c)=b.A6)(KX:∀e∈b.A6,e.name.length<=1000/\DO e.Av)(hi:h.length<=id)(hlt:k<fs.length)(i:mN h bi a t c G b fs id m k h1):
  ∃(h2:Ai) (n:Int),A7 h1 none (Pt id (k*3+1))=some (.str fs[k].c.name)/\A7 h1 none (Pt id (k*3+2))=some fs[k].v/\BG cx 86 [Pt bi 0,.agg [I 2,.str fs[k].c.name,ff,S [],ff,S [],ff,ff,fs[k].v,ff,S [],.int .i32 0]] h1 (I n) h2/\
   Cv h2 1 (Pt id (k*3)) (I n)=some (Am.put h2 id (k*3) (I n))/\mN h bi a t c G b fs id m (k+1) (Am.put h2 id (k*3) (I n)):=by
 obtain⟨y,z,b1,Ii,w1,Wo,nm1,xH,SA,WM,gE,oe,ND,f⟩:=i.ex;have So:k<Ii.length:=Ac;have Hu:b.A6.length=fs.length:=by rw[<-GK,Ao]
 have D_:k<b.A6.length:=Ac;have r:Ii[k]=fs[k]:=by have:=Cc (λl=>l[0]?) gE;simp only[Cr,Bt] at this;rw[Ap So,Ap hlt] at this;exact D4 this
 have q:b.A6[k]=fs[k].c:=by simp only[<-GK,C0]
 have hg:(Ii.map Ck.row)[k]?=some fs[k].row:=by rw[Cn,Ap So,r];rfl
 have ld:∀j,j<3->A7 h1 none (Pt id (k*3+j))=fs[k].row[j]?:=λj hj=>by simp only[A7,SA,E8];exact LS (O1 Ii) hj hg
 have KX:=KX fs[k].c (by rw[<-q];exact AN D_);have hr:Oq fs[k].c.name fs[k].v [I 2,.str fs[k].c.name,ff,S [],ff,S [],ff,ff,fs[k].v,ff,S [],.int .i32 0]:=⟨I 2,ff,S [],ff,S [],ff,ff,ff,S [],.int .i32 0,rfl⟩;obtain⟨h2,w,s,r2,u,d⟩:=pd (m:=m+4*(fs.length-(k+1))) w1 Wo.ba (xH.le Ac) nm1 hr fs[k].ok KX.2 KX.1;have ka:id<h1.length:=(An.1 SA).1;have I7:h2[id]?=some (.cells (Ii.map Ck.row).flatten):=by rw[d.old id ka ND];exact SA
 have TY:¬Bs bi s id:=λhg=>by
  rcases d.Bs id hg with hg|hg
  .exact ND hg
  .omega
 have p:At h2 id (k*3) (I fs[k].c.node):=⟨_,I7,by have:=LS (k:=0) (O1 Ii) AP hg;rw[Bt] at this;rw[this];rfl⟩
 let g:Ck:=⟨{fs[k].c with node:=b1.a.len+1},fs[k].v,fs[k].ok⟩
 have hrow:(Ii.map Ck.row).flatten.set (k*3) (I (b1.a.len+1))=((Ii.set k g).map Ck.row).flatten:=by have:=Oo (AE:=Ii.map Ck.row) (i:=k) (k:=0) (v:= I (b1.a.len+1)) (O1 Ii) (by simpa using So) AP;rw[Bt] at this;rw[Et,B0,Af (by rw[FY (O1 Ii),Ao];omega)];rw[AI] at this;rw[show g.row=((Ii.map Ck.row)[k]'(by simpa using So)).set 0 (I (b1.a.len+1)) by rw[C0,r];rfl];exact this
 refine⟨h2,b1.a.len+1,ld 1 AP,ld 2 AP,r2,p.store rfl,⟨hlt,by have:=i.low;omega,w,s,_,Ii.set k g,u.Dl λj hj=>Cm λe=>TY (e▸hj),Qq Wo,nm1.Na KX.1,Ih (m:=m+4*(fs.length-(k+1))) (xH.le Ac) KX.2 KX.1,?_,by rw[Bq];exact WM,?_,?_,TY,⟨by rw[JN];exact(f.trans d).len,λj hj hn=>(Cm Ac).trans ((f.trans d).old j hj hn),(f.trans d).Bs⟩⟩⟩;.rw[Iw I7,AO (by have:=d.len;omega),hrow]
 .rw[aT (NQ k)];have:=Cc (λl=>l.drop 1) gE;simpa[Em] using this
 .rw[oe,AG D_,q,BS.JG];simp only
  congr 1
  rw[AB (by rw[Bq];exact So),aF8,Bu,Pu (Ag k),AI];rfl
def aOH(w:RX h bi a o c t G b)(hc:B1 b.A6 c)(ok:EB b)(rm:BM b (m+4*b.A6.length))(hnm:Nm b.a):
  ∃h' o' c' G',BG cx 93 [Pt bi 0] h (.tuple []) h'/\RX h' bi a o' c' t G' b.DV/\B1 b.DV.A6 c'/\DC h (Bs bi G) h' (Bs bi G'):=by
 have ho:=rm.AQ;have Rx:=rm.A6;obtain⟨fs,GK,hcs⟩:=hc;have Hu:b.A6.length=fs.length:=by rw[<-GK,Ao]
 have I9:Ev cx 93 [Pt bi 0] h λr h'=>r= .tuple []/\∃o' c' G',RX h' bi a o' c' t G' b.DV/\B1 b.DV.A6 c'/\DC h (Bs bi G) h' (Bs bi G'):=by
  unfold Ev;have l3:=w.l3;have lc:=AU.CN hcs;rw[aEc];simp only[BE,l3,lc];refine DK (i:=0) (λn:Nat=>[I (n:Int)]) (λn h1=>n<=fs.length/\AV b.settled b.A6=AV b.settled (b.A6.take n)/\h1=h) (λn=>n) (λn h1=>n=b.LQ/\h1=h) fs.length rfl ⟨Ag _,by rw[<-Hu,Bx],rfl⟩ ?_ ?_
  .rintro n h1 ⟨hn,ha,rfl⟩;cases n with
   |zero=>simp only[abS,(AP:¬(0:Int)<((0:Nat):Int))];refine .HN 0 rfl ⟨?_,rfl⟩;unfold BS.LQ;rw[ha];rfl
   |succ n=>
    have hlt:n<b.A6.length:=Ac;have Tz:n<fs.length:=Ac;rw[Hb hlt] at ha;have i1:=Iv (n:=n+1) (Ac:0<n+1) (Ac:n+1<9223372036854775807);rw[Fb] at i1;have d:=AU.BL (k:= .i64) hcs Tz;have en:fs[n].c=b.A6[n]:=by simp only[<-GK,C0]
    have z:=aJQ w rm fs[n];rw[en] at z;have nE:fs[n].row.length=3:=rfl;have q:fs[n].row.take 3=fs[n].row:=rfl;simp only[abS,↓reduceIte,(Ac:(0:Int)<((n+1:Nat):Int)),l3,i1,d,nE,q,Ag,z.Ab];cases hs:b.settled b.A6[n] with
    |true=>rw[hs,Af rfl] at ha;simp only[abS];exact .HN (n+1) rfl ⟨by unfold BS.LQ;rw[ha];omega,rfl⟩
    |false=>rw[hs,Ad AP] at ha;simp only[abS];exact .next n rfl ⟨Ac,ha,rfl⟩ Ac
  .rintro n h1 ⟨rfl,M⟩;rw[M];by_cases hne:fs=[]
   .subst hne;have ha:b.A6=[]:=GK.symm;have L:b.LQ=0:=by have:=TG (b:=b);rw[ha] at this;exact Nat.le_zero.1 this
    have hb:b.DV=b:=by unfold BS.DV;rw[ha];simp only[aA9,BS.JG,aBa,BT];rw[<-ha]
    have g0:=xR (h:=h) hcs;have f:=w.st (k:=3) (v:= .slnil) (v0:=c) rfl rfl;have w1:RX (put h bi 3 .slnil) bi a o .slnil t G b:=w.KE (l:=b.A6);have d:=Qt w1.sQ (gh (l:=[]) (.inr ⟨rfl,rfl⟩)) rfl;have hz:(b.LQ:Int)=((0:Nat):Int):=by rw[L]
    simp only[BE,↓reduceIte,l3,g0];refine DK (i:=2) (λn:Nat=>[I (n:Int)]) (λn h1=>n=0/\h1=h) (λn=>n) (λn h1=>n=0/\h1=h) 0 (by rw[hz]) ⟨rfl,rfl⟩ ?_ ?_;.rintro n h1 ⟨rfl,rfl⟩;simp only[BE,Nat.reduceLeDiff,↓reduceIte,AT,ZP,show AD (.len false) [.slnil]=some (I 0) from rfl,(AP:¬((0:Nat):Int)<0)];exact .HN 0 rfl ⟨rfl,rfl⟩
    .rintro n h1 ⟨rfl,rfl⟩;simp only[BE,↓reduceIte,f,d];refine⟨_,rfl,rfl,o,.slnil,G,?_,⟨[],by rw[hb,ha];rfl,.inr ⟨rfl,rfl⟩⟩,Bf.trans Bf⟩;rw[hb];exact w1.KE (l:=b.A6)
   .have i0:=mN.init (m:=m) w ok hnm rm GK;have g1:=pq (h:=h) hcs hne Ac;have B:AD (.len false) [.CE h.length 0 fs.length 3]=some (I (fs.length:Int)):=rfl;simp only[BE,↓reduceIte,l3,g1];refine DK (i:=2) (λn:Nat=>[I (n:Int)]) (λk h1=>mN h bi a t c G b fs h.length m k h1) (λk=>fs.length-k) (λk h1=>k=fs.length/\mN h bi a t c G b fs h.length m k h1) b.LQ rfl i0 ?_ ?_
    .intro k h1 i;have Er:=i.le;rcases AR k fs.length with hlt|Eh
     .obtain⟨h2,n,f,K,J,H,E⟩:=mN.step GK rm.DB (Ag _) hlt i;have d:AD (.Ff 3) [.CE h.length 0 fs.length 3,I (k:Int)]=some (Pt h.length (k*3)):=E1 hlt;have oh:fs[k].v.cells=[fs[k].v]:=AU.cells fs[k].ok;simp only[abS,Nat.reduceLeDiff,↓reduceIte,AT,B,(Ac:(k:Int)<(fs.length:Int)),d,f,K,oh,J.Ab,H,BN (Ac:k<9223372036854775807)];exact .next (k+1) rfl E Ac
     .simp only[abS,Nat.reduceLeDiff,↓reduceIte,AT,B,(Ac:¬(k:Int)<(fs.length:Int))];exact .HN k rfl ⟨Ac,i⟩
    .rintro k h1 ⟨rfl,i⟩;obtain⟨A,s,b1,Ii,w1,Wo,nm1,xH,SA,WM,gE,oe,ND,C⟩:=i.ex;have g:h.length≠bi:=λe=>ND (.inl e);have f:=w1.st (k:=3) (v:= .CE h.length 0 fs.length 3) (v0:=c) rfl rfl;have y:=w1.KE (u:= .CE h.length 0 fs.length 3) (l:=b1.A6);have I7:(put h1 bi 3 (.CE h.length 0 fs.length 3))[h.length]?=_:=(Cm g).trans SA;have hf:=Ke (O1 Ii) I7;rw[Ao,WM] at hf;have d:=Qt y.sQ hf (by rw[As g]);have D:RX ((put h1 bi 3 (.CE h.length 0 fs.length 3)).set h.length .CR) bi a A _ t s {b1 with A6:=b1.A6}:=y.Dl λj hj=>As λe=>ND (by rw[e];exact hj);simp only[BE,↓reduceIte,f,d];have hb:b.DV={b1 with A6:=Ii.map (·.c)}:=by rw[oe,AZ Ac,AF Ac];simp only[BS.JG,By]
     refine⟨_,rfl,rfl,A,_,s,by rw[hb];exact D.KE,⟨Ii,by rw[hb],.mk⟩,?_⟩;have p:=C.trans (Bf (bi:=bi) (G:=s) (k:=3) (v:= .CE h.length 0 fs.length 3));refine DC.trans ⟨by rw[Bq];exact p.len,λj hj hn=>?_,p.Bs⟩ Bf;rw[As Ac];exact p.old j hj hn
 obtain⟨r,h',hr,rfl,o',c',G',w',Kw,x'⟩:=I9.ret;exact⟨h',o',c',G',hr,w',Kw,x'⟩
end
section
variable{h h':Ai}{bi a:Nat}{o c t:Aa}{G G' F:Nat->Prop}{b:BS}{x:Int}{m j:Nat}{q:rP}
variable{nm:Aj}{av:Aa}{l:List A5}{r:List Aa}{sp p:Int}
def aOI(w:RX h bi a o c t G b)(hc:B1 b.A6 c)(ok:EB b)(sz:Sz b (j+1))(hnm:Nm b.a)(hq:ou q)(hv:Bi q.Av av):
  ∃h' o' c' t' G',BG cx 25 [Pt bi 0,.agg (Ma q av)] h (.agg (Zl b q).2.row) h'/\RX h' bi a o' c' t' G' (Zl b q).1/\B1 (Zl b q).1.A6 c'/\DC h (Bs bi G) h' (Bs bi G'):=by
 unfold Zl Ma;by_cases d:q.k=1;.rw[Af d];dsimp only;obtain⟨r,dG,D,hr,DH⟩:=Wt (q:=q) hv hq.Av.1 h;rw[Ma] at D;obtain⟨h',o',G',r2,w',x'⟩:=pd (m:=5000000*j) w ok sz.Zp hnm hr DH hq.Av hq.name;refine⟨h',o',c,t,G',?_,w',by rw[D3];exact hc,x'⟩;rw[Ae,FN];simp only[abS,Nat.reduceLeDiff,↓reduceIte,AT,AL d,D.Ab,r2.Ab];try rfl
 rw[Ad d];by_cases f:q.k=2;.rw[Af f];dsimp only;obtain⟨r,dG,D,hr,DH⟩:=Wt (q:=q) hv hq.Av.1 h;rw[Ma] at D;obtain⟨h',o',G',r2,w',x'⟩:=aJy (m:=5000000*j) w ok sz.Zp hnm hr DH hq.Av hq.name q.Bb;refine⟨h',o',c,t,G',?_,w',by rw[D3];exact hc,x'⟩;rw[Ae,FN];simp only[abS,Nat.reduceLeDiff,↓reduceIte,AT,d,AL f,D.Ab,r2.Ab];try rfl
 rw[Ad f];by_cases g:q.k=3;.rw[Af g];dsimp only;obtain⟨r,dG,D,hr,DH⟩:=Wt (q:=q) hv hq.Av.1 h;rw[Ma] at D;obtain⟨h',o',c',G',r2,w',Kw,x'⟩:=aOD (m:=5000000*j) w hc ok sz.Zp hnm hr DH hq.Av hq.name;refine⟨h',o',c',t,G',?_,w',Kw,x'⟩;rw[Ae,FN];simp only[abS,Nat.reduceLeDiff,↓reduceIte,AT,d,f,AL g,D.Ab,r2.Ab];try rfl
 rw[Ad g];by_cases i:q.k=4;.rw[Af i];dsimp only;obtain⟨h',G',r2,w',x'⟩:=aJE (m:=5000000*j) w ok sz.Zp hnm q.r;refine⟨h',o,c,t,G',?_,w',hc,x'⟩;rw[Ae,FN];simp only[abS,↓reduceIte,AT,d,f,g,AL i,r2.Ab];try rfl
 rw[Ad i];by_cases y:q.k=5;.rw[Af y];dsimp only;obtain⟨h',G',r2,w',x'⟩:=aJF (m:=5000000*j) w ok sz.Zp hnm q.s (by have:=hq.s;omega) q.a;refine⟨h',o,c,t,G',?_,w',hc,x'⟩;rw[Ae,FN];simp only[abS,↓reduceIte,AT,d,f,g,i,AL y,r2.Ab];try rfl
 rw[Ad y];by_cases z:q.k=6;.rw[Af z];dsimp only;obtain⟨r,dG,D,hr,DH⟩:=Wt (q:=q) hv hq.Av.1 h;rw[Ma] at D;obtain⟨h',o',G',r2,w',x'⟩:=aJA (m:=5000000*j) w ok sz.Zp hnm hr DH hq.Av hq.name q.n;refine⟨h',o',c,t,G',?_,w',by show B1 (b.Ej q.name q.Av 1).A6 c;rw[D3];exact hc,x'⟩;rw[Ae,FN];simp only[abS,↓reduceIte,AT,d,f,g,i,y,AL z,D.Ab,r2.Ab];try rfl
 rw[Ad z];by_cases A:q.k=7;.rw[Af A];dsimp only;obtain⟨h',o',r2,w',x'⟩:=aOB w sz.rm;refine⟨h',o',c,t,G,?_,w',by have e:b.J3.A6=b.A6:=(by unfold BS.J3;split<;>rfl);rw[e];exact hc,x'⟩;rw[Ae,FN];simp only[abS,↓reduceIte,AT,d,f,g,i,y,z,AL A,r2.Ab];try rfl
 rw[Ad A];by_cases B:q.k=8;.rw[Af B];dsimp only;obtain⟨h',o',c',G',r2,w',Kw,x'⟩:=aOH (m:=5000000*j) w hc ok (sz.rm.le (by have:=sz.A6;omega)) hnm;refine⟨h',o',c',t,G',?_,w',Kw,x'⟩;rw[Ae,FN];simp only[abS,↓reduceIte,AT,d,f,g,i,y,z,A,AL B,r2.Ab];try rfl
 rw[Ad B];by_cases C:q.k=9;.rw[Af C];dsimp only;obtain⟨h',o',r2,w',x'⟩:=aJB w sz.rm q.name;refine⟨h',o',c,t,G,?_,w',by have e:(b.Du q.name).A6=b.A6:=(by unfold BS.Du;split;split<;>rfl;rfl);rw[e];exact hc,x'⟩;rw[Ae,FN];simp only[abS,↓reduceIte,AT,d,f,g,i,y,z,A,B,AL C,r2.Ab];try rfl
 rw[Ad C];by_cases KG:q.k=10;.rw[Af KG];dsimp only;obtain⟨h',o',c',G',r2,w',Kw,x'⟩:=aOG (m:=5000000*j) w hc ok (sz.rm.le (by have:=sz.AQ;omega)) hnm q.name;refine⟨h',o',c',t,G',?_,w',Kw,x'⟩;rw[Ae,FN];simp only[abS,↓reduceIte,AT,d,f,g,i,y,z,A,B,C,AL KG,r2.Ab];try rfl
 rw[Ad KG];by_cases NT:q.k=11;.rw[Af NT];dsimp only;obtain⟨h',r2,w',x'⟩:=aAS w sz.rm;refine⟨h',o,c,t,G,?_,w',hc,x'⟩;rw[Ae,FN];simp only[abS,↓reduceIte,AT,d,f,g,i,y,z,A,B,C,KG,AL NT,r2.Ab];try rfl
 rw[Ad NT];by_cases OD:q.k=12;.rw[Af OD];dsimp only;obtain⟨r,dG,D,hr,DH⟩:=Wt (q:=q) hv hq.Av.1 h;rw[Ma] at D;obtain⟨h',G',r2,w',x'⟩:=aJz (m:=5000000*j) w ok sz.Zp hr DH hq.Av q.a;refine⟨h',o,c,t,G',?_,w',by have e:(b.EL q.Av q.a).A6=b.A6:=(by unfold BS.EL;split<;>rfl);rw[e];exact hc,x'⟩;rw[Ae,FN];simp only[abS,↓reduceIte,AT,d,f,g,i,y,z,A,B,C,KG,NT,AL OD,D.Ab,r2.Ab];try rfl
 rw[Ad OD];by_cases NN:q.k=13;.rw[Af NN];dsimp only;obtain⟨h',o',c',t',r2,w',Kw,x'⟩:=aJP w hc sz.rm;refine⟨h',o',c',t',G,?_,w',Kw,x'⟩;rw[Ae,FN];simp only[abS,↓reduceIte,AT,d,f,g,i,y,z,A,B,C,KG,NT,OD,AL NN,r2.Ab];try rfl
 rw[Ad NN];by_cases PI:q.k=14;.rw[Af PI];dsimp only;obtain⟨h',r2,w',x'⟩:=aOA w;refine⟨h',o,c,t,G,?_,w',hc,x'⟩;rw[Ae,FN];simp only[abS,↓reduceIte,AT,d,f,g,i,y,z,A,B,C,KG,NT,OD,NN,AL PI,r2.Ab];try rfl
 rw[Ad PI];by_cases Sp:q.k=15;.rw[Af Sp];dsimp only;have w':RX (put h bi 15 (.bool q.b)) bi a o c t G {b with EX:=q.b}:=w.put rfl rfl w.o w.t;refine⟨put h bi 15 (.bool q.b),o,c,t,G,?_,w',hc,Bf⟩;rw[Ae,FN];simp only[abS,↓reduceIte,AT,d,f,g,i,y,z,A,B,C,KG,NT,OD,NN,PI,AL Sp,w.st (k:=15) (v:= .bool q.b) rfl rfl];try rfl
 rw[Ad Sp];by_cases TK:q.k=16;.rw[Af TK];dsimp only;have L:=sz.rm.tm;have bX:AW=140737488355328:=rfl;obtain⟨u,N,hu⟩:=AU.FL (b:=8) w.t Ac;have M:=AU.JD (b:=8) (a:=q.n) hu Ac;have em:AD (.Dk 1) [I q.n]=some (.sl 1 [B8 q.n]):=rfl;have IG:DX (b.tm++[q.n]) (.sl 1 ((b.tm++[q.n]).map B8)):= .mk;have w':=w.mC IG;refine⟨put h bi 6 (.sl 1 ((b.tm++[q.n]).map B8)),o,c,_,G,?_,w',hc,Bf⟩;rw[Ae,FN];simp only[abS,↓reduceIte,AT,d,f,g,i,y,z,A,B,C,KG,NT,OD,NN,PI,Sp,AL TK,w.l6,N,em,M,w.st (k:=6) (v0:=t) rfl (AU.cells IG)];try rfl
 rw[Ad TK];by_cases UH:q.k=17
 .rw[Af UH];dsimp only;have Rx:=sz.rm.A6;obtain⟨u,r2,Kw,J⟩:=hc.wi Ac (e:=Cb.zero) (v:= .slnil) (.inr ⟨rfl,rfl⟩) AP (b.A6.length:Int) h;rw[VK (Ag _),Bx,Eu] at Kw;have w':=w.KE (u:=u) (l:=b.A6++[Cb.zero]);have lc:AD (.len false) [c]=some (I (b.A6.length:Int)):=by obtain⟨fs,GK,Ud⟩:=hc;rw[AU.CN Ud,<-GK,Ao]
  have H:BG cx 100 [c,.agg [I 0,S [],.slnil],I (b.A6.length:Int)] h u h:=r2;refine⟨put h bi 3 u,o,u,t,G,?_,w',Kw,Bf⟩;rw[Ae,FN];simp only[abS,↓reduceIte,AT,d,f,g,i,y,z,A,B,C,KG,NT,OD,NN,PI,Sp,TK,AL UH,w.l3,lc,H.Ab,w.st (k:=3) (v0:=c) rfl J];try rfl
 rw[Ad UH];by_cases Wu:q.k=18;.rw[Af Wu];dsimp only;obtain⟨h',o',r2,w',x'⟩:=aOC w sz.rm;refine⟨h',o',c,t,G,?_,w',by have e:b.Jt.A6=b.A6:=(by unfold BS.Jt;split<;>rfl);rw[e];exact hc,x'⟩;rw[Ae,FN];simp only[abS,↓reduceIte,AT,E9,d,f,g,i,y,z,A,B,C,KG,NT,OD,NN,PI,Sp,TK,UH,AL Wu,r2.Ab];try rfl
 rw[Ad Wu];by_cases Zq:q.k=19;.rw[Af Zq];dsimp only;have w':RX (put h bi 7 (I q.a)) bi a o c t G {b with head:=q.a}:=w.put rfl rfl w.o w.t;refine⟨put h bi 7 (I q.a),o,c,t,G,?_,w',hc,Bf⟩;rw[Ae,FN];simp only[abS,↓reduceIte,AT,d,f,g,i,y,z,A,B,C,KG,NT,OD,NN,PI,Sp,TK,UH,Wu,AL Zq,w.st (k:=7) (v:= I q.a) rfl rfl];try rfl
 rw[Ad Zq];by_cases aP:q.k=20;.rw[Af aP];dsimp only;have w':=w.rF q.n;refine⟨put h bi 4 (I q.n),o,c,t,G,?_,w',hc,Bf⟩;rw[Ae,FN];simp only[abS,↓reduceIte,AT,d,f,g,i,y,z,A,B,C,KG,NT,OD,NN,PI,Sp,TK,UH,Wu,Zq,AL aP,w.st (k:=4) (v:= I q.n) rfl rfl];try rfl
 rw[Ad aP];by_cases mI:q.k=21;.rw[Af mI];dsimp only;have Rx:=sz.rm.A6;obtain⟨fs,GK,Ud⟩:=hc;obtain⟨u,r2,hu⟩:=f84 (h:=h) Ud (by rw[<-GK,Ao] at Rx;omega);have w':=w.KE (u:=u) (l:=Ge b.A6);have Kw:B1 (Ge b.A6) u:=⟨_,by rw[Xm,GK],hu⟩;refine⟨put h bi 3 u,o,u,t,G,?_,w',Kw,Bf⟩;rw[Ae,FN];simp only[abS,↓reduceIte,AT,d,f,g,i,y,z,A,B,C,KG,NT,OD,NN,PI,Sp,TK,UH,Wu,Zq,aP,AL mI,w.l3,r2.Ab,w.st (k:=3) (v0:=c) rfl (AU.cells hu)];try rfl
 rw[Ad mI];by_cases oz:q.k=22;.rw[Af oz];dsimp only;have ho:=sz.rm.AQ;have ld:A7 h none (Pt bi 2)=some o:=w.ld 2;have em:AD (.Dk 1) [.str q.name]=some (.sl 1 ([q.name].map Cu)):=Ea (ws:=[q.name]) rfl AH;obtain⟨u,K,r2,hu⟩:=f85 (h:=h) w.o Ac (C1 (ws:=[q.name])) AH;rw[<-O0] at hu;have w1:=w.HQ (u:=K);have w':=w1.HZ hu;refine⟨put (h++K) bi 2 u,u,c,t,G,?_,w',hc,w.C2.trans Bf⟩;rw[Ae,FN];simp only[abS,↓reduceIte,AT,d,f,g,i,y,z,A,B,C,KG,NT,OD,NN,PI,Sp,TK,UH,Wu,Zq,aP,mI,AL oz,ld,em,r2.Ab,w1.st (k:=2) (v0:=o) rfl (AU.cells hu)];try rfl
 rw[Ad oz];by_cases G_:q.k=23;.rw[Af G_];dsimp only;have w':RX (put h bi 8 (I q.a)) bi a o c t G {b with NH:=q.a}:=w.put rfl rfl w.o w.t;refine⟨put h bi 8 (I q.a),o,c,t,G,?_,w',hc,Bf⟩;rw[Ae,FN];simp only[abS,↓reduceIte,AT,d,f,g,i,y,z,A,B,C,KG,NT,OD,NN,PI,Sp,TK,UH,Wu,Zq,aP,mI,oz,AL G_,w.st (k:=8) (v:= I q.a) rfl rfl];try rfl
 rw[Ad G_];by_cases E:q.k=24;.rw[Af E];dsimp only;obtain⟨r,dG,D,hr,DH⟩:=Wt (q:=q) hv hq.Av.1 h;rw[Ma] at D;obtain⟨h',G',r2,w',x'⟩:=aAN (m:=5000000*j) w ok sz.Zp hnm hr DH hq.Av hq.name q.a q.Bb;refine⟨h',o,c,t,G',?_,w',by have e:(b.El q.name q.Av q.Bb q.a).A6=b.A6:=(by unfold BS.El;split<;>rfl);rw[e];exact hc,x'⟩;rw[Ae,FN];simp only[abS,↓reduceIte,AT,E9,d,f,g,i,y,z,A,B,C,KG,NT,OD,NN,PI,Sp,TK,UH,Wu,Zq,aP,mI,oz,G_,AL E,D.Ab,r2.Ab];try rfl
 rw[Ad E];refine⟨h,o,c,t,G,?_,w,hc,.refl⟩;rw[Ae,FN];simp only[abS,↓reduceIte,AT,d,f,g,i,y,z,A,B,C,KG,NT,OD,NN,PI,Sp,TK,UH,Wu,Zq,aP,mI,oz,G_,E];try rfl
end
section
variable{h h':Ai}{bi a:Nat}{o c t:Aa}{G G' F:Nat->Prop}{b:BS}{x:Int}{m j:Nat}{q:rP}
variable{nm:Aj}{av:Aa}{l:List A5}{r:List Aa}{sp p:Int}
def xS(h:Ai):WK h []=some (h++[.CR,.cells RN.z.row,.cells [I 0],.cells [.CE (h.length+1) 0 1 13,.CE (h.length+2) 0 1 1]],.ptr (some (h.length+3,0))):=by unfold WK;simp only[AI,Cs,BT];rfl
def aOJ(h:Ai):BG cx 61 [] h (.ptr (some (h.length+3,0))) (h++[.CR,.cells RN.z.row,.cells [I 0],.cells [.CE (h.length+1) 0 1 13,.CE (h.length+2) 0 1 1]]):=by have d:Ep (.RJ WK) h []=some (h++[.CR,.cells RN.z.row,.cells [I 0],.cells [.CE (h.length+1) 0 1 13,.CE (h.length+2) 0 1 1]],.ptr (some (h.length+3,0))):=xS h;rw[Ae,show Ca cx 61 []=WL [] from rfl,WL];simp only[BE,d]
def aAT(h:Ai):RA (h++[.CR,.cells RN.z.row,.cells [I 0],.cells [.CE (h.length+1) 0 1 13,.CE (h.length+2) 0 1 1]]) (h.length+3) (h.length+1) (h.length+2) [] ⟨[],[]⟩:=by
 refine⟨rfl,rfl,?_,?_,?_,Ac,Ac,Ac⟩;.rw[Bk Ac,(Ac:h.length+3 -h.length=3)];rfl
 .rw[Bk Ac,(Ac:h.length+1 -h.length=1)];rfl
 .rw[Bk Ac,(Ac:h.length+2 -h.length=2)];rfl
def aJR(h:Ai)(q:Bool):∃h1 h2 h' a bi G,BG cx 61 [] h (Pt a 0) h1/\BG cx 62 [Pt a 0,.bool q] h1 (I 1) h2/\BG cx 64 [Pt a 0,I 1] h2 (Pt bi 0) h'/\RX h' bi a .slnil .slnil .slnil G (DA q)/\DC h (λ_=>False) h' (Bs bi G):=by
 obtain⟨h2,f,g,wZ,r2,d,e⟩:=aJp (aAT h) (by show(0:Int)<=1000000000;decide) q;have d:RA h2 (h.length+3) f g wZ (qv q):=d;have hx:(qv q).has 1:=⟨GI 1,GI 1⟩;have hk:((qv q).nd 1).kind=1:=by rw[show(qv q).nd 1=(DA q).a.nd 1 from rfl,Pe,Af rfl]
 have i:=gu d hx hk;have Er:h.length+4<=h2.length:=by have:=e.len;simpa using this
 refine⟨_,h2,h2++[.cells (Ju (h.length+3) (DA q) .slnil .slnil .slnil)],h.length+3,h2.length,JJ (h.length+3) f g,aOJ h,r2,?_,⟨AH,.inr ⟨rfl,rfl⟩,.inr ⟨rfl,rfl⟩,⟨f,g,wZ,d.Dl λj hj=>Ak (d.lt hj),rfl⟩,λhj=>absurd (d.lt hj) (Dm _)⟩,⟨?_,λj hj _=>?_,λj hj=> .inr ?_⟩⟩;.rw[Ae,aD6];simp only[abS,Nat.reduceLeDiff,↓reduceIte,AT,i.Ab,B7];rfl
 .simp;omega
 .rw[Ak Ac,e.old j Ei (by unfold JJ;omega),Ak hj]
 .rcases hj with rfl|hj
  .omega
  .rcases e.Bs j hj with hj|hj
   .unfold JJ at hj;omega
   .simp at hj;omega
def RX.I_(w:RX h bi a o c t G b)(i:Item):∃h',Cv h 4 (Pt bi 10) (.agg i.row)=some h'/\RX h' bi a o c t G {b with ctx:=i}/\DC h (Bs bi G) h' (Bs bi G):=by refine⟨h.set bi (.cells (Ju a {b with ctx:=i} o c t)),?_,⟨AO w.lt,w.o,w.t,w.w.Dl λj hj=>As λe=>w.nb (by rw[e];exact hj),w.nb⟩,⟨by rw[Bq];exact Ag _,λj _ hn=>As λe=>hn (.inl e.symm),λ_ h=> .inl h⟩⟩;simp only[Cv,w.hb];rfl
def aOK(h:Ai)(sp:Int)(nm:Aj)(hv:Bi l av)(hl:DO l)(hn:nm.length<=1000)(q f q':Bool):∃h1 h2 h' a bi o t G,BG cx 61 [] h (Pt a 0) h1/\BG cx 62 [Pt a 0,.bool q] h1 (I 1) h2/\BG cx 63 [Pt a 0,I 1,.agg [I sp,.str nm,av,.bool q',.bool f]] h2 (Pt bi 0) h'/\RX h' bi a o .slnil t G (UI sp nm l q f)/\DC h (λ_=>False) h' (Bs bi G):=by
 obtain⟨h1,h2,h3,a,bi,G,r1,r2,H,w,x⟩:=aJR h q;have ok0:=Pd q;have PD:(DA q).a.has 1:=⟨GI 1,GI 1⟩;have ZU:((DA q).a.nd 1).kind=1:=by rw[Pe,Af rfl]
 have W:(DA q).IV 1=1:=by unfold BS.IV;rw[Pe,Af rfl];rfl
 have L:(DA q).El DI [] 1 1={DA q with a:=(DA q).a.elem 1 1 DI []}:=by unfold BS.El;rw[Af J9,W];rfl
 have M:(DA q).GG DI [] 1=⟨2,1,DI,false⟩:=by unfold BS.GG;rw[Af J9];rfl
 obtain⟨h4,G4,E,w4,x4⟩:=w.step (A':=(DA q).a.elem 1 1 DI []) (R:=λh'=>BG cx 165 [Pt a 0,I 1,I 1,.str DI,.slnil] h3 (.tuple [I ((DA q).a.len+1),I 0]) h') (λn i ps wa=>aCm (l:=[]) wa (by show(1:Int)+3<=1000000000;decide) PD ZU J9 (.inr ⟨rfl,rfl⟩) AP (λy hy=>(nomatch hy)));rw[<-L] at w4;obtain⟨qt,f4,le4⟩:=Qp (nm:=DI) (at_:=[]) (p:=1) (Pd q) J9;have V:=Jf (m:=1000) (nm:=DI) (l:=[]) (sp:=1) (p:=1) ((Pf q).rm.le Ac) ⟨AP,λa ha=>(nomatch ha)⟩;obtain⟨O,g,B,w5,x5⟩:=gy w4 qt.ba V 1 ((DA q).GG DI [] 1).node 0;have ho:((DA q).El DI [] 1 1).AQ=[]:=by rw[L];rfl
 have K:BZ (((DA q).El DI [] 1 1).AQ++[(DA q).GG DI [] 1]) (.sl 4 [((DA q).GG DI [] 1).row]):=by rw[ho];exact .mk
 have z:=w5.st (k:=2) (v:= .sl 4 [((DA q).GG DI [] 1).row]) (v0:= .slnil) rfl rfl;have T:=w5.HZ K;have u:Cv (put O bi 2 (.sl 4 [((DA q).GG DI [] 1).row])) 1 (Pt bi 9) tt=some (put (put O bi 2 (.sl 4 [((DA q).GG DI [] 1).row])) bi 9 tt):=T.st (k:=9) (v:=tt) (v0:= .bool ((DA q).El DI [] 1 1).Mo) rfl rfl;have w7:RX (put (put O bi 2 (.sl 4 [((DA q).GG DI [] 1).row])) bi 9 tt) bi a _ .slnil .slnil g _:=T.put (k:=9) (v:=tt) (b':={{{(DA q).El DI [] 1 1 with a:=((DA q).El DI [] 1 1).a.Es ((DA q).GG DI [] 1).node 1 0} with AQ:=((DA q).El DI [] 1 1).AQ++[(DA q).GG DI [] 1]} with Mo:=true}) rfl rfl K T.t;have x7:DC h (λ_=>False) (put (put O bi 2 (.sl 4 [((DA q).GG DI [] 1).row])) bi 9 tt) (Bs bi g):=((((x.trans x4).trans x5).trans Bf).trans Bf);have Zg:((DA q).GG DI [] 1).node=(DA q).a.len+1:=by rw[M];rfl
 rw[Zg] at B;have aJS:((DA q).GG DI [] 1).row=[I ((DA q).a.len+1),I 1,S DI,ff]:=by rw[M];rfl
 rw[aJS] at z u w7 x7;generalize put O bi 2 (.sl 4 [[I ((DA q).a.len+1),I 1,S DI,ff]])=h6 at*;generalize put h6 bi 9 tt=h7 at*;have D:=aHF (h:=h7) hv (λa ha=>by have:=(hl.2 a ha).2;have:AW=140737488355328:=rfl;omega) (by have:=hl.1;omega) sp nm Ac;obtain⟨C,s8,w8,x8⟩:=w7.I_ ⟨0,sp,nm,Fp sp nm l⟩;have s:RX C bi a _ .slnil .slnil g (Jn sp nm l q):=w8;have Q:=x7.trans x8;clear w8;have J_:Cv h7 4 (Pt bi 10) (.agg [I 0,I sp,.str nm,.bool (Fp sp nm l)])=some C:=s8;have aEX:(Jn sp nm l q).ctx=⟨0,sp,nm,Fp sp nm l⟩:=rfl;obtain⟨aOn,U⟩:=Zr sp nm l q;have key:∃N t9,RX N bi a (.sl 4 [[I ((DA q).a.len+1),I 1,S DI,ff]]) .slnil t9 g (Me sp nm l q)/\DC C (Bs bi g) N (Bs bi g)/\((sp=1/\nm=AM)->Cv C 1 (Pt bi 6) (.sl 1 [[I 18]])=some N)/\(¬(sp=1/\nm=AM)->N=C):=by
  by_cases P:sp=1/\nm=AM;.have hu:DX [18] (.sl 1 [[I 18]]):= .mk;refine⟨put C bi 6 (.sl 1 [[I 18]]),.sl 1 [[I 18]],?_,Bf,λ_=>s.st (k:=6) (v0:= .slnil) rfl rfl,λh=>absurd P h⟩;unfold Me;rw[Af (by rw[Q2,aEX];exact Al P)];exact s.mC hu
  .refine⟨C,.slnil,?_,.refl,λh=>absurd h P,λ_=>rfl⟩;unfold Me;rw[Ad (by rw[Q2,aEX];exact λh=>P (GN h))];exact s
 obtain⟨N,t9,w9,x9,k1,k2⟩:=key;obtain⟨VE,rN,UG,xL⟩:=aAS w9 U.rm;have em:AD (.Dk 1) [I 18]=some (.sl 1 [[I 18]]):=rfl;have e:AD (.Dk 4) [.agg [I ((DA q).a.len+1),I 1,S DI,ff]]=some (.sl 4 [[I ((DA q).a.len+1),I 1,S DI,ff]]):=rfl;have Z:DC h (λ_=>False) VE (Bs bi g):=(Q.trans x9).trans xL;have A:=UG.st (k:=8) (v:=I (-1)) rfl rfl;have hw:DI=aVh:=rfl;have HN:∃h',RX h' bi a (.sl 4 [[I ((DA q).a.len+1),I 1,S DI,ff]]) .slnil t9 g (UI sp nm l q f)/\DC h (λ_=>False) h' (Bs bi g)/\(f=true->h'=put VE bi 8 (I (-1)))/\(f=false->h'=VE):=by
  cases f with
  |true=>exact⟨_,by unfold UI;rw[Af rfl];exact UG.put (k:=8) rfl rfl UG.o UG.t,Z.trans Bf,λ_=>rfl,λh=>absurd h AP⟩
  |false=>exact⟨VE,UG,Z,λh=>absurd h AP,λ_=>rfl⟩
 obtain⟨h',w',x',Y,X⟩:=HN;refine⟨h1,h2,h',a,bi,_,t9,g,r1,r2,?_,w',x'⟩;rw[Ae,aD5];by_cases hsp:sp=1
 .by_cases d:nm=AM
  .have J:=k1 ⟨hsp,d⟩;cases f with
   |true=>rw[Y rfl];simp only[abS,Nat.reduceLeDiff,↓reduceIte,AT,Jr,H.Ab,E.Ab,B.Ab,e,z,u,D.Ab,J_,AL hsp,AL d,em,J,rN.Ab,A]
   |false=>rw[X rfl];simp only[abS,Nat.reduceLeDiff,↓reduceIte,AT,Jr,H.Ab,E.Ab,B.Ab,e,z,u,D.Ab,J_,AL hsp,AL d,em,J,rN.Ab]
  .have qw:=k2 λh=>d h.2;subst qw;cases f with
   |true=>rw[Y rfl];simp only[abS,Nat.reduceLeDiff,↓reduceIte,AT,Jr,H.Ab,E.Ab,B.Ab,e,z,u,D.Ab,J_,AL hsp,d,rN.Ab,A]
   |false=>rw[X rfl];simp only[abS,Nat.reduceLeDiff,↓reduceIte,AT,Jr,H.Ab,E.Ab,B.Ab,e,z,u,D.Ab,J_,AL hsp,d,rN.Ab]
 .have qw:=k2 λh=>hsp h.1;subst qw;cases f with
  |true=>rw[Y rfl];simp only[abS,Nat.reduceLeDiff,↓reduceIte,AT,Jr,H.Ab,E.Ab,B.Ab,e,z,u,D.Ab,J_,hsp,rN.Ab,A]
  |false=>rw[X rfl];simp only[abS,Nat.reduceLeDiff,↓reduceIte,AT,Jr,H.Ab,E.Ab,B.Ab,e,z,u,D.Ab,J_,hsp,rN.Ab]
def aOL(h:Ai)(s:EZ)(hv:Bi s.Av av)(hl:DO s.Av)(hn:s.name.length<=1000):∃h' bi a o c t G,BG cx 23 [.agg (MT s av)] h (Pt bi 0) h'/\RX h' bi a o c t G s.b/\B1 s.b.A6 c/\DC h (λ_=>False) h' (Bs bi G):=by
 have uK:(Jn s.Bb s.name s.Av s.CL).A6=[]:=by unfold Jn;simp only;unfold BS.El;rw[Af J9];rfl
 have ZJ:av.cells=[av]:=AU.cells hv;cases hf:s.Mo with
 |true=>
  obtain⟨h1,h2,h',a,bi,o,t,G,f,r2,d,w,x⟩:=aOK h s.Bb s.name hv hl hn s.CL s.NH s.CL;refine⟨h',bi,a,o,.slnil,t,G,?_,by unfold EZ.b;rw[Af hf];exact w,?_,x⟩;.rw[Ae,ye,MT,hf];simp only[BE,f.Ab,r2.Ab,d.Ab]
  .have e:s.b.A6=[]:=by unfold EZ.b UI Me;rw[Af hf];split<;>split<;>exact uK
   rw[e];exact⟨[],rfl,.inr ⟨rfl,rfl⟩⟩
 |false=>
  obtain⟨h1,h2,h',a,bi,G,f,r2,d,w,x⟩:=aJR h s.CL;have e:s.b=DA s.CL:=by unfold EZ.b;rw[Ad (by rw[hf];decide)]
  refine⟨h',bi,a,.slnil,.slnil,.slnil,G,?_,by rw[e];exact w,by rw[e];exact⟨[],rfl,.inr ⟨rfl,rfl⟩⟩,x⟩;rw[Ae,ye,MT,hf];simp only[BE,f.Ab,r2.Ab,d.Ab]
end
section
variable{h h':Ai}{bi a lo:Nat}{o c t:Aa}{G G' F:Nat->Prop}{b:BS}{x:Int}{m:Nat}
def aOM(w:RX h bi a o c t G b)(hc:B1 b.A6 c)(rm:BM b m):∃t' o' c' u,BG cx 49 [Pt bi 0] h (.agg (VJ b.Xx t' o' c')) (h++u)/\TL (h++u) h.length b.Xx t' o' c':=by
 have bX:AW=140737488355328:=rfl;have ho:=rm.AQ;have Rx:=rm.A6;have L:=rm.tm;obtain⟨t',e0,Gs⟩:=AU.FL (b:=8) w.t Ac;have E:t'.cells=[t']:=AU.cells Gs;obtain⟨fs,GK,hv⟩:=hc;have Hu:b.A6.length=fs.length:=by rw[<-GK,Ao]
 have I9:Ev cx 49 [Pt bi 0] h λr h'=>∃t' o' c' u,r= .agg (VJ b.Xx t' o' c')/\h'=h++u/\TL (h++u) h.length b.Xx t' o' c':=by
  unfold Ev;rw[aD2];simp only[abS,Nat.reduceLeDiff,↓reduceIte,AT,w.ld,Ju,e0,E];refine DK (i:=0) (λz:Aa×Nat=>[.agg [I b.mode,I b.Si,t',z.1,.slnil,I b.head,I b.NH,.bool b.fs,.bool b.EX,.str b.qG,.bool b.skip,I b.sw,.bool b.stop],I (z.2:Int)]) (λz h1=>z.2<=b.AQ.length/\∃u,h1=h++u/\Nt (h++u) h.length z.1 ((b.AQ.take z.2).map Item.node)) (λz=>b.AQ.length-z.2) (λz h1=>∃u,h1=h++u/\Nt (h++u) h.length z.1 (b.AQ.map Item.node)) (.slnil,0) rfl ⟨AY _,[],AH,.inl ⟨rfl,AH⟩⟩ ?_ ?_
  .rintro⟨V,n⟩ h1 ⟨hn,u,rfl,d⟩;simp only at hn d;have w1:=w.HQ (u:=u);have qx:A7 (h++u) none (Pt bi 2)=some o:=w1.ld 2;have p:=AU.CN w.o;have y:=d.cells;rcases AR n b.AQ.length with hlt|Eh
   .have B:=AU.BL (k:= .i64) w.o hlt;rw[Item.row] at B;obtain⟨D,H,g1,e⟩:=aCg d (by rw[Ao,Ax];omega) b.AQ[n].node;have f:=e.cells;have em:AD (.Dk 1) [I b.AQ[n].node]=some (.sl 1 [[I b.AQ[n].node]]):=rfl;simp only[abS,↓reduceIte,qx,p,(Ac:(n:Int)<(b.AQ.length:Int)),B,em,g1,f,BN (Ac:n<9223372036854775807)];exact .next (H,n+1) rfl ⟨hlt,D,rfl,by rw[AB hlt,Bu];exact e⟩ Dv
   .rw[AF Eh] at d;simp only[abS,↓reduceIte,qx,p,(Ac:¬(n:Int)<(b.AQ.length:Int))];exact .HN (V,n) rfl ⟨u,rfl,d⟩
  .rintro⟨O,N⟩ h1 ⟨u,rfl,C⟩;simp only at C;have M:=C.cells;simp only[BE,↓reduceIte];have J:=w.HQ (u:=u);have s:h.length<=(h++u).length:=AH;obtain⟨l,j⟩:∃l,l=h++u:=⟨_,rfl⟩;rw[<-j] at C J s⊢;refine DK (i:=2) (λz:Aa×Nat=>[.agg [I b.mode,I b.Si,t',O,z.1,I b.head,I b.NH,.bool b.fs,.bool b.EX,.str b.qG,.bool b.skip,I b.sw,.bool b.stop],I (z.2:Int)]) (λz h1=>z.2<=fs.length/\∃g,h1=l++g/\MU (l++g) l.length z.1 ((b.A6.take z.2))) (λz=>fs.length-z.2) (λz h1=>∃g,h1=l++g/\MU (l++g) l.length z.1 b.A6) (.slnil,0) rfl ⟨AY _,[],AH,.inl ⟨rfl,AH⟩⟩ ?_ ?_
   .rintro⟨V,n⟩ h1 ⟨hn,g,rfl,d⟩;simp only at hn d;have w1:=J.HQ (u:=g);have q:=w1.l3;have lc:=AU.CN hv;have y:=d.cells;rcases AR n fs.length with hlt|Eh
    .have B:=AU.BL (k:= .i64) hv hlt;rw[Ck.row] at B;have A:fs[n].c=b.A6[n]:=by simp only[<-GK,C0]
     have WC:=(rm.DB fs[n].c (by rw[A];exact AN _)).2.1;obtain⟨av,ea,ZJ⟩:=AU.FL (b:=40) fs[n].ok Ac;have K:fs[n].v.cells=[fs[n].v]:=AU.cells fs[n].ok;have aEY:av.cells=[av]:=AU.cells ZJ;obtain⟨D,H,g1,e⟩:=aI8 d (by rw[Ax];omega) ⟨fs[n].c,av,ZJ⟩;rw[Ck.row] at g1;simp only at g1 e;have f:=e.cells;have em:AD (.Dk 3) [.agg [I fs[n].c.node,.str fs[n].c.name,av]]=some (.sl 3 [[I fs[n].c.node,.str fs[n].c.name,av]]):=Mv rfl;simp only[abS,Nat.reduceLeDiff,↓reduceIte,AT,q,lc,(Ac:(n:Int)<(fs.length:Int)),B,ea,aEY,em];simp only[BE,↓reduceIte,g1,f,BN (Ac:n<9223372036854775807)];exact .next (H,n+1) rfl ⟨hlt,D,rfl,by rw[AB Ac,<-A];exact e⟩ Dv
    .rw[AF Ac] at d;simp only[abS,Nat.reduceLeDiff,↓reduceIte,AT,q,lc,(Ac:¬(n:Int)<(fs.length:Int)),aaS];exact .HN (V,n) rfl ⟨g,rfl,d⟩
   .rintro⟨V,n⟩ h1 ⟨g,rfl,d⟩;simp only at d;have y:=d.cells;simp only[BE,↓reduceIte];refine⟨_,rfl,t',O,V,u++g,rfl,by rw[j,AI],.inl Gs,?_,?_⟩;.rw[<-AI,<-j];exact C.Dl λi _ hi=>Ak hi
    .rw[<-AI,<-j];exact d.low s
 obtain⟨r,h',hr,t',o',c',u,rfl,rfl,hs⟩:=I9.ret;exact⟨t',o',c',u,hr,hs⟩
end
section
variable{h h':Ai}{a n i:Nat}{ps:List RN}{A:Ar}{x:Int}
def aON(w:RA h a n i ps A)(hb:A.n.length<=900000000):BG cx 149 [Pt a 0] h (I A.len) h:=by
 have hl:=w.len;have e:((ps.length+1:Nat):Int)-1=A.len:=by unfold Ar.len;omega
 have hs:=Da (a:=((ps.length+1:Nat):Int)) (b:=1) Ac Ac;rw[e] at hs;rw[Ae,ľ];simp only[BE,ZP,w.nodes,show AD (.len false) [.CE n 0 (ps.length+1) 13]=some (I ((ps.length+1:Nat):Int)) from rfl,hs]
def aJU(p:RN)(h1:p.x.Bc.length<=1000000000)(h2:p.x.Av.length<=1000000000)(h:Ai):∃r,BG cx 297 [.agg p.row] h (.agg r) h/\∀h',NRd h' p.x r:=by have bX:AW=140737488355328:=rfl;obtain⟨K,j,d⟩:=AU.FL (b:=8) p.okk Ac;obtain⟨V,g,c⟩:=AU.FL (b:=40) p.oka Ac;have kc:p.kv.cells=[p.kv]:=AU.cells p.okk;have vc:p.av.cells=[p.av]:=AU.cells p.oka;have f:K.cells=[K]:=AU.cells d;have e:V.cells=[V]:=AU.cells c;refine⟨_,?_,λh'=>⟨K,V,rfl,DX.Sl d,Y9 c,f,e⟩⟩;rw[Ae,Ť,RN.row];simp only[BE,j,f,g,e]
def aOO(w:RA h a n i ps A)(hk:∀x,(A.nd x).Bc.length<=1000000000)(ha:∀x,(A.nd x).Av.length<=1000000000)(hb:A.n.length<=900000000):∃v,BG cx 152 [Pt a 0] h v h/\∀h',Zt h' v A.n:=by
 have bX:AW=140737488355328:=rfl;have nB:=w.len;have I9:Ev cx 152 [Pt a 0] h λr h'=>h'=h/\∀h',Zt h' r A.n:=by
  unfold Ev;rw[Ł];refine Bm (λz:Aa×Nat=>[z.1,I ((z.2+1:Nat):Int)]) (λz h1=>z.2<=ps.length/\h1=h/\∃AE:List (List Aa),AU 13 AE z.1/\AE.length=z.2/\∀h' k (h1:k<AE.length) (h2:k<A.n.length),NRd h' A.n[k] AE[k]) (λz=>ps.length-z.2) (.slnil,0) rfl ⟨AY _,rfl,[],.nil,rfl,λh' k h1=>by simp at h1⟩ ?_;rintro⟨V,k⟩ h1 ⟨ZU,rfl,AE,d,e,f⟩;simp only at ZU d e;have g:AD (.len false) [.CE n 0 (ps.length+1) 13]=some (I ((ps.length+1:Nat):Int)):=rfl;rcases AR k ps.length with hlt|Eh
  .obtain⟨hx,ex⟩:=xP (A:=A) (k:=k) Ac;have c:=(w.pn hx).2;have ld:=w.aCl hx;have ea:=w.addr hx;obtain⟨r,l,hr⟩:=aJU (pR ps ((k:Int)+1)) (by rw[c];exact hk _) (by rw[c];exact ha _) h1;rw[c,ex] at hr;have em:AD (.Dk 13) [.agg r]=some (.sl 13 [r]):=by obtain⟨K,W,o,_⟩:=hr [];exact MI (a:= .agg r) (by rw[o];rfl) AP
   have s:=AU.pJ (b:=168) (row:=r) d Ac;have p:((k+1:Nat):Int)=(k:Int)+1:=Ac;have inc:AD (.int .add) [I ((k:Int)+1),I 1]=some (I ((k:Int)+1+1)):=OY Ac Ac;simp only[abS,w.nodes,g,p,(Ac:(k:Int)+1<(ps.length:Int)+1),Int.natCast_add,Int.natCast_one,ea,ld,l.Ab,em,s,inc];refine AK.next (_,k+1) rfl ⟨hlt,rfl,AE++[r],.mk,by simp[e],λh' j h1 h2=>?_⟩ Dv;by_cases hj:j<AE.length;.rw[Gr hj];exact f h' j hj h2
   .have q:j=k:=by simp at h1;omega
    subst q;rw[ì Ac];simp only[e,C5,aFr];exact hr h'
  .simp only[abS,w.nodes,g,(Ac:¬((k+1:Nat):Int)<((ps.length+1:Nat):Int))];exact⟨_,rfl,λh'=>⟨AE,d,Ac,λj a b=>f h' j a b⟩⟩
 obtain⟨r,h',hr,rfl,m⟩:=I9.ret;exact⟨r,hr,m⟩
end
def RB(h:Ai)(bi:Nat)(b:BS)(F:Nat->Prop):Prop:=∃a o c t G,RX h bi a o c t G b/\B1 b.A6 c/\F=Bs bi G
structure UK(h:Ai)(bi wi:Nat)(b:BS)(F F2:Nat->Prop):Prop where
 p:PB h bi b F
 r:RB h wi b F2
 d:∀i,F i->¬F2 i
structure Q9(b:BS)(j:Nat):Prop where
 ok:EB b
 sz:Sz b j
 nm:Nm b.a
section
variable{h h':Ai}{bi wi:Nat}{b:BS}{F F2:Nat->Prop}{q:rP}{av:Aa}{j:Nat}
def RB.lt(w:RB h bi b F){i:Nat}(hi:F i):i<h.length:=by
 obtain⟨a,o,c,t,G,w,_,rfl⟩:=w;rcases hi with rfl|hi
 .exact w.lt
 .exact w.w.lt hi
def RB.Dl(w:RB h bi b F)(hf:∀i,F i->h'[i]?=h[i]?):RB h' bi b F:=by obtain⟨a,o,c,t,G,w,hc,rfl⟩:=w;exact⟨a,o,c,t,G,w.Dl hf,hc,rfl⟩
def RB.HQ(w:RB h bi b F){u:Ai}:RB (h++u) bi b F:=w.Dl λi hi=>Ak (w.lt hi)
def UK.HQ(w:UK h bi wi b F F2){u:Ai}:UK (h++u) bi wi b F F2:=⟨w.p.HQ,w.r.HQ,w.d⟩
def Q9.le{k:Nat}(f:Q9 b j)(hk:k<=j):Q9 b k:=⟨f.ok,⟨f.sz.rm.le Ac,by have:=f.sz.AQ;omega,by have:=f.sz.A6;omega⟩,f.nm⟩
def Q9.HN(f:Q9 b j):Fin b j:=⟨f.ok,f.sz⟩
def Q9.do(f:Q9 b (j+1))(hq:ou q):Q9 (Zl b q).1 j:=⟨aET f.ok,aEU f.sz hq,aE0 f.nm f.sz hq⟩
def EZ.xT(s:EZ):Q9 s.b 100:=⟨s.ok.1,s.ok.2,P_ s⟩
def UK.prog{b':BS}{F':Nat->Prop}(w:UK h bi wi b F F2)(p:PB h' bi b' F')(x:DC h F h' F'):RB h' wi b F2/\∀i,F' i->¬F2 i:=
 ⟨w.r.Dl λi hi=>x.old i (w.r.lt hi) λhp=>w.d i hp hi,λi h1 h2=>by
  rcases x.Bs i h1 with a|a
  .exact w.d i a h2
  .have:=w.r.lt h2;omega⟩
def aOQ(w:RB h bi b F)(f:Q9 b (j+1))(hq:ou q)(hv:Bi q.Av av):∃h' F',BG cx 25 [Pt bi 0,.agg (Ma q av)] h (.agg (Zl b q).2.row) h'/\RB h' bi (Zl b q).1 F'/\DC h F h' F':=by obtain⟨a,o,c,t,G,w,hc,rfl⟩:=w;obtain⟨h',o',c',t',G',r,w',Kw,x⟩:=aOI w hc f.ok f.sz f.nm hq hv;exact⟨h',_,r,⟨a,o',c',t',G',w',Kw,rfl⟩,x⟩
def aAU(w:UK h bi wi b F F2)(f:Q9 b (j+1))(hq:ou q)(hv:Bi q.Av av):∃h1 h2 F' a,BG cx 24 [Pt bi 0,.agg (Ma q av)] h (.agg (Zl b q).2.row) h1/\BG cx 25 [Pt wi 0,.agg (Ma q av)] h1 (.agg (Zl b q).2.row) h2/\UK h2 bi wi (Zl b q).1 F' a:=by
 obtain⟨h1,F',n,w1,k⟩:=aOq w.p f.HN hq hv;obtain⟨m,g⟩:=w.prog w1 k;obtain⟨h2,a,r2,l,c⟩:=aOQ m f hq hv;refine⟨h1,h2,F',a,n,r2,w1.Dl λi hi=>c.old i (w1.lt hi) (g i hi),l,λi e o=>?_⟩;rcases c.Bs i o with d|d
 .exact g i e d
 .have:=w1.lt e;omega
def aOR(s:EZ)(hv:Bi s.Av av)(hl:DO s.Av)(hn:s.name.length<=1000)(h:Ai):∃h' bi F,BG cx 23 [.agg (MT s av)] h (Pt bi 0) h'/\RB h' bi s.b F/\DC h (λ_=>False) h' F:=by obtain⟨h',bi,a,o,c,t,G,r,w,hc,x⟩:=aOL h s hv hl hn;exact⟨h',bi,_,r,⟨a,o,c,t,G,w,hc,rfl⟩,x⟩
def xU(s:EZ)(hv:Bi s.Av av)(hl:DO s.Av)(hn:s.name.length<=1000)(h:Ai):∃h1 h2 bi wi F F2,BG cx 22 [.agg (MT s av)] h (Pt bi 0) h1/\BG cx 23 [.agg (MT s av)] h1 (Pt wi 0) h2/\UK h2 bi wi s.b F F2:=by
 obtain⟨h1,bi,F,e,w1,k⟩:=aOr s hv hl h;obtain⟨h2,wi,F2,r2,d,a⟩:=aOR s hv hl hn h1;refine⟨h1,h2,bi,wi,F,F2,e,r2,w1.Dl λi hi=>a.old i (w1.lt hi) (λh=>h),d,λi g f=>?_⟩;rcases a.Bs i f with c|c
 .exact c
 .have:=w1.lt g;omega
end
def UL:∀{l:List QO} {b:BS} {j:Nat},Q9 b (j+l.length)->(∀x∈l,ou x.q)->Q9 (LW b l) j
 |[],_,_,f,_=>f
 |x::l,b,j,f,hq=>by rw[LW];exact UL (Q9.do (j:=j+l.length) (f.le (by simp only[Bd];omega)) (hq x AH)) λy hy=>hq y (by simp[hy])
def aOS(i:Item):AD (.geq true [.i,.i,.s,.b]) [.agg i.row,.agg i.row]=some (.bool false):=by rw[R7];simp[Item.row,D8,LZ]
section
variable{h h':Ai}{bi wi:Nat}{b:BS}{F F2:Nat->Prop}{q:rP}{av:Aa}{j:Nat}
def f7w(s:EZ)(hv:Bi s.Av av)(hl:DO s.Av)(hn:s.name.length<=1000){l:List QO}{v:Aa}(ho:dH l v)(hb:l.length<=60)(hq:∀x∈l,ou x.q)(h:Ai):
  ∃h' bi wi F F2,BG cx 16 [.agg (MT s av),v] h (.tuple [Pt bi 0,Pt wi 0,tt]) h'/\UK h' bi wi (LW s.b l) F F2:=by
 obtain⟨h1,h2,bi,wi,F,F2,f,r2,w0⟩:=xU s hv hl hn h;have I9:Ev cx 16 [.agg (MT s av),v] h λr h'=>r= .tuple [Pt bi 0,Pt wi 0,tt]/\∃F F2,UK h' bi wi (LW s.b l) F F2:=by
  unfold Ev;have ZJ:av.cells=[av]:=AU.cells hv;have g:=AU.CN ho;rw[aDX];rw[MT] at f r2⊢;simp only[abS,f.Ab,r2.Ab];refine Bm (λn:Nat=>[.ptr none,.ptr none,ff,I (n:Int)]) (λn h1=>n<=l.length/\∃F F2,UK h1 bi wi (LW s.b (l.take n)) F F2) (λn=>l.length-n) 0 rfl ⟨AY _,F,F2,w0⟩ ?_;rintro n z ⟨ND,u,t,a⟩;rcases AR n l.length with hlt|Eh
  .have m:=AU.BL (k:= .i64) ho hlt;have xT:Q9 (LW s.b (l.take n)) (39+1):=(UL (j:=40) (l:=l.take n) (s.xT.le (by rw[Ax];omega)) λx hx=>hq x (Bp hx));obtain⟨y,w,p,o,e,d,i⟩:=aAU a xT (hq _ (AN hlt)) l[n].ok;have hr:Ma l[n].q l[n].v=l[n].row:=rfl;rw[hr] at e d;simp only[abS,g,(Ac:(n:Int)<(l.length:Int)),m,QO.CP,QO.If,Ag,e.Ab,BK,d.Ab,aOS,BN (Ac:n<9223372036854775807)];exact AK.next (n+1) rfl ⟨hlt,p,o,by rw[AB hlt,Zs];exact i⟩ Ac
  .rw[AF Eh] at a;simp only[abS,g,(Ac:¬(n:Int)<(l.length:Int))];exact⟨_,rfl,rfl,u,t,a⟩
 obtain⟨r,h',hr,rfl,F',c,w'⟩:=I9.ret;exact⟨h',bi,wi,F',c,hr,w'⟩
def f8g{m:Nat}(w:UK h bi wi b F F2)(rm:BM b m)(ok:EM b.a 0):∃u,BG cx 19 [Pt bi 0,Pt wi 0] h tt (h++u):=by
 obtain⟨a,o,c,t,G,wp,hc,e1⟩:=w.p;obtain⟨T,V,c1,f,N,E⟩:=aOp wp hc rm;have w1:=w.HQ (u:=f);obtain⟨a',o',c',t',G',wr,Kw,e2⟩:=w1.r;obtain⟨t2,U,c2,d,r2,D⟩:=aOM wr Kw rm;have R:=w1.HQ (u:=d);have Z:=rm.tm;have Y:=rm.AQ;have X:=rm.A6;have W:=rm.n;have M:=f22 (E.Dl (h':=h++f++d) λi _ hi=>Ak hi) D (Ac:b.tm.length<=1000000000) (show(b.AQ.map Item.node).length<=1000000000 by rw[Ao];omega) (Ac:b.A6.length<=1000000000) (λe he=>by have:=(rm.DB e he).2.1;omega);have v:=(wp.HQ (u:=f)).HQ (u:=d);have s:=wr.HQ (u:=d);have l0:=v.l0;have A:=s.l0;have B:∀x,(b.a.nd x).Bc.length<=1000000000:=λx=>rm.ZR.Bc ok x;have ab:∀x,(b.a.nd x).Av.length<=1000000000:=λx=>by have:=rm.at_ x;omega
 obtain⟨n,m',ps,C⟩:=v.w.pa;obtain⟨n',Q,JI,g,_⟩:=s.w;obtain⟨S,l,K,P⟩:=aOv C rm.ZR B Ac;have L:=aNr C;have z:=aON g Ac;have y:RA (h++f++d++l) a' n' Q JI b.a:=g.Dl λj hj=>Ak (g.lt hj);obtain⟨v2,J,O⟩:=aOO y B ab Ac;have I:=f90 P.rd (O (h++f++d++l)) Ac (λx hx=>by obtain⟨k,hk,rfl⟩:=List.getElem_of_mem hx;have:=(xP hk).2;rw[<-this];exact⟨ab _,B _⟩)
 have H:BG cx 50 [Pt a 0,Pt a' 0] (h++f++d) tt (h++f++d++l):=by rw[Ae,aD3];simp only[BE,L.Ab,z.Ab,CF,Dw,K.Ab,J.Ab,I.Ab]
 refine⟨f++d++l,?_⟩;rw[Ae,aDY];rw[show h++(f++d++l)=h++f++d++l by simp only[AI]];simp only[abS,N.Ab,r2.Ab,M.Ab,l0,A,H.Ab]
end
structure FF where
 k:Int
 name:Aj
 hn:Bool
 qp:Aj
 hp:Bool
 sys:Aj
 hs:Bool
 q:Bool
 Av:List A5
 sc:Bool
 data:Aj
 r:Int
namespace FF
def ok(t:FF):Prop:=1<=t.k/\t.k<=6
instance(t:FF):Decidable t.ok:=by unfold ok;infer_instance
def st(t:FF)(ws:List Aj):Prop:=t.k=2/\t.name∈ws
instance(t:FF)(ws:List Aj):Decidable (t.st ws):=by unfold st;infer_instance
def en(t:FF)(ws:List Aj):Prop:=t.k=3/\t.name∈ws
instance(t:FF)(ws:List Aj):Decidable (t.en ws):=by unfold en;infer_instance
def Zy(t:FF)(ws:List Aj):Prop:=t.k=3/\t.name∉ws
instance(t:FF)(ws:List Aj):Decidable (t.Zy ws):=by unfold Zy;infer_instance
end FF
def Zz(r:Int):Prop:=(9<=r/\r<=10)\/(12<=r/\r<=13)\/r=32
instance(r:Int):Decidable (Zz r):=by unfold Zz;infer_instance
namespace FF
def ED(t:FF):Prop:=t.k=5/\Zz t.r
instance(t:FF):Decidable t.ED:=by unfold ED;infer_instance
end FF
def Ra(nm:Aj):FF:=⟨2,nm,false,[],false,[],false,false,[],false,[],0⟩
def eHB:List Aj:=[aVk,aVn,aVh,[98,114]]
def dJ:List Aj:=[aVk,aVg,aVn,aVh,[98,114]]
def Sq:List Aj:=[aVg,aVn,aVh,[98,114]]
def eNo:List Aj:=[aVl,[98,114]]
def Ow:List Aj:=[[98,97,115,101],aWk,aWp,aWF,[109,101,116,97]]
def pv:List Aj:=[aWj,aWw]
def px:List Aj:=[aWk,aWp,aWF,[109,101,116,97],aWj,aWw]
def sHN:List Aj:=[aVk,aVl]
def Hr:List Aj:=[[98,97,115,101],aWk,aWp,aWF,[109,101,116,97],aWj,aVx,aWw,aVg,aVs]
def U_:List Aj:=[[97,100,100,114,101,115,115],[97,114,116,105,99,108,101],[97,115,105,100,101],[98,108,111,99,107,113,117,111,116,101],[99,101,110,116,101,114],[100,101,116,97,105,108,115],[100,105,97,108,111,103],[100,105,114],[100,105,118],[100,108],[102,105,101,108,100,115,101,116],[102,105,103,99,97,112,116,105,111,110],[102,105,103,117,114,101],[102,111,111,116,101,114],[104,101,97,100,101,114],[104,103,114,111,117,112],[109,97,105,110],[109,101,110,117],[110,97,118],[111,108],[112],[115,101,97,114,99,104],[115,101,99,116,105,111,110],[115,117,109,109,97,114,121],[117,108]]
def aJW:List Aj:=[[112,114,101],[108,105,115,116,105,110,103]]
def aJX:List Aj:=[[98],[98,105,103],[99,111,100,101],[101,109],[102,111,110,116],[105],[115],[115,109,97,108,108],[115,116,114,105,107,101],[115,116,114,111,110,103],[116,116],[117]]
def aJY:List Aj:=[aWh,aWd,aWl]
def V_:List Aj:=[[97,114,101,97],[98,114],[101,109,98,101,100],[105,109,103],[105,109,97,103,101],[107,101,121,103,101,110],[119,98,114],[105,110,112,117,116],[112,97,114,97,109],[115,111,117,114,99,101],[116,114,97,99,107],[104,114]]
def aCq:List Aj:=[aVH,[99,111,108],aVU,[102,114,97,109,101],aVk,aV1,[116,100],aVY,[116,104],aV2,[116,114]]
def aJZ:List Aj:=[aWz,[120,109,112],[105,102,114,97,109,101],[110,111,101,109,98,101,100],aWf]
def aCr:List Aj:=[[114,98],[114,116,99],[114,112],[114,116]]
def aJ0:List Aj:=[[109,97,116,104],[115,118,103]]
def aCs:List Aj:=[[108,105],[100,100],[100,116]]
def aJ1:List Aj:=[aVQ,aVW]
def W_:List Aj:=[aVh,aVn]
namespace BS
def FA(b:BS)(t:FF):BS:=b.Ej t.name t.Av 1
def ZA(b:BS)(t:FF):BS:=(b.FA t).Jt
def again(b:BS)(m:Int):BS×Bool:=({b with mode:=m},true)
def gC(b:BS):Prop:=0<=AV (Bw [AM]) b.AQ
instance(b:BS):Decidable b.gC:=by unfold gC;infer_instance
def HT(b:BS)(t:FF):BS:=if b.gC\/b.AQ=[] then b else b.EL t.Av (EI b.AQ 0).node
def ZB(b:BS):Bool:=decide (2<=b.AQ.length)&&Bw [aVn] (EI b.AQ 1)
def mO(b:BS)(t:FF):BS:=
 if b.gC\/b.AQ=[] then b else if t.name=aVh then b.EL t.Av (EI b.AQ 0).node
 else if b.ZB then({b with fs:=false}:BS).EL t.Av (EI b.AQ 1).node else b
def FT(b:BS)(t:FF):BS×Bool:=
 if¬t.ok then(b,false)
 else if t.k=1 then(b,false)
 else if t.ED then(b,false)
 else if t.Zy eHB then(b,false)
 else if t.k=4 then(b.Fc t.data 0,false)
 else if t.st [aVh] then(b.HT t,false)
 else if t.st [aVk] then({b.FA t with head:=b.LP 1,mode:=4},false)
 else({b.FA (Ra aVk) with head:=b.LP 1}:BS).again 4
def DE(b:BS)(t:FF):BS×Bool:=
 if¬t.ok then(b,false)
 else if t.k=1 then(b,false)
 else if t.st [aVk] then(b,false)
 else if t.Zy dJ then(b,false)
 else if t.ED then(b.Q6 t.r,false)
 else if t.k=4 then(b.Fc t.data 0,false)
 else if t.st [aVh] then(b.HT t,false)
 else if t.st Ow then(b.ZA t,false)
 else if t.st [aVs] then(b.Fe t.name t.Av 2,false)
 else if t.st pv then(b.Fe t.name t.Av 3,false)
 else if t.st [aVx] then(b.Fe t.name t.Av 4,false)
 else if t.st [aVl] then({b.FA t with mode:=5},false)
 else if t.en [aVk] then({b.Jt with mode:=6},false)
 else if t.st [AM] then
  let b1:=b.FA t
  ({b1 with A6:=b1.A6++[Cb.zero],fs:=false,mode:=18,tm:=b1.tm++[18]},false)
 else if t.en [AM] then(b.Cy,false)
 else b.Jt.again 6
def FU(b:BS)(t:FF):BS×Bool:=
 if¬t.ok then(b,false)
 else if t.k=1 then(b,false)
 else if t.st sHN then(b,false)
 else if t.Zy eNo then(b,false)
 else if t.st [aVh] then(b.HT t,false)
 else if t.en [aVl] then({b.Jt with mode:=4},false)
 else if t.ED then b.DE t
 else if t.k=4 then b.DE t
 else if t.st px then b.DE t
 else b.Jt.again 4
def HK(n:Int):Item:=⟨n,1,aVk,false⟩
def Lj(b:BS)(t:FF):BS×Bool:=
 let r:=({b with AQ:=b.AQ++[HK b.head]}:BS).DE t
 ({r.1 with AQ:=CX b.head r.1.AQ},r.2)
def HL(b:BS)(t:FF):BS×Bool:=
 if¬t.ok then(b,false)
 else if t.k=1 then(b,false)
 else if t.st [aVk] then(b,false)
 else if t.Zy Sq then(b,false)
 else if t.ED then(b.Q6 t.r,false)
 else if t.k=4 then(b.Fc t.data 0,false)
 else if t.st [aVh] then(b.HT t,false)
 else if t.st [aVn] then({b.FA t with fs:=false,mode:=7},false)
 else if t.st [aVr] then({b.FA t with mode:=20},false)
 else if t.st Hr then b.Lj t
 else if t.en [AM] then b.DE t
 else(b.FA (Ra aVn)).again 7
end BS
structure Gz(b:BS)(n o a:Nat):Prop where
 ok:EB b
 rm:BM b n
 AQ:b.AQ.length<=o
 A6:b.A6.length<=a
structure FF.Sm(t:FF):Prop where
 name:t.name.length<=1000
 Av:DO t.Av
 data:t.data.length<=1000
 r: -2147483648<=t.r/\t.r<=2147483647
section
variable{b b':BS}{n n' o o' a a':Nat}{nm:Aj}{l:List A5}{t:FF}{sp:Int}
def Gz.le(g:Gz b n o a)(h1:n'<=n)(h2:o<=o')(c:a<=a'):Gz b n' o' a':=⟨g.ok,g.rm.le h1,Br g.AQ h2,Br g.A6 c⟩
def Gz.ite{c:Prop}[Decidable c]{x y:BS×Bool}(h1:Gz x.1 n o a)(h2:Gz y.1 n o a):Gz (if c then x else y).1 n o a:=by split;exact h1;exact h2
def Gz.aOU{d c:Prop}[Decidable d][Decidable c]{x y:BS×Bool}(h1:Gz x.1 n o a)(h2:Gz y.1 n o a):Gz (if d then x else if c then x else y).1 n o a:= .ite h1 (.ite h1 h2)
def Gz.aJ2{e d c:Prop}[Decidable e][Decidable d][Decidable c]{x y:BS×Bool}(h1:Gz x.1 n o a)(h2:Gz y.1 n o a):Gz (if e then x else if d then x else if c then x else y).1 n o a:= .ite h1 (.aOU h1 h2)
def Gz.aE2{f e d c:Prop}[Decidable f][Decidable e][Decidable d][Decidable c]{x y:BS×Bool}(h1:Gz x.1 n o a)(h2:Gz y.1 n o a):Gz (if f then x else if e then x else if d then x else if c then x else y).1 n o a:= .ite h1 (.aJ2 h1 h2)
def Gz.dn(g:Gz b n o a)(h:n'<=n):Gz b n' o a:=g.le h (Ag _) (Ag _)
def Gz.Na(g:Gz b (n+4) o a)(hl:DO l)(hn:nm.length<=1000):Gz (b.Ej nm l sp) n (o+1) a:=by
 refine⟨Qq g.ok,Ih g.rm hl hn,?_,by rw[D3];exact g.A6⟩;have:=g.AQ;unfold BS.Ej;split
 .rename_i hs;have e:(b.El nm l sp (b.place 0).1).AQ=b.AQ:=by unfold BS.El;rw[Af hs]
  simp only[e,Au,A9];omega
 .omega
def Gz.eq{c:BS}(g:Gz b n o a)(h1:c.a=b.a)(h2:c.CG=b.CG)(e:c.AQ=b.AQ)(d:c.A6=b.A6)(f:c.tm=b.tm):Gz c n o a:=
 ⟨g.ok.of_eq h1 h2 e d,g.rm.eq h1 e d f,by rw[e];exact g.AQ,by rw[d];exact g.A6⟩
def Gz.sub(g:Gz b n o a){lo:List Item}{lc:List Cb}{lt:List Int}(h1:lo.Sublist b.AQ)(h2:lc.Sublist b.A6)(c:lt.length<=b.tm.length):Gz {b with AQ:=lo,A6:=lc,tm:=lt} n o a:=
 ⟨((g.ok.Sj h1).qL (by exact h2)).of_eq rfl rfl rfl rfl,g.rm.sub rfl h1 h2 c,Br h1.length_le g.AQ,Br h2.length_le g.A6⟩
def Gz.Sj(g:Gz b n o a){lo:List Item}(h1:lo.Sublist b.AQ):Gz {b with AQ:=lo} n o a:=g.sub h1 (A4 _) (Ag _)
def Gz.Q6(g:Gz b (n+5) o a){r:Int}:Gz (b.Q6 r) n o a:=⟨ax g.ok,VI g.rm (TD _),g.AQ,g.A6⟩
def Gz.Fc(g:Gz b (n+5) o a){s:Aj}(hs:s.length<=1000){p:Int}:Gz (b.Fc s p) n o a:=by
 refine⟨YS g.ok,?_,g.AQ,g.A6⟩;unfold BS.Fc;split;.exact KF g.rm Ac
 .exact KF g.rm Ac
def Gz.EL(g:Gz b (n+1000) o a)(hl:DO l){h:Int}:Gz (b.EL l h) n o a:=by
 refine⟨qN g.ok,Zn g.rm hl.1,?_,?_⟩<;>unfold BS.EL<;>split;.exact g.AQ
 .exact g.AQ
 .exact g.A6
 .exact g.A6
def Gz.Jt(g:Gz b n o a):Gz b.Jt n o a:=by
 unfold BS.Jt;split;.exact g
 .exact g.Sj (Dq _ _)
def Gz.HS(g:Gz b n o a):Gz b.HS n o a:=g.eq rfl rfl rfl rfl rfl
def Gz.mark(g:Gz b (n+1) o a):Gz {b with A6:=b.A6++[Cb.zero]} n o (a+1):=by
 refine⟨gm g.ok,g.rm.qP (e:=Cb.zero) AH (λe he=>?_) ⟨AP,AP,λa ha=>by cases ha⟩,g.AQ,?_⟩
 .rcases Ay.1 he with he|he
  .exact .inl he
  .exact .inr (by simpa using he)
 .have:=g.A6;simp only[Au,A9];omega
def Gz.tm(g:Gz b (n+1) o a){m:Int}:Gz {b with tm:=b.tm++[m]} n o a:=by have r:=g.rm;have c:=r.le (m':=n) Ac;exact⟨g.ok.of_eq rfl rfl rfl rfl,⟨c.n,c.at_,c.data,c.AQ,c.A6,by have:=r.tm;simp only[Au,A9];omega,c.DB,c.Wg⟩,g.AQ,g.A6⟩
def Gz.Cy(g:Gz b n o a):Gz b.Cy n o a:=by
 unfold BS.Cy;split;.exact g
 .exact(g.sub (lo:=DN CY (Bw [AM]) (DN CK CY b.AQ)) (lc:=Ge b.A6) (lt:=b.tm.dropLast) (EC.trans EC) (Dq _ _) AH).HS
def Gz.Fe(g:Gz b (n+4) o a){s:Int}(hl:DO l)(hn:nm.length<=1000):Gz (b.Fe nm l s) n (o+1) a:=(g.Na (sp:=1) hl hn).eq rfl rfl rfl rfl rfl
def Gz.FA(g:Gz b (n+4) o a)(ht:t.Sm):Gz (b.FA t) n (o+1) a:=g.Na ht.Av ht.name
def Q4(h:nm.length<=1000):(Ra nm).Sm:=⟨h,⟨show([]:List A5).length<=1000 by decide,λa ha=>by cases ha⟩,(AP:([]:Aj).length<=1000),show(-2147483648:Int)<=0/\(0:Int)<=2147483647 by decide⟩
def Gz.ZA(g:Gz b (n+4) o a)(ht:t.Sm):Gz (b.ZA t) n (o+1) a:=(g.FA ht).Jt
def Gz.HT(g:Gz b (n+1000) o a)(ht:t.Sm):Gz (b.HT t) n o a:=by
 unfold BS.HT;split;.exact g.le Ac (Ag _) (Ag _)
 .exact g.EL ht.Av
def Gz.DE(g:Gz b (n+1004) o a)(ht:t.Sm):Gz (b.DE t).1 n (o+1) (a+1):=by have g0:Gz b n (o+1) (a+1):=g.le Ac Ac Ac;have d:Gz b (n+4) o a:=g.le Ac Ac Ac;unfold BS.DE;refine .aE2 g0 (.ite ((g.le (n':=n+5) Ac (Ag _) (Ag _)).Q6.le (Ag _) Ac Ac) (.ite (((g.le (n':=n+5) Ac (Ag _) (Ag _)).Fc ht.data).le (Ag _) Ac Ac) (.ite (((g.le (n':=n+1000) Ac (Ag _) (Ag _)).HT ht).le (Ag _) Ac Ac) (.ite ((d.ZA ht).le (Ag _) Ac Ac) (.ite ((d.Fe ht.Av ht.name).le (Ag _) Ac Ac) (.ite ((d.Fe ht.Av ht.name).le (Ag _) Ac Ac) (.ite ((d.Fe ht.Av ht.name).le (Ag _) Ac Ac) (.ite (((d.FA ht).le (Ag _) Ac Ac).eq rfl rfl rfl rfl rfl) (.ite ((d.Jt.le Ac Ac Ac).eq rfl rfl rfl rfl rfl) (.ite ?_ (.ite (d.Cy.le Ac Ac Ac) ((d.Jt.le Ac Ac Ac).eq (c:={b.Jt with mode:=6}) rfl rfl rfl rfl rfl))))))))))));exact((((g.le (n':=n+2+4) Ac (Ag _) (Ag _)).FA ht).mark.tm (m:=18)).eq rfl rfl rfl rfl rfl)
def Gz.FU(g:Gz b (n+1004) o a)(ht:t.Sm):Gz (b.FU t).1 n (o+1) (a+1):=by have g0:Gz b n (o+1) (a+1):=g.le Ac Ac Ac;unfold BS.FU;exact .aE2 g0 (.ite (((g.le (n':=n+1000) Ac (Ag _) (Ag _)).HT ht).le (Ag _) Ac Ac) (.ite (g0.Jt.eq rfl rfl rfl rfl rfl) (.aJ2 (g.DE ht) (g0.Jt.eq (c:={b.Jt with mode:=4}) rfl rfl rfl rfl rfl))))
def Gz.FT(g:Gz b (n+1000) o a)(ht:t.Sm):Gz (b.FT t).1 n (o+1) a:=by have d:Gz b (n+4) o a:=g.le Ac (Ag _) (Ag _);have e:Gz b (n+5) o a:=g.le Ac (Ag _) (Ag _);unfold BS.FT;exact .aE2 (d.le Ac Ac (Ag _)) (.ite ((e.Fc ht.data).le (Ag _) Ac (Ag _)) (.ite ((g.HT ht).le (Ag _) Ac (Ag _)) (.ite ((d.FA ht).eq rfl rfl rfl rfl rfl) ((d.FA (Q4 (nm:=aVk) AP)).eq (c:={b.FA (Ra aVk) with head:=b.LP 1,mode:=4}) rfl rfl rfl rfl rfl))))
end
def Rb(h:Ai)(F:Nat->Prop)(f:FuncId)(args:List Aa)(r:Aa)(bi:Nat)(b':BS):Prop:=∃h' F',BG cx f args h r h'/\PB h' bi b' F'/\DC h F h' F'
abbrev Cl(t:FF)(av:Aa):List Aa:=[I t.k,.str t.name,.bool t.hn,.str t.qp,.bool t.hp,.str t.sys,.bool t.hs,.bool t.q,av,.bool t.sc,.str t.data,.int .i32 t.r]
section
variable{h h':Ai}{bi:Nat}{b b':BS}{F:Nat->Prop}{n o a:Nat}{t:FF}{av:Aa}
def KH:Oq t.name av (Cl t av):=⟨_,_,_,_,_,_,_,_,_,_,rfl⟩
def VM(w:PB h bi b F)(g:Gz b (n+4) o a)(ht:t.Sm)(hv:Bi t.Av av):Rb h F 65 [Pt bi 0,.agg (Cl t av)] (I (b.LP 1)) bi (b.FA t):=by obtain⟨d,e,c,tt,G,w,hc,rfl⟩:=w;obtain⟨h',o',G',r,w',x⟩:=n_ (m:=n) w g.ok g.rm KH hv ht.Av ht.name;exact⟨h',_,r,⟨d,o',c,tt,G',w',by unfold BS.FA;rw[D3];exact hc,rfl⟩,x⟩
def X_(w:PB h bi b F)(g:Gz b (n+5) o a){r:Int}(hr: -2147483648<=r/\r<=2147483647):Rb h F 69 [Pt bi 0,.int .i32 r] (.tuple []) bi (b.Q6 r):=by obtain⟨e,d,c,tt,G,w,hc,rfl⟩:=w;obtain⟨h',G',r,w',x⟩:=aIA (m:=n) w g.ok g.rm r hr;exact⟨h',_,r,⟨e,d,c,tt,G',w',hc,rfl⟩,x⟩
def UM(w:PB h bi b F)(g:Gz b (n+1) o a){s:Aj}(hs:s.length<=100000)(x:Int):Rb h F 70 [Pt bi 0,.str s,I x] (.tuple []) bi (b.Fc s x):=by obtain⟨e,d,c,tt,G,w,hc,rfl⟩:=w;obtain⟨h',G',r,w',x⟩:=aIC (m:=n) w g.ok g.rm s hs x;exact⟨h',_,r,⟨e,d,c,tt,G',w',hc,rfl⟩,x⟩
def Y_(w:PB h bi b F)(g:Gz b (n+4) o a)(ht:t.Sm)(hv:Bi t.Av av)(s:Int):Rb h F 71 [Pt bi 0,.agg (Cl t av),I s] (.tuple []) bi (b.Fe t.name t.Av s):=by obtain⟨d,e,c,tt,G,w,hc,rfl⟩:=w;obtain⟨h',o',G',r,w',x⟩:=aEC (m:=n) w g.ok g.rm KH hv ht.Av ht.name s;exact⟨h',_,r,⟨d,o',c,tt,G',w',by show B1 (b.Ej t.name t.Av 1).A6 c;rw[D3];exact hc,rfl⟩,x⟩
def h_(w:PB h bi b F)(g:Gz b (n+1000) o a)(ht:t.Sm)(hv:Bi t.Av av)(x:Int):Rb h F 77 [Pt bi 0,.agg (Cl t av),I x] (.tuple []) bi (b.EL t.Av x):=by obtain⟨f,d,c,tt,G,w,hc,rfl⟩:=w;obtain⟨h',G',r,w',x⟩:=aII (m:=n) w g.ok g.rm KH hv ht.Av x;exact⟨h',_,r,⟨f,d,c,tt,G',w',by have e:∀y,(b.EL t.Av y).A6=b.A6:=(λy=>by unfold BS.EL;split<;>rfl);rw[e];exact hc,rfl⟩,x⟩
def aE3(w:PB h bi b F)(g:Gz b n o a):Rb h F 78 [Pt bi 0] (.tuple []) bi b.Cy:=by obtain⟨d,e,c,tt,G,w,hc,rfl⟩:=w;obtain⟨h',o',c',t',r,w',Kw,x⟩:=aIJ w hc g.rm;exact⟨h',_,r,⟨d,o',c',t',G,w',Kw,rfl⟩,x⟩
def rV(w:PB h bi b F)(g:Gz b n o a):Rb h F 82 [Pt bi 2] (.agg b.gF.row) bi b.Jt:=by obtain⟨d,f,c,tt,G,w,hc,rfl⟩:=w;obtain⟨h',o',r,w',x⟩:=aAv w g.rm;exact⟨h',_,r,⟨d,o',c,tt,G,w',by have e:b.Jt.A6=b.A6:=(by unfold BS.Jt;split<;>rfl);rw[e];exact hc,rfl⟩,x⟩
def aE4(w:PB h bi b F)(g:Gz b n o a):Rb h F 80 [Pt bi 3] (.tuple []) bi {b with A6:=b.A6++[Cb.zero]}:=by obtain⟨e,d,c,tt,G,w,hc,rfl⟩:=w;have Rx:=g.rm.A6;obtain⟨fs,GK,Ud⟩:=hc;obtain⟨u,r2,hu⟩:=f63 (h:=h) (id:=bi) (o:=3) (l:=fs) ⟨c,w.sQ,Ud⟩ (by rw[<-GK,Ao] at Rx;omega);exact⟨_,_,r2,⟨e,d,u,tt,G,w.KE (u:=u) (l:=b.A6++[Cb.zero]),⟨_,by rw[Bu,GK];rfl,hu⟩,rfl⟩,Bf⟩
def aE5(w:PB h bi b F)(g:Gz b n o a)(i:Item):Rb h F 160 [Pt bi 2,.agg i.row] (.tuple []) bi {b with AQ:=b.AQ++[i]}:=by obtain⟨d,e,c,tt,G,w,hc,rfl⟩:=w;have ho:=g.rm.AQ;obtain⟨u,r2,hu⟩:=f95 w.sO Ac i;exact⟨_,_,r2,⟨d,u,c,tt,G,w.HZ hu,hc,rfl⟩,Bf⟩
def PB.sA(w:PB h bi b F):me h (Pt bi 2) b.AQ:=by obtain⟨e,d,c,tt,G,w,hc,rfl⟩:=w;exact w.sA
def PB.MB(w:PB h bi b F):∃x,A7 h none (Pt bi 0)=some (Pt x 0):=by obtain⟨d,e,c,tt,G,w,hc,rfl⟩:=w;exact⟨d,w.l0⟩
def PB.Wv(w:PB h bi b F):A7 h none (Pt bi 1)=some (I b.CG)/\A7 h none (Pt bi 4)=some (I b.mode)/\A7 h none (Pt bi 5)=some (I b.Si)/\A7 h none (Pt bi 7)=some (I b.head)/\A7 h none (Pt bi 8)=some (I b.NH)/\A7 h none (Pt bi 14)=some (.bool b.fs)/\A7 h none (Pt bi 18)=some (I b.sw)/\A7 h none (Pt bi 19)=some (.bool b.stop):=by obtain⟨e,d,c,tt,G,w,hc,rfl⟩:=w;exact⟨w.ld 1,w.ld 4,w.ld 5,w.ld 7,w.ld 8,w.ld 14,w.ld 18,w.ld 19⟩
def PB.ltm(w:PB h bi b F):∃v,A7 h none (Pt bi 6)=some v/\TC b.tm v:=by obtain⟨e,d,c,tt,G,w,hc,rfl⟩:=w;exact⟨tt,w.l6,w.t⟩
def aE6(w:PB h bi b F)(g:Gz b n o a)(s:Aj):BG cx 194 [Pt bi 2,.str s] h (I (AV (Bw [s]) b.AQ)) h:=
 aAa w.sA (by have:=g.rm.AQ;omega) s
def aJ3(w:PB h bi b F)(i:Int):BG cx 184 [Pt bi 2,I i] h (.agg (EI b.AQ i).row) h:=Wj w.sA i
def rW(w:PB h bi b F):BG cx 183 [Pt bi 2] h (I (b.AQ.length:Int)) h:=Uz w.sA
def Wr(h:Ai)(F:Nat->Prop)(bi k:Nat)(v:Aa)(b':BS):Prop:=Cv h 1 (Pt bi k) v=some (put h bi k v)/\PB (put h bi k v) bi b' F/\DC h F (put h bi k v) F
def Pg(w:PB h bi b F)(v:Int):Wr h F bi 4 (I v) {b with mode:=v}:=by obtain⟨e,d,c,tt,G,w,hc,rfl⟩:=w;exact⟨w.st (k:=4) rfl rfl,⟨e,d,c,tt,G,w.put rfl rfl w.o w.t,hc,rfl⟩,Bf⟩
def Z_(w:PB h bi b F)(v:Int):Wr h F bi 7 (I v) {b with head:=v}:=by obtain⟨e,d,c,tt,G,w,hc,rfl⟩:=w;exact⟨w.st (k:=7) rfl rfl,⟨e,d,c,tt,G,w.put rfl rfl w.o w.t,hc,rfl⟩,Bf⟩
def aAV(w:PB h bi b F)(v:Bool):Wr h F bi 14 (.bool v) {b with fs:=v}:=by obtain⟨e,d,c,tt,G,w,hc,rfl⟩:=w;exact⟨w.st (k:=14) rfl rfl,⟨e,d,c,tt,G,w.put rfl rfl w.o w.t,hc,rfl⟩,Bf⟩
def aJ4(w:PB h bi b F){v:Aa}{l:List Int}(hv:TC l v):Wr h F bi 6 v {b with tm:=l}:=by obtain⟨e,d,c,tt,G,w,hc,rfl⟩:=w;exact⟨w.st (k:=6) (v0:=tt) rfl hv.1.cells,⟨e,d,c,v,G,w.mC hv,hc,rfl⟩,Bf⟩
end
def Ox(c:UInt8):Bool:=decide ((9<=c.toNat/\c.toNat<=13)\/c.toNat=32)
def wf:Aj->Aj->List Aj
 |cur,[]=>if cur=[] then[] else[cur]
 |cur,c::r=>if Ox c then(if cur=[] then wf [] r else cur::wf [] r) else wf (cur++[c]) r
def mP:Bool->Aj->Nat
 |_,[]=>0
 |w,c::r=>(if w&& !Ox c then 1 else 0)+mP (Ox c) r
def ic(b:Bool):Int:=if b then 1 else 0
def UN:∀{s cur:Aj},(wf cur s).length=(if cur=[] then 0 else 1)+mP (decide (cur=[])) s
 |[],cur=>by unfold wf mP;split<;>simp_all
 |c::r,cur=>by
  unfold wf mP;by_cases hc:Ox c=true
  .by_cases h0:cur=[];.simp[hc,h0,UN (s:=r) (cur:=[])]
   .simp[hc,h0,UN (s:=r) (cur:=[])];omega
  .have Kw:Ox c=false:=by simpa using hc
   by_cases h0:cur=[];.simp[Kw,h0,UN (s:=r) (cur:=[c])]
   .simp[Kw,h0,UN (s:=r) (cur:=cur++[c])]
def ij:∀{s cur:Aj},(wf cur s).length<=s.length+1
 |[],cur=>by unfold wf;split<;>simp
 |c::r,cur=>by
  unfold wf;have h1:=ij (s:=r) (cur:=[]);have h2:=ij (s:=r) (cur:=cur++[c]);split;.split<;>simp only[Bd]<;>omega
  .simp only[Bd];omega
def ir{c:UInt8}(k:Option Nat)(hk:k=none){h:Ai}:∃v,AD (.UY 256 1) [.CI Ho,.int .u8 (c.toNat:Int)]=some v/\A7 h k v=some (.int .u8 (ic (Ox c))):=by
 subst hk;have key:∀n:Nat,n<256->Ho[n]?=some (.int .u8 (ic (decide ((9<=n/\n<=13)\/n=32)))):=by intro n hn;have h1:∀n,n<256->N8[n]?=some (ic (decide ((9<=n/\n<=13)\/n=32))):=CA;rw[Ho,Cn,h1 n hn];rfl
 have hc:=c.toNat_lt;have hi:Mx (c.toNat:Int) 256=some c.toNat:=by unfold Mx;rw[Af Ac];rfl
 refine⟨.CI (Ho.drop (c.toNat*1)),by simp[AD,hi,Xs],?_⟩;rw[Yr,E8,Cr,FI,Bt,key _ hc];rfl
def aE7{s c:Nat}(hs:s<128)(hc:c<128):∃n:Nat,n<128/\AD (.int .or) [.int .u8 (s:Int),.int .u8 (c:Int)]=some (.int .u8 (n:Int)):=by
 have key:∀s:Nat,s<128->∀c:Nat,c<128->(match AD (.int .or) [.int .u8 (s:Int),.int .u8 (c:Int)] with|some (.int .u8 n)=>decide (0<=n/\n<128)|_=>false)=true:=CA;have h1:=key s hs c hc;split at h1;.rename_i n hv;have:=GN h1;exact⟨n.toNat,Ac,by rw[hv,Hh this.1]⟩
 .cases h1
def aE8(w i:Bool):∃v,AD (.un .xor) [I (ic i)]=some v/\AD (.int .and) [I (ic w),v]=some (I (if w&& !i then 1 else 0)):=by cases w<;>cases i<;>exact⟨_,rfl,rfl⟩
def aE9(i:Bool):IntKind.i64.wrap (ic i)=ic i:=by cases i<;>rfl
def iu{U:Type}(l:List U)(x y:U)(r:List U){k:Nat}(hk:k=l.length):(l++y::r).take k++[x]++(l++y::r).drop (k+1)=l++x::r:=by subst hk;simp
def aJ5(s:Aj)(hs:s.length<=1000000)(ha:∀c∈s,c.toNat<128)(h:Ai):BG cx 410 [.str s] h (.sl 1 ((wf [] s).map Cu)) (h++[.CR]):=by
 have bX:AW=140737488355328:=rfl;have O:=ij (s:=s) (cur:=[]);obtain⟨N,hNe⟩:∃N,N=(wf [] s).length:=⟨_,rfl⟩;rw[Ae,lJ,aHv];refine DK (i:=0) (λz:Nat×Bool×Nat×Nat=>[I (z.1:Int),I (ic z.2.1),.int .u8 (z.2.2.1:Int),I (z.2.2.2:Int)]) (λz h1=>h1=h/\z.2.2.2<=s.length/\z.2.2.1<128/\z.1+mP z.2.1 (s.drop z.2.2.2)=mP true s) (λz=>s.length-z.2.2.2) (λz h1=>h1=h/\z.2.2.1<128/\z.1=N) (0,true,0,0) rfl ⟨rfl,AY _,AP,AH⟩ ?_ ?_
 .rintro⟨n,w,bits,i⟩ h1 ⟨rfl,hi,hb,hn⟩;simp only at hi hb hn;rcases AR i s.length with hlt|Eh
  .obtain⟨bits',RP,y⟩:=aE7 hb (ha _ (AN hlt));obtain⟨v,J,H⟩:=ir (c:=s[i]) none rfl (h:=h1);obtain⟨v2,p,d⟩:=aE8 w (Ox s[i]);have M:mP true s<=s.length+1:=by have:=UN (s:=s) (cur:=[]);simp at this;omega
   rw[AG hlt,mP] at hn;have u:=OY (a:=(n:Int)) (b:=if w&& !Ox s[i] then 1 else 0) (by split<;>omega) (by split<;>omega);have t:((n:Int)+if(w&& !Ox s[i])=true then 1 else 0)=((n+if(w&& !Ox s[i])=true then 1 else 0:Nat):Int):=by split<;>simp
   simp only[abS,(Ac:(i:Int)<(s.length:Int)),Fx hlt,y,J,H,QN,aE9,p,d,u,t,BN (Ac:i<9223372036854775807)];exact .next (_,Ox s[i],bits',i+1) rfl ⟨rfl,hlt,RP,Dv⟩ Dv
  .simp only[abS,(Ac:¬(i:Int)<(s.length:Int))];refine .HN (n,w,bits,i) rfl ⟨rfl,hb,?_⟩;rw[AZ Eh,mP] at hn;have:=UN (s:=s) (cur:=[]);simp at this;simp only;omega
 rintro⟨n,w,bits,i⟩ h1 ⟨rfl,hb,hn⟩;simp only at hb hn;subst hn;have y:SH h1 1 16 [S []] (I (n:Int)) (I (n:Int))=some (h1++[.cells (List.replicate n [S []]).flatten],.CE h1.length 0 n 1):=by simp only[SH];rw[Af ⟨Ac,Ac,Ei,rfl⟩];simp
 have J:(List.replicate n [S []]).flatten=List.replicate n (S []):=by
  clear y hNe O;induction n with
  |zero=>rfl
  |succ n ih=>rw[Lo,CZ,ih];rfl
 rw[J] at y;have H:¬(128:Int)<=(bits:Int):=Ac;simp only[abS,H];refine sZ y ?_;refine DK (i:=2) (λi:Nat=>[I (i:Int)]) (λi h2=>h2=h1++[.cells (List.replicate n (S []))]/\i<=s.length/\wf [] s=wf [] (s.drop i)) (λi=>s.length-i) (λi h2=>h2=h1++[.cells (List.replicate n (S []))]/\i<=s.length/\wf [] s=wf [] (s.drop i)/\∀hi:i<s.length,Ox s[i]=false) 0 rfl ⟨rfl,AY _,rfl⟩ ?_ ?_
 .rintro i h2 ⟨rfl,hi,hw⟩;rcases AR i s.length with hlt|Eh
  .obtain⟨v,p,d⟩:=ir (c:=s[i]) none rfl (h:=h1++[.cells (List.replicate n (S []))]);cases hsp:Ox s[i] with
   |true=>rw[hsp] at d;simp only[abS,(Ac:(i:Int)<(s.length:Int)),Fx hlt,p,d,ic,↓reduceIte,(AP:(1:Int)≠0),B7,BN (Ac:i<9223372036854775807)];rw[AG hlt,wf,hsp] at hw;exact .next (i+1) rfl ⟨rfl,hlt,by simpa using hw⟩ Ac
   |false=>rw[hsp] at d;simp only[abS,(Ac:(i:Int)<(s.length:Int)),Fx hlt,p,d,ic,Cx,↓reduceIte,B7];exact .HN i rfl ⟨rfl,hi,hw,λ_=>hsp⟩
  .simp only[abS,(Ac:¬(i:Int)<(s.length:Int))];exact .HN i rfl ⟨rfl,hi,hw,λh=>absurd h Ac⟩
 rintro i0 h2 ⟨rfl,wY,C,qk⟩;simp only[BE];refine DK (i:=4) (λz:List Aj×Nat×Nat=>[I (z.1.length:Int),I (z.2.1:Int),I (z.2.2:Int)]) (λz h2=>h2=h1++[.cells (z.1.map Aa.str++List.replicate (n-z.1.length) (S []))]/\z.2.1<=z.2.2/\z.2.2<=s.length/\z.1++wf ((s.take z.2.2).drop z.2.1) (s.drop z.2.2)=wf [] s/\(z.2.1=z.2.2->∀hi:z.2.2<s.length,Ox s[z.2.2]=false)) (λz=>s.length-z.2.2)
  (λz h2=>h2=h1++[.cells (z.1.map Aa.str++List.replicate (n-z.1.length) (S []))]/\z.2.1<=s.length/\z.1++wf (s.drop z.2.1) []=wf [] s) ([],i0,i0) rfl ⟨AH,Ag _,wY,by simp[C,Pv],λ_=>qk⟩ ?_ ?_
 .rintro⟨dn,f,i⟩ h2 ⟨rfl,hf,hi,hw,hz⟩;simp only at hf hi hw hz;have sN:dn.length<=n:=by rw[hNe,<-hw,Au];omega
  rcases AR i s.length with hlt|Eh
  .obtain⟨v,p,d⟩:=ir (c:=s[i]) none rfl (h:=h1++[.cells (dn.map Aa.str++List.replicate (n-dn.length) (S []))]);rw[AG hlt] at hw;cases hsp:Ox s[i] with
   |false=>
    rw[hsp] at d;simp only[abS,(Ac:(i:Int)<(s.length:Int)),Fx hlt,p,d,ic,Cx,↓reduceIte,BN (Ac:i<9223372036854775807)];rw[wf,hsp] at hw;refine .next (dn,f,i+1) rfl ⟨rfl,Dv,hlt,?_,λe=>by simp only at e;omega⟩ Dv
    simp only
    rw[Yv hf hlt];simpa using hw
   |true=>
    rw[hsp] at d;have aAg:f<i:=by
     rcases AR f i with h|h
     .exact h
     .have:=hz Ac hlt;rw[hsp] at this;cases this
    have aOV:(s.take i).drop f≠[]:=by intro e;have:=Cc List.length e;simp at this;omega
    rw[wf,hsp] at hw;simp only[BJ,aOV,DF] at hw;have m:dn.length<n:=by rw[hNe,<-hw];simp
    have u:AD (.Ff 1) [.CE h1.length 0 n 1,I (dn.length:Int)]=some (Pt h1.length dn.length):=by have:=E1 (id:=h1.length) (z:=1) (n:=n) (k:= .i64) m;rwa [FI] at this
    have hcl:(dn.map Aa.str++List.replicate (n-dn.length) (S [])).length=n:=Ei;have t:Cv (h1++[.cells (dn.map Aa.str++List.replicate (n-dn.length) (S []))]) 1 (Pt h1.length dn.length) (.str ((s.take i).drop f))=some (h1++[.cells ((dn++[(s.take i).drop f]).map Aa.str++List.replicate (n-(dn++[(s.take i).drop f]).length) (S []))]):=by have F:(h1++[Dx.cells (dn.map Aa.str++List.replicate (n-dn.length) (S []))])[h1.length]?=some (.cells (dn.map Aa.str++List.replicate (n-dn.length) (S []))):=AH;simp only[Cv,F,QP,A9];rw[Af ⟨trivial,by rw[hcl];omega⟩,BH _ _ (Ag _),C5];have E:n-dn.length=(n-(dn.length+1))+1:=Ac;have D:(dn.map Aa.str).length=dn.length:=Ao ..;simp only[Mb,Bu,Bj,C4,Au,A9];rw[E,Lo,iu _ _ _ _ D.symm];simp
    simp only[abS,(Ac:(i:Int)<(s.length:Int)),Fx hlt,p,d,ic,↓reduceIte,(AP:¬(1:Int)=0),MH (z:=0) (k:= .i64) (l:= .i64) (Ac:f<=i) hi,u,t,BN (Ac:dn.length<9223372036854775807),BN (Ac:i<9223372036854775807)];refine DK (i:=6) (λj:Nat=>[I (j:Int)]) (λj h2=>h2=h1++[.cells ((dn++[(s.take i).drop f]).map Aa.str++List.replicate (n-(dn++[(s.take i).drop f]).length) (S []))]/\i<j/\j<=s.length/\wf [] (s.drop (i+1))=wf [] (s.drop j)) (λj=>s.length-j) (λj h2=>h2=h1++[.cells ((dn++[(s.take i).drop f]).map Aa.str++List.replicate (n-(dn++[(s.take i).drop f]).length) (S []))]/\i<j/\j<=s.length/\wf [] (s.drop (i+1))=wf [] (s.drop j)/\∀hj:j<s.length,Ox s[j]=false) (i+1) rfl ⟨rfl,Ac,hlt,rfl⟩ ?_ ?_
    .rintro j h2 ⟨rfl,o,hj,uF⟩;rcases AR j s.length with bK|L
     .obtain⟨v,K,A⟩:=ir (c:=s[j]) none rfl (h:=h1++[.cells ((dn++[(s.take i).drop f]).map Aa.str++List.replicate (n-(dn++[(s.take i).drop f]).length) (S []))]);cases g:Ox s[j] with
      |true=>rw[g] at A;simp only[abS,(Ac:(j:Int)<(s.length:Int)),Fx bK,K,A,ic,↓reduceIte,(AP:(1:Int)≠0),B7,BN (Ac:j<9223372036854775807)];rw[AG bK,wf,g] at uF;exact .next (j+1) rfl ⟨rfl,Ac,bK,by simpa using uF⟩ Ac
      |false=>rw[g] at A;simp only[abS,(Ac:(j:Int)<(s.length:Int)),Fx bK,K,A,ic,Cx,↓reduceIte,B7];exact .HN j rfl ⟨rfl,o,hj,uF,λ_=>g⟩
     .simp only[abS,(Ac:¬(j:Int)<(s.length:Int))];exact .HN j rfl ⟨rfl,o,hj,uF,λh=>absurd h Ac⟩
    .rintro j h2 ⟨rfl,o,hj,uF,B⟩;simp only[BE,↓reduceIte];refine .next (dn++[(s.take i).drop f],j,j) AH ⟨rfl,Ag _,hj,?_,λ_=>B⟩ Dv
     simp only[Pv];rw[<-uF,AI];exact hw
  .simp only[abS,(Ac:¬(i:Int)<(s.length:Int))];have hie:i=s.length:=Ac;refine .HN (dn,f,i) rfl ⟨rfl,Dv,?_⟩;simp only
   rw[AZ Eh,hie,Bx] at hw;exact hw
 .rintro⟨dn,f,i⟩ h2 ⟨rfl,hf,hw⟩;simp only at hf hw;have fz:∀l:List Aj,l=wf [] s->KT (h1++[.cells (l.map Aa.str)]) (.CE h1.length 0 n 1)=some (h1++[.CR],.sl 1 ((wf [] s).map Cu)):=by
   rintro l rfl;have hr:∀r∈(wf [] s).map Cu,r.length=1:=λr hr=>by obtain⟨w,_,rfl⟩:=Bn.1 hr;rfl
   have P:((wf [] s).map Cu).flatten=(wf [] s).map Aa.str:=by
    generalize wf [] s=q;induction q with
    |nil=>rfl
    |cons x q ih=>simp[Cu,ih]
   have:=Ke (h:=h1++[.cells ((wf [] s).map Aa.str)]) (id:=h1.length) hr (by rw[P];simp);rw[Ao,<-hNe] at this;rw[this,BH _ _ (Ag _),C5];rfl
  rcases AR f s.length with hlt|Eh
  .have hne:s.drop f≠[]:=by intro e;have:=Cc List.length e;simp at this;omega
   rw[wf,Ad hne] at hw;have m:n=dn.length+1:=by rw[hNe,<-hw];simp
   have u:AD (.Ff 1) [.CE h1.length 0 n 1,I (dn.length:Int)]=some (Pt h1.length dn.length):=by have:=E1 (id:=h1.length) (z:=1) (n:=n) (k:= .i64) (Ac:dn.length<n);rwa [FI] at this
   have t:Cv (h1++[.cells (dn.map Aa.str++List.replicate (n-dn.length) (S []))]) 1 (Pt h1.length dn.length) (.str (s.drop f))=some (h1++[.cells ((dn++[s.drop f]).map Aa.str)]):=by have F:(h1++[Dx.cells (dn.map Aa.str++List.replicate (n-dn.length) (S []))])[h1.length]?=some (.cells (dn.map Aa.str++List.replicate (n-dn.length) (S []))):=AH;have E:n-dn.length=1:=Ac;have D:(dn.map Aa.str).length=dn.length:=Ao ..;simp only[Cv,F,QP,A9];rw[Af ⟨trivial,Ei⟩,BH _ _ (Ag _),C5,E,show List.replicate 1 (S [])=S []::[] from rfl,iu _ _ _ _ D.symm];simp
   simp only[abS,(Ac:(f:Int)<(s.length:Int)),Uk (z:=0) (k:= .i64) (Ac:f<=s.length),u,t,fz _ hw]
  .rw[AZ Eh,wf] at hw;simp only[BJ,By] at hw;have m:n-dn.length=0:=by rw[hNe,<-hw];omega
   have G:=fz _ hw;rw[m,List.replicate_zero,By];simp only[abS,(Ac:¬(f:Int)<(s.length:Int)),G]
section
variable{h h':Ai}{bi:Nat}{b b':BS}{F:Nat->Prop}{n o a:Nat}{t:FF}{av:Aa}
def aJ6(lo hi r:Int)(h:Ai):BG cx 414 [.int .i32 r,.CI [.int .i32 lo],.CI [.int .i32 hi]] h (.bool (decide (lo<=r/\r<=hi))) h:=by rw[Ae,Xk];simp only[BE];refine⟨λh1=>by simp[h1],λh1=>by simp[h1]⟩
def VN(p:Int×Int):List Aa:=[.func (.func 414) [] [.CI [.int .i32 p.1],.CI [.int .i32 p.2]]]
def aJ7{L:List (Int×Int)}(g:L.length<=1000)(r:Int)(h:Ai):BG cx 413 [.int .i32 r,.CI [.sl 1 (L.map VN)]] h (.bool (L.any λp=>decide (p.1<=r/\r<=p.2))) h:=by
 have hv:AU 1 (L.map VN) (.sl 1 (L.map VN)):= .mk;have e:=AU.CN hv;rw[Ae,lK];simp only[BE,e];refine Bm (λn:Nat=>[ff,I (n:Int)]) (λn h1=>n<=L.length/\h1=h/\L.any (λp=>decide (p.1<=r/\r<=p.2))=(L.drop n).any λp=>decide (p.1<=r/\r<=p.2)) (λn=>L.length-n) 0 rfl ⟨AY _,rfl,rfl⟩ ?_;rintro n h1 ⟨hn,rfl,ha⟩;rcases AR n L.length with hlt|Eh
 .have c:=AU.BL (k:= .i64) hv hlt;have f:∀x y:Int,Dh (.func (.func 414) [] [.CI [.int .i32 x],.CI [.int .i32 y]]) [.int .i32 r]=some (414,[.int .i32 r,.CI [.int .i32 x],.CI [.int .i32 y]]):=λ_ _=>rfl;have d:=aJ6 L[n].1 L[n].2 r h1;rw[AG hlt,NV] at ha;rw[VN] at c;simp only[abS,(Ac:(n:Int)<(L.length:Int)),c,f,d.Ab,BN (Ac:n<9223372036854775807)];refine⟨λh2=>?_,λh2=>?_⟩;.rw[ha];simp[h2]
  .rw[Ah h2,Ht] at ha;exact AK.next (n+1) rfl ⟨hlt,rfl,ha⟩ Ac
 .rw[AZ Eh] at ha;simp only[abS,(Ac:¬(n:Int)<(L.length:Int)),ha,UX]
def aOX(r:Int):JX cx 233 [.int .i32 r] (.bool (decide (Zz r))):=by
 have d:∀(lo hi:Int) (h:Ai),BG cx 361 [.int .i32 lo,.int .i32 hi] h (.func (.func 414) [] [.CI [.int .i32 lo],.CI [.int .i32 hi]]) h:=λlo hi h=>by rw[Ae,Tv];simp only[BE]
 have g:∀(v:Aa) (h:Ai),v.cells=[v]->BG cx 360 [v] h (.func (.func 413) [] [.CI [v]]) h:=λv h hv=>by rw[Ae,Xf];simp only[BE,hv]
 have e:=aJ7 (L:=[(9,10),(12,13),(32,32)]) AP r [];have c:AD (.Dk 1) [.func (.func 414) [] [.CI [.int .i32 9],.CI [.int .i32 10]],.func (.func 414) [] [.CI [.int .i32 12],.CI [.int .i32 13]],.func (.func 414) [] [.CI [.int .i32 32],.CI [.int .i32 32]]]=some (.sl 1 ([((9:Int),(10:Int)),(12,13),(32,32)].map VN)):=rfl;have f:∀v:Aa,Dh (.func (.func 413) [] [v]) [.int .i32 r]=some (413,[.int .i32 r,v]):=λ_=>rfl;have r2:=g (.sl 1 ([((9:Int),(10:Int)),(12,13),(32,32)].map VN)) [] rfl;have e0:decide (Zz r)=([((9:Int),(10:Int)),(12,13),(32,32)].any λp=>decide (p.1<=r/\r<=p.2)):=by
  have c:Zz r↔((9<=r/\r<=10)\/(12<=r/\r<=13)\/(32<=r/\r<=32)):=by unfold Zz;omega
  simp only[NV,UX,JQ,<-Bool.decide_or,Dd];exact c
 rw[e0,Ml,W9];simp only[BE,(d 9 10 []).Ab,(d 12 13 []).Ab,(d 32 32 []).Ab,c,r2.Ab,f,e.Ab]
structure NU(l:Aj)(ws:List Aj):Prop where
 len:l.length<=1000000
 asc:∀c∈l,c.toNat<128
 wf:wf [] l=ws
def Sr{l:Aj}{ws:List Aj}(h:(decide (l.length<=1000000)&&l.all (λc=>decide (c.toNat<128))&&decide (wf [] l=ws))=true):NU l ws:=by simp only[Bv,CO,Db] at h;exact⟨h.1.1,h.1.2,h.2⟩
def NU.few{l:Aj}{ws:List Aj}(w:NU l ws):ws.length<=1000001:=by have:=ij (s:=l) (cur:=[]);have:=w.len;rw[<-w.wf];omega
def aAW{l:Aj}{ws:List Aj}(w:NU l ws)(h:Ai):BG cx 368 [.str l] h (.sl 1 (ws.map Cu)) (h++[.CR]):=by have c:=aJ5 l w.len w.asc h;rw[w.wf] at c;rw[Ae,kU];simp only[BE,c.Ab]
def aFa{l:Aj}{ws:List Aj}(w:NU l ws)(s:Aj):JX cx 243 [.str s,.str l] (.bool (decide (s∈ws))):=by have c:BG cx 368 _ [] _ [.CR]:=aAW w [];have r2:=ſ (C1 (ws:=ws)) (by have:=w.few;omega) s [Dx.CR];rw[Ml,Xb];simp only[BE,c.Ab,r2.Ab]
def He{l:Aj}{ws:List Aj}(w:NU l ws)(t:FF)(av:Aa)(h:Ai):BG cx 114 [.agg (Cl t av),.str l] h (.bool (decide (t.st ws))) h:=by
 rw[Ae,gX];simp only[BE,(aFa w t.name).B6 rfl rfl];refine⟨λh1=>?_,λh1=>?_⟩;.congr 2;unfold FF.st;simp[h1]
 .unfold FF.st;simp[h1]
def mQ{l:Aj}{ws:List Aj}(w:NU l ws)(t:FF)(av:Aa)(h:Ai):BG cx 117 [.agg (Cl t av),.str l] h (.bool (decide (t.en ws))) h:=by
 rw[Ae,gZ];simp only[BE,(aFa w t.name).B6 rfl rfl];refine⟨λh1=>?_,λh1=>?_⟩;.congr 2;unfold FF.en;simp[h1]
 .unfold FF.en;simp[h1]
def mR{l:Aj}{ws:List Aj}(w:NU l ws)(t:FF)(av:Aa)(h:Ai):BG cx 113 [.agg (Cl t av),.str l] h (.bool (decide (t.Zy ws))) h:=by
 rw[Ae,gW];simp only[BE,(aFa w t.name).B6 rfl rfl];refine⟨λh1=>?_,λh1=>?_⟩;.congr 2;unfold FF.Zy;simp[h1]
 .unfold FF.Zy;simp[h1]
def mS(t:FF)(av:Aa)(h:Ai):BG cx 107 [.agg (Cl t av)] h (.bool (decide t.ED)) h:=by
 rw[Ae,gU];simp only[BE,(aOX t.r).B6 rfl rfl];refine⟨λh1=>?_,λh1=>?_⟩;.congr 2;unfold FF.ED;simp[h1]
 .unfold FF.ED;simp[h1]
def aQ(w:PB h bi b F)(t:FF)(av:Aa):BG cx 105 [Pt bi 0,.agg (Cl t av)] h (.bool (decide t.ok)) h:=by
 obtain⟨x,l0⟩:=w.MB;rw[Ae,gT];simp only[abS,l0];refine⟨λh1=>?_,λh1=>?_⟩;.congr 2;unfold FF.ok;simp[h1]
 .unfold FF.ok;simp[h1]
def aJ8(nm:Aj)(h:Ai):BG cx 115 [.str nm] h (.agg (Cl (Ra nm) .slnil)) h:=by rw[Ae,gY];simp only[abS,Nat.reduceLeDiff,↓reduceIte,AT,Ra]
def aAX(w:PB h bi b F)(m:Int):Rb h F 109 [Pt bi 0,I m] tt bi (b.again m).1:=by obtain⟨d,w1,c⟩:=Pg w m;refine⟨_,_,?_,w1,c⟩;rw[Ae,gV];simp only[BE,d]
def À(w:PB h bi b F)(g:Gz b n o a):BG cx 124 [Pt bi 0] h (.bool (decide b.gC)) h:=by rw[Ae,iA];simp only[BE,(aE6 w g AM).Ab];rfl
def aOZ(w:PB h bi b F)(g:Gz b (n+4) o a)(ht:t.Sm)(hv:Bi t.Av av):Rb h F 116 [Pt bi 0,.agg (Cl t av)] (.tuple []) bi (b.ZA t):=by obtain⟨h1,i,f,w1,d⟩:=VM w g ht hv;obtain⟨h2,F2,r2,e,c⟩:=rV w1 (g.FA ht);refine⟨h2,F2,?_,e,d.trans c⟩;rw[Ae,WR];simp only[BE,f.Ab,r2.Ab]
end
end Go.Am
end
