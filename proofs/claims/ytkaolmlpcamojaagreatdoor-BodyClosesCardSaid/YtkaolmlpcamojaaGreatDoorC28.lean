/- Lemmas -/
import Derived.Test.YtkaolmlpcamojaaGreatDoorC27
set_option linter.all false
noncomputable section
set_option maxHeartbeats 0
set_option maxRecDepth 100000
section
namespace Go.Am
open Go
def Vn{nm:Ai}:∀{r:List Cp} {j:Nat},P4 nm r=(j:Int)->∃hj:j<r.reverse.length,r.reverse[j].node≠0
 |[],j,e=>by rw[P4] at e;omega
 |x::r,j,e=>by
  rw[P4] at e;split at e;.omega
  .rename_i h0;split at e
   .have d:j=r.reverse.length:=by rw[KZ];omega
    subst d;exact⟨AH,by simpa using h0⟩
   .obtain⟨hj,h1⟩:=Vn e;refine⟨by simp at hj⊢;omega,?_⟩;simp only[Ee];rw[Gl hj];exact h1
def vT{nm:Ai}{l:List Cp}{f:Nat}(e:GF nm l=(f:Int)):∃hf:f<l.length,l[f].node≠0:=by unfold GF at e;obtain⟨hj,h⟩:=Vn e;simp only[Fh] at hj h;exact⟨hj,h⟩
def Y9{l:List Cp}{n:Int}{q:Nat}(e:Fe n l=(q:Int)):pY n l=Bf l q:=by unfold pY;rw[e,Af Ab,AY]
section
variable{h h':Ah}{bi a:Nat}{o c t:Aa}{G G' F:Nat->Prop}{b:BS}{x:Int}{m:Nat}
variable{nm:Ai}{av:Aa}{l:List A5}{r:List Aa}{sp p:Int}
def B2.aIX{d:List Cp}(hc:B2 d c)(hb:d.length<=900000000)(nm:Ai)(h:Ah):BL cx 353 [c,.str nm] h (I (GF nm d)) h:=by obtain⟨fs,Gu,hv⟩:=hc;have:=aMi (h:=h) hv (by rw[<-Gu,An] at hb;omega) nm;rwa [br,Gu] at this
def aIY(w:RX h bi a o c t G b)(hc:B2 b.A6 c)(ok:Ey b)(rm:B6 b (m+4*b.AN.length+10))(hnm:Nm b.a)(nm:Ai):
  ∃h' o' c' G',BL cx 224 [Pt bi 0,.str nm] h (.bool (b.round nm).1) h'/\RX h' bi a o' c' t G' (b.round nm).2/\B2 (b.round nm).2.A6 c'/\DC h (Bu bi G) h' (Bu bi G'):=by
 have ho:=rm.AN;have QE:=rm.A6;have VE:∀i∈b.AN,i.name.length<9223372036854775807:=λi hi=>by have:=rm.VM i hi;omega
 have l3:=w.l3;have ld:A8 h none (Pt bi 2)=some o:=w.ld 2;have Q:=hc.aIX Ab nm h;by_cases hf:GF nm b.A6<0
 .obtain⟨h2,o2,r2,X,x2⟩:=aEb w rm nm;have e:b.round nm=(false,b.CO nm):=by unfold BS.round;simp only;rw[Af hf]
  have ea:(b.CO nm).A6=b.A6:=by
   unfold BS.CO;split;.split<;>rfl
   .rfl
  rw[e];refine⟨h2,o2,c,G,?_,X,by rw[ea];exact hc,x2⟩;rw[Ae,QH];simp only[abS,l3,Q.Ac,hf,r2.Ac]
 obtain⟨f,Hp,W⟩:=Tk (Jt.1 hf);obtain⟨_,Ţ⟩:=vT W;have qU:¬(f:Int)<0:=Ab;rw[W] at Q;have Jm:=hc;obtain⟨fs,Gu,hv⟩:=Jm;have aNe:b.A6.length=fs.length:=by rw[<-Gu,An]
 have efp:fs[f].c=b.A6[f]:=by simp only[<-Gu,C1]
 have Y:=AU.BK (k:= .i64) hv (Ab:f<fs.length);have YW:=b_ ok.jt Hp Ţ;have KE:=rm.DE _ (AL Hp);have WU:b.A6.getD f Cp.zero=b.A6[f]:=by rw[AJ,Al Hp];rfl
 rw[<-efp] at YW KE WU Ţ;generalize hfe:fs[f]=fe at*;have lg:fe.v.cells=[fe.v]:=AU.cells fe.ok;rw[Cl.row] at Y;have r2:=ZO (h:=h) w.o Ab fe.c.node;by_cases hk:AT (Br fe.c.node) b.AN<0
 .obtain⟨h2,c2,J,X,I0,x2⟩:=yu w hc Ab fe.c.node;rw[Y9 YW] at X I0;have e:b.round nm=(false,{b with A6:=Bf b.A6 f}):=by unfold BS.round;simp only;rw[Ad hf,W,AY,WU,Af hk]
  rw[e];refine⟨h2,o,c2,G,?_,X,I0,x2⟩;rw[Ae,QH];simp only[abS,Nat.reduceLeDiff,↓reduceIte,l3,Q.Ac,qU,Y,ld,r2.Ac,hk,J.Ac]
 obtain⟨k,V⟩:∃k:Nat,AT (Br fe.c.node) b.AN=(k:Int):=⟨_,(GX (Jt.1 hk)).symm⟩;obtain⟨Ql,hkq,_⟩:=IM V;have o8:¬(k:Int)<0:=Ab;rw[V] at r2;have J:=aG1 (h:=h) w.o Ab VE 1 fe.c.node;by_cases Q4:HI (Br fe.c.node) (Hw 1) b.AN.reverse=false
 .have e:b.round nm=(false,b):=by unfold BS.round;simp only;rw[Ad hf,W,AY,WU,Ad hk,Af (.inr Q4)]
  rw[e];refine⟨h,o,c,G,?_,w,hc,.refl⟩;rw[Q4] at J;rw[Ae,QH];simp only[abS,Nat.reduceLeDiff,↓reduceIte,l3,Q.Ac,qU,Y,ld,r2.Ac,o8,A0,J.Ac]
 have aDV:HI (Br fe.c.node) (Hw 1) b.AN.reverse=true:=by simpa using Q4
 rw[aDV] at J;by_cases hkz:k=0
 .have e:b.round nm=(false,b):=by unfold BS.round;simp only;rw[Ad hf,W,AY,WU,Ad hk,Af (.inl (by rw[V,hkz];rfl))]
  rw[e];refine⟨h,o,c,G,?_,w,hc,.refl⟩;rw[Ae,QH];simp only[abS,Nat.reduceLeDiff,↓reduceIte,l3,Q.Ac,qU,Y,ld,r2.Ac,o8,A0,J.Ac,AQ (Ab:(k:Int)=0)]
 have pQ:¬(k:Int)=0:=Ab;have r4:=aMa (h:=h) w.o Ab VE fe.c.node;have hor:¬(AT (Br fe.c.node) b.AN=0\/HI (Br fe.c.node) (Hw 1) b.AN.reverse=false):=by rw[V];rintro(h|h);exact pQ h;exact Q4 h
 by_cases hfa:D3 fe.c.node b.AN<0
 .have e:b.round nm=(false,{b with AN:=GU fe.c.node b.AN,A6:=Bf b.A6 f}):=by unfold BS.round;simp only;rw[Ad hf,W,AY,WU,Ad hk,Ad hor,Af hfa]
  obtain⟨u,t1,r5,hu⟩:=aG4 (h:=h) w.o Ab fe.c.node;have w1:=w.HJ (u:=t1);have X:=w1.HU hu;obtain⟨h3,c3,r6,w3,Nv,x3⟩:=yu X hc Dx fe.c.node;simp only at w3 Nv;rw[Y9 YW] at w3 Nv;rw[e];refine⟨h3,u,c3,G,?_,w3,Nv,(w.C6.trans Bg).trans x3⟩;rw[Ae,QH];simp only[abS,Nat.reduceLeDiff,↓reduceIte,l3,Q.Ac,qU,Y,ld,r2.Ac,o8,A0,J.Ac,pQ,r4.Ac,hfa,r5.Ac,w1.st (k:=2) (v0:=o) rfl (AU.cells hu),r6.Ac]
 obtain⟨N,hN,eN⟩:∃N:Nat,k+1+N<b.AN.length/\D3 fe.c.node b.AN=((k+1+N:Nat):Int):=by
  have vM:=hfa;rw[IH,Ad hk,V,AY] at vM⊢;unfold EZ at vM⊢;split at vM;.rename_i j hj;have:=(EI.1 hj).1;rw[Bd] at this;exact⟨j,Ab,Ab⟩
  .omega
 have e2:=AU.BK (k:= .i64) w.o hN;have e3:=AU.BK (k:= .i64) w.o (Ab:k-1<b.AN.length);obtain⟨d,ki⟩:∃d,d=b.AN[k+1+N]:=⟨_,rfl⟩;obtain⟨an,œ⟩:∃an,an=b.AN[k-1]'(by omega):=⟨_,rfl⟩;rw[<-ki,Item.row] at e2;rw[<-œ,Item.row] at e3;have sn:b.AN.getD (k+1+N) Item.zero=d:=by rw[AJ,Al hN,ki];rfl
 have hga:b.AN.getD (k-1) Item.zero=an:=by rw[AJ,Al Ab,œ];rfl
 have e:b.round nm=(true,BS.GH fe.c d.node an.node (BS.KC d.node an.node (k+1+N) k N (b,d.node,f))):=by
  unfold BS.round;simp only
  rw[Ad hf,W,AY,WU,Ad hk,Ad hor,Ad hfa,V,eN,AY,AY,sn,hga,(Ab:k+1+N-1 -k=N)]
 have lj:=ok.op d (by rw[ki];exact AL _);have aDW:b.AN[k].node=fe.c.node:=by simpa[Br] using hkq
 have š:b.a.has fe.c.node:=by rw[<-aDW];exact(ok.op _ (AL _)).1
 have VI:=Il (n:=k) Ab Ab;have le0:=(Wo (blk:=d.node) (anc:=an.node) (far:=k+1+N) (k:=k) (c:=N) (s:=(b,d.node,f)) ok lj.1).2.2;obtain⟨h5,o5,c5,G5,s',r7,es,i⟩:=aIU (m:=m+10) (anc:=an.node) (fe:=fe.c.node) (f:=f) w hc ok (rm.le Ab) hnm hN Ab ki.symm V (by rw[YW];omega) š;rw[<-es] at le0 e;obtain⟨q,hq,ku,hq0,hq2,hq3⟩:=HC i.Wh;have hmk:=i.mkb;have r8:=db i.w i.ok.ba i.rm i.nm an.node;obtain⟨h7,G7,r9,w7,x7⟩:=da i.w i.ok.ba i.rm (s'.1.place an.node).1 s'.2.1 (s'.1.place an.node).2;have le7:Le s'.1.a (s'.1.a.Ex s'.2.1 (s'.1.place an.node).1 (s'.1.place an.node).2):=I9;have R:=i.ok.KD (OG (n:=s'.2.1) (p:=(s'.1.place an.node).1) (b:=(s'.1.place an.node).2) i.ok.ok) le7;have O:=i.rm.KD (J6 (x:=s'.2.1) (p:=(s'.1.place an.node).1) (bf:=(s'.1.place an.node).2));have nm7:Nm (s'.1.a.Ex s'.2.1 (s'.1.place an.node).1 (s'.1.place an.node).2):=i.nm.Ex;obtain⟨b2,Od⟩:∃b2,b2={s'.1 with a:=s'.1.a.Ex s'.2.1 (s'.1.place an.node).1 (s'.1.place an.node).2}:=⟨_,rfl⟩;have Zh:b2.AN=s'.1.AN:=by rw[Od]
 have I0:b2.A6=s'.1.A6:=by rw[Od]
 have le2:Le s'.1.a b2.a:=by rw[Od];exact le7
 have nm2:Nm b2.a:=by rw[Od];exact nm7
 rw[<-Od] at w7 R O;have hr:N2 fe.c.name fe.v [I 2,.str fe.c.name,ff,S [],ff,S [],ff,ff,fe.v,ff,S [],.int .i32 0]:=⟨I 2,ff,S [],ff,S [],ff,ff,ff,S [],.int .i32 0,rfl⟩;obtain⟨h8,G8,r11,w8,x8⟩:=ŭ (m:=m+7) w7 R.ba (O.le Ab) nm2 hr fe.ok KE.2 KE.1 d.node 1;obtain⟨G_,fr,le8⟩:=P5 (nm:=fe.c.name) (at_:=fe.c.Ay) (p:=d.node) R JV;have ţ:=Ja (m:=m+7) (nm:=fe.c.name) (l:=fe.c.Ay) (sp:=1) (p:=d.node) (O.le Ab) KE.2;obtain⟨g,hnw⟩:∃g,g=b2.GA fe.c.name fe.c.Ay 1:=⟨_,rfl⟩;obtain⟨b3,nl⟩:∃b3,b3=b2.Er fe.c.name fe.c.Ay 1 d.node:=⟨_,rfl⟩;have ho3:b3.AN=s'.1.AN:=by rw[nl,<-Zh];unfold BS.Er;rw[Af JV]
 have Nv:b3.A6=s'.1.A6:=by rw[nl,<-I0];unfold BS.Er;rw[Af JV]
 rw[<-hnw] at r11 fr;rw[<-nl] at w8 G_ fr le8 ţ;have aIk:(b3.a.nd d.node).Bb.length<=1000000000:=ţ.Zm.Bb G_.ok d.node;obtain⟨kv,r12,bo⟩:∃v,BL cx 212 [Pt a 0,I d.node] h8 v h8/\D4 (b3.a.nd d.node).Bb v:=by obtain⟨n,i,ps,wa,_⟩:=w8.w;exact ym wa aIk
 have bU:=λ(y:Item)=>@Item.CP y;have I2:Ev cx 224 [Pt bi 0,.str nm] h λr h'=>r= .bool true/\∃o' c' G',RX h' bi a o' c' t G' (BS.GH fe.c d.node an.node s')/\B2 (BS.GH fe.c d.node an.node s').A6 c'/\DC h (Bu bi G) h' (Bu bi G'):=by
  unfold Ev;rw[QH];simp only[abS,Nat.reduceLeDiff,↓reduceIte,E9,l3,Q.Ac,qU,Y,ld,r2.Ac,o8,A0,J.Ac,pQ,r4.Ac,eN,(Ab:¬((k+1+N:Nat):Int)<0),e2,VI,e3];simp only[abS,Nat.reduceLeDiff,↓reduceIte,AR,r7.Ac,r8.Ac,r9.Ac,lg];simp only[abS,↓reduceIte,E9,r11.Ac,bU,w8.l0,r12.Ac];have x8':DC h (Bu bi G) h8 (Bu bi G8):=(i.x.trans x7).trans x8;have hvl:=AU.CN bo;refine DM (i:=0) (λj:Nat=>[I (j:Int)]) (λj U=>j<=(b3.a.nd d.node).Bb.length/\∃L,RX U bi a o5 c5 t L {b3 with a:=BS.CB b3.a g.node ((b3.a.nd d.node).Bb.take j)}/\Ey {b3 with a:=BS.CB b3.a g.node ((b3.a.nd d.node).Bb.take j)}/\B6 {b3 with a:=BS.CB b3.a g.node ((b3.a.nd d.node).Bb.take j)} (m+7)/\DC h8 (Bu bi G8) U (Bu bi L)) (λj=>(b3.a.nd d.node).Bb.length-j)
   (λj U=>j=(b3.a.nd d.node).Bb.length/\∃L,RX U bi a o5 c5 t L {b3 with a:=BS.CB b3.a g.node ((b3.a.nd d.node).Bb.take j)}/\Ey {b3 with a:=BS.CB b3.a g.node ((b3.a.nd d.node).Bb.take j)}/\B6 {b3 with a:=BS.CB b3.a g.node ((b3.a.nd d.node).Bb.take j)} (m+7)/\DC h8 (Bu bi G8) U (Bu bi L)) 0 rfl ⟨AV _,G8,w8,G_,ţ,.refl⟩ ?_ ?_
  .rintro j U ⟨hj,L,H,vN,cj,Z⟩;rcases AP j (b3.a.nd d.node).Bb.length with hlt|Eg
   .have e9:=AU.BK (k:= .i64) bo hlt;obtain⟨er,VU,z,C,Uo,cm⟩:=H.kW vN.ba cj g.node (b3.a.nd d.node).Bb[j] 0;have hs:BS.CB b3.a g.node ((b3.a.nd d.node).Bb.take (j+1))=(BS.CB b3.a g.node ((b3.a.nd d.node).Bb.take j)).FT g.node (b3.a.nd d.node).Bb[j] 0:=by rw[AB hlt,Rm]
    rw[Ce] at e9;simp only[abS,hvl,(Ab:(j:Int)<((b3.a.nd d.node).Bb.length:Int)),H.l0,e9,C.Ac,BM (Ab:j<9223372036854775807)];refine .next (j+1) rfl ⟨hlt,z,by rw[hs];exact Uo,?_,?_,Z.trans cm⟩ Ab
    .have:=vN.KD (Qz (p:=g.node) (n:=(b3.a.nd d.node).Bb[j]) (b:=0) vN.ok) OF;rw[hs];exact this
    .have:=cj.KD (J5 (p:=g.node) (x:=(b3.a.nd d.node).Bb[j]) (bf:=0));rw[hs];exact this
   .simp only[abS,hvl,(Ab:¬(j:Int)<((b3.a.nd d.node).Bb.length:Int))];exact .HF j rfl ⟨Ab,L,H,vN,cj,Z⟩
  .rintro j U ⟨rfl,L,H,vN,cj,Z⟩;rw[Bx] at H vN cj;obtain⟨er,VU,z,C,Uo,cm⟩:=H.kW vN.ba cj d.node g.node 0;have Ť:B2 ({b3 with a:=(BS.CB b3.a g.node (b3.a.nd d.node).Bb).FT d.node g.node 0}:BS).A6 c5:=by simp only;rw[Nv];exact i.hc
   have hqa:=i.rm.A6;have sx:Fe fe.c.node b3.A6=(q:Int):=by rw[Nv];exact ku
   have B:=Ť.ix (n:=0) (by simp only;rw[Nv];omega) fe.c.node VU;simp only at B;rw[sx] at B;obtain⟨lN,TK,r15,ť,lp,x11⟩:=yu Uo Ť (by simp only;rw[Nv];omega) fe.c.node;simp only at ť lp;rw[Y9 sx] at ť lp;obtain⟨Un,VY⟩:∃Un:Nat,Un=if q<s'.2.2 then s'.2.2 -1 else s'.2.2:=⟨_,rfl⟩
   have qV:(Bf b3.A6 q).length=b3.A6.length-1:=Hj (by rw[Nv];exact hq);have Wb:b3.A6.length=s'.1.A6.length:=by rw[Nv]
   obtain⟨u1,P,ŧ,T⟩:=lp.wi Ab (e:={fe.c with node:=g.node}) fe.ok (by have:=KE.2.1;simp only;omega) (Un:Int) lN;have l11:=ť.l3;have s12:=ť.st (k:=3) (v0:=TK) rfl T;have A:=ť.Kr (u:=u1) (l:=(Bf b3.A6 q).take (CI Un (Bf b3.A6 q).length)++{fe.c with node:=g.node}::(Bf b3.A6 q).drop (CI Un (Bf b3.A6 q).length));have x12:=x11.trans (Bg (bi:=bi) (G:=z) (h:=lN) (k:=3) (v:=u1));generalize put lN bi 3 u1=E at*;have hob:=i.rm.AN;have nh:b3.AN.length=s'.1.AN.length:=by rw[ho3]
   have aIZ:A8 E none (Pt bi 2)=some o5:=A.ld 2;obtain⟨u2,t2,r17,Jh⟩:=aG7 (h:=E) A.o Dx fe.c.node;simp only at Jh;have w13:=A.HJ (u:=t2);have s13:=w13.st (k:=2) (v0:=o5) rfl (AU.cells Jh);have M:=w13.HU Jh;have x14:=(x12.trans A.C6).trans (Bg (bi:=bi) (G:=z) (h:=E++t2) (k:=2) (v:=u2));generalize put (E++t2) bi 2 u2=D at*;have qR:(CW fe.c.node b3.AN).length<=s'.1.AN.length:=by rw[<-ho3];exact J4.length_le
   have aI0:A8 D none (Pt bi 2)=some u2:=M.ld 2;have r18:=ZO (h:=D) Jh Ab d.node;have hli: -1<=AT (Br d.node) (CW fe.c.node b3.AN)/\AT (Br d.node) (CW fe.c.node b3.AN)<=(CW fe.c.node b3.AN).length:=by rcases Dl (q:=Br d.node) (l:=CW fe.c.node b3.AN) with⟨h,_⟩|⟨n,h1,h2,_⟩<;>omega
   have add:=OB (a:=AT (Br d.node) (CW fe.c.node b3.AN)) (b:=1) Ab Ab;obtain⟨u3,r19,ŝ⟩:=aMg (h:=D) Jh Ab g (AT (Br d.node) (CW fe.c.node b3.AN)+1);have s15:=M.st (k:=2) (v0:=u2) rfl (AU.cells ŝ);have w15:=M.HU ŝ;have x15:=x14.trans (Bg (bi:=bi) (G:=z) (h:=D) (k:=2) (v:=u3));have hE:BS.GH fe.c d.node an.node s'={b3 with a:=(BS.CB b3.a g.node (b3.a.nd d.node).Bb).FT d.node g.node 0,A6:=(Bf b3.A6 q).take (CI Un (Bf b3.A6 q).length)++{fe.c with node:=g.node}::(Bf b3.A6 q).drop (CI Un (Bf b3.A6 q).length),AN:=(CW fe.c.node b3.AN).take (E0 (AT (Br d.node) (CW fe.c.node b3.AN)+1) (CW fe.c.node b3.AN).length)++g::(CW fe.c.node b3.AN).drop (E0 (AT (Br d.node) (CW fe.c.node b3.AN)+1) (CW fe.c.node b3.AN).length)}:=by
    unfold BS.GH;simp only
    rw[<-Od,<-nl,<-hnw,sx,AY,<-VY]
   have K:=Uo.l3;by_cases hqm:(q:Int)<(s'.2.2:Int);.have dm:=Il (n:=s'.2.2) Ab Ab;rw[Af (Ab:q<s'.2.2)] at VY;rw[<-VY] at dm;simp only[abS,Nat.reduceLeDiff,↓reduceIte,AR,E9,H.l0,C.Ac,K,B.Ac,hqm,A0,dm,r15.Ac,l11,lg];simp only[BD,P.Ac,s12,aIZ,r17.Ac,s13,aI0,r18.Ac,BI,add,r19.Ac,s15];rw[hE];exact⟨_,rfl,rfl,u3,u1,z,w15,ŧ,(x8'.trans (Z.trans cm)).trans x15⟩
   .rw[Ad (Ab:¬q<s'.2.2)] at VY;rw[VY] at P;simp only[abS,Nat.reduceLeDiff,↓reduceIte,AR,E9,H.l0,C.Ac,K,B.Ac,hqm,A0,r15.Ac,l11,lg];simp only[BD,P.Ac,s12,aIZ,r17.Ac,s13,aI0,r18.Ac,BI,add,r19.Ac,s15];rw[hE];exact⟨_,rfl,rfl,u3,u1,z,w15,ŧ,(x8'.trans (Z.trans cm)).trans x15⟩
 obtain⟨r,h',hr,rfl,o',c',G',w',Jm,x'⟩:=I2.ret;rw[e];exact⟨h',o',c',G',hr,w',Jm,x'⟩
end
namespace BS
def FD(b:BS)(nm:Ai)(k:Nat):Option Int:=
 if nm=Ld then some (JE (b.AN.take k))
 else if nm=um then(if k=0 then some 7 else some 15)
 else if nm=uo then(if k=0 then some 7 else some 15)
 else if nm=wTr then some 14
 else if nm=Ua then some 13
 else if nm=Uc then some 13
 else if nm=Ub then some 13
 else if nm=S3 then some 11
 else if nm=QA then some 12
 else if nm=E7 then some 9
 else if nm=AZ then some (b.tm.getLast?.getD 7)
 else if nm=Ri then(if k=0 then some 7 else some 4)
 else if nm=yR then some 7
 else if nm=QB then some 20
 else if nm=DI then some (if b.head=0 then 3 else 6)
 else if k=0 then some 7 else none
end BS
section
variable{h h':Ah}{bi a:Nat}{o c t:Aa}{G G' F:Nat->Prop}{b:BS}{x:Int}{m:Nat}
def yv{nd:Int}{nm:Ai}{u:Bool}{k:Nat}:b.Hi ⟨nd,1,nm,u⟩ k=b.FD nm k:=by
 unfold BS.Hi BS.FD;simp only[BN];by_cases s:nm=Ld;.subst s;cases k<;>rfl
 by_cases q:nm=um;.subst q;cases k<;>rfl
 by_cases p:nm=uo;.subst p;cases k<;>rfl
 by_cases n:nm=wTr;.subst n;cases k<;>rfl
 by_cases l:nm=Ua;.subst l;cases k<;>rfl
 by_cases j:nm=Uc;.subst j;cases k<;>rfl
 by_cases i:nm=Ub;.subst i;cases k<;>rfl
 by_cases g:nm=S3;.subst g;cases k<;>rfl
 by_cases f:nm=QA;.subst f;cases k<;>rfl
 by_cases d:nm=E7;.subst d;cases k<;>rfl
 by_cases kZ:nm=AZ;.subst kZ;cases k<;>rfl
 by_cases qY:nm=Ri;.subst qY;cases k<;>rfl
 by_cases de:nm=yR;.subst de;cases k<;>rfl
 by_cases nz:nm=QB;.subst nz;cases k<;>rfl
 by_cases ű:nm=DI;.subst ű;cases k<;>rfl
 have hf:(Jz.find? λr=>decide (r.1=nm))=none:=by
  rw[Js];intro r hr;simp only[Jz,AS,KF,qO] at hr;rcases hr with rfl|rfl|rfl|rfl|rfl|rfl|rfl|rfl|rfl<;>simp only[C0]<;>intro e
  .exact n e.symm
  .exact l e.symm
  .exact j e.symm
  .exact i e.symm
  .exact g e.symm
  .exact f e.symm
  .exact d e.symm
  .exact de e.symm
  .exact nz e.symm
 rw[hf];simp only[s,q,p,n,l,j,i,g,f,d,kZ,qY,de,nz,ű,DQ,or_self,Zn]
def yw{i:Item}{k:Nat}(h:¬i.Bc=1):b.Hi i k=if k=0 then some 7 else none:=by unfold BS.Hi;rw[Ad h]
def aI1(w:RX h bi a o c t G b)(rm:B6 b m){k:Nat}(hk:k<=b.AN.length):BL cx 358 [Pt bi 0,I (k:Int)] h (I (BS.JE (b.AN.take k))) h:=by
 have ho:=rm.AN;have ld:A8 h none (Pt bi 2)=some o:=w.ld 2;rw[Ae,ļ];simp only[BD,Da (Ab: -9223372036854775808<=(k:Int)-1) (Ab:(k:Int)-1<9223372036854775808)];refine Bi (λn:Nat=>[I 0,I ((n:Int)-1)]) (λn h1=>n<=k/\((b.AN.take k).reverse.find? λi=>Bn [AZ] i||Bn [E7] i)=((b.AN.take n).reverse.find? λi=>Bn [AZ] i||Bn [E7] i)/\h1=h) (λn=>n) k rfl ⟨Ag _,rfl,rfl⟩ ?_;rintro n h1 ⟨hn,ha,rfl⟩;cases n with
 |zero=>simp only[abS,↓reduceIte,(Ab:¬(0:Int)<=((0:Nat):Int)-1)];unfold BS.JE;rw[ha];rfl
 |succ n=>
  have hlt:n<b.AN.length:=Ab;have i1:((n+1:Nat):Int)-1=(n:Int):=Ab;have g:=AU.BK (k:= .i64) w.o hlt;have e:AD (.Dm 1) [S AZ]=some (.sl 1 ([AZ].map Cr)):=DR (ws:=[AZ]) rfl AM;have ky:AD (.Dm 1) [S E7]=some (.sl 1 ([E7].map Cr)):=DR (ws:=[E7]) rfl AM;have r2:=f167 (h:=h1) b.AN[n] (Cc (ws:=[AZ])) AM;have f:=f167 (h:=h1) b.AN[n] (Cc (ws:=[E7])) AM;rw[Tg hlt,FF] at ha;generalize b.AN[n]=i at*;simp only[abS,Nat.reduceLeDiff,↓reduceIte,E9,i1,(Ab:(0:Int)<=(n:Int)),ld,g,e,r2.Ac,ky,f.Ac,Da (Ab: -9223372036854775808<=(n:Int)-1) (Ab:(n:Int)-1<9223372036854775808)];rw[CS];refine⟨λh2=>?_,λh2=>?_⟩;.simp only[h2,Uz] at ha;unfold BS.JE;rw[ha];simp only[h2,BN]
  .simp only[h2,Hl] at ha;rw[CS];refine⟨λd=>?_,λd=>?_⟩;.rw[d] at ha;unfold BS.JE;rw[ha];simp only[h2,Cj,DQ]
   .rw[d] at ha;exact AK.next n rfl ⟨Ab,ha,rfl⟩ Ab
def aI2(w:RX h bi a o c t G b)(rm:B6 b m)(i:Item){k:Nat}(hk:k<=b.AN.length):BL cx 225 [Pt bi 0,.agg i.row,I (k:Int),.bool (decide (k=0))] h (.tuple [I ((b.Hi i k).getD 7),.bool (b.Hi i k).isSome]) h:=by
 have A:=rm.tm;have l6:=w.l6;have l7:=w.l7;have lt:=AU.CN w.t;obtain⟨nd,sp,nm,C⟩:=i;by_cases hs:sp=1;rotate_left
 .rw[yw (by exact hs),Ae,zM];by_cases u:k=0;.simp only[abS,Item.row,hs,u,Dz,Fg,lI]
  .simp only[abS,Item.row,hs,u,DH,wQ,aOH]
 subst hs;rw[yv,Ae,zM];by_cases d:nm=Ld
 .have e:b.FD nm k=some (BS.JE (b.AN.take k)):=by unfold BS.FD;rw[Af d]
  rw[e];simp only[BD,JZ,Item.row,AQ d,(aI1 w rm hk).Ac]
 by_cases f:nm=um
 .have e:b.FD nm k=(if k=0 then some 7 else some 15):=by unfold BS.FD;rw[Ad d,Af f]
  rw[e];by_cases u:k=0;.simp only[abS,JZ,Item.row,d,AQ f,u]
  .simp only[abS,JZ,Item.row,d,AQ f,u]
 by_cases g:nm=uo
 .have e:b.FD nm k=(if k=0 then some 7 else some 15):=by unfold BS.FD;rw[Ad d,Ad f,Af g]
  rw[e];by_cases u:k=0;.simp only[abS,JZ,Item.row,d,f,AQ g,u]
  .simp only[abS,JZ,Item.row,d,f,AQ g,u]
 by_cases j:nm=wTr
 .have e:b.FD nm k=some 14:=by unfold BS.FD;rw[Ad d,Ad f,Ad g,Af j]
  rw[e];simp only[BD,JZ,Item.row,d,f,g,AQ j]
 by_cases l:nm=Ua
 .have e:b.FD nm k=some 13:=by unfold BS.FD;rw[Ad d,Ad f,Ad g,Ad j,Af l]
  rw[e];simp only[BD,JZ,Item.row,d,f,g,j,AQ l]
 by_cases n:nm=Uc
 .have e:b.FD nm k=some 13:=by unfold BS.FD;rw[Ad d,Ad f,Ad g,Ad j,Ad l,Af n]
  rw[e];simp only[BD,JZ,Item.row,d,f,g,j,l,AQ n]
 by_cases p:nm=Ub
 .have e:b.FD nm k=some 13:=by unfold BS.FD;rw[Ad d,Ad f,Ad g,Ad j,Ad l,Ad n,Af p]
  rw[e];simp only[BD,JZ,Item.row,d,f,g,j,l,n,AQ p]
 by_cases q:nm=S3
 .have e:b.FD nm k=some 11:=by unfold BS.FD;rw[Ad d,Ad f,Ad g,Ad j,Ad l,Ad n,Ad p,Af q]
  rw[e];simp only[BD,JZ,Item.row,d,f,g,j,l,n,p,AQ q]
 by_cases r:nm=QA
 .have e:b.FD nm k=some 12:=by unfold BS.FD;rw[Ad d,Ad f,Ad g,Ad j,Ad l,Ad n,Ad p,Ad q,Af r]
  rw[e];simp only[BD,JZ,Item.row,d,f,g,j,l,n,p,q,AQ r]
 by_cases s:nm=E7
 .have e:b.FD nm k=some 9:=by unfold BS.FD;rw[Ad d,Ad f,Ad g,Ad j,Ad l,Ad n,Ad p,Ad q,Ad r,Af s]
  rw[e];simp only[BD,JZ,Item.row,d,f,g,j,l,n,p,q,r,AQ s]
 by_cases kZ:nm=AZ
 .have e:b.FD nm k=some (b.tm.getLast?.getD 7):=by unfold BS.FD;rw[Ad d,Ad f,Ad g,Ad j,Ad l,Ad n,Ad p,Ad q,Ad r,Ad s,Af kZ]
  rw[e];by_cases ht:b.tm=[]
  .have v:AD (.len false) [t]=some (I 0):=by rw[lt,ht];rfl
   simp only[BD,JZ,Item.row,d,f,g,j,l,n,p,q,r,s,AQ kZ,l6,v,ht,qP]
  .have hpos:=EH.2 ht;have z:=AU.BK (k:= .i64) w.t (Ab:b.tm.length-1<b.tm.length);have B:b.tm.getLast?.getD 7=b.tm[b.tm.length-1]:=by rw[KJ,Al Ab];rfl
   rw[Ce] at z;simp only[BD,JZ,Item.row,d,f,g,j,l,n,p,q,r,s,AQ kZ,l6,lt,(Ab:(0:Int)<(b.tm.length:Int)),Il hpos (Ab:b.tm.length<9223372036854775807),z,B]
 by_cases qY:nm=Ri
 .have e:b.FD nm k=(if k=0 then some 7 else some 4):=by unfold BS.FD;rw[Ad d,Ad f,Ad g,Ad j,Ad l,Ad n,Ad p,Ad q,Ad r,Ad s,Ad kZ,Af qY]
  rw[e];by_cases u:k=0;.simp only[abS,JZ,Item.row,d,f,g,j,l,n,p,q,r,s,kZ,AQ qY,u]
  .simp only[abS,JZ,Item.row,d,f,g,j,l,n,p,q,r,s,kZ,AQ qY,u]
 by_cases de:nm=yR
 .have e:b.FD nm k=some 7:=by unfold BS.FD;rw[Ad d,Ad f,Ad g,Ad j,Ad l,Ad n,Ad p,Ad q,Ad r,Ad s,Ad kZ,Ad qY,Af de]
  rw[e];simp only[BD,JZ,Item.row,d,f,g,j,l,n,p,q,r,s,kZ,qY,AQ de]
 by_cases nz:nm=QB
 .have e:b.FD nm k=some 20:=by unfold BS.FD;rw[Ad d,Ad f,Ad g,Ad j,Ad l,Ad n,Ad p,Ad q,Ad r,Ad s,Ad kZ,Ad qY,Ad de,Af nz]
  rw[e];simp only[BD,JZ,Item.row,d,f,g,j,l,n,p,q,r,s,kZ,qY,de,AQ nz]
 by_cases ű:nm=DI
 .have e:b.FD nm k=some (if b.head=0 then 3 else 6):=by unfold BS.FD;rw[Ad d,Ad f,Ad g,Ad j,Ad l,Ad n,Ad p,Ad q,Ad r,Ad s,Ad kZ,Ad qY,Ad de,Ad nz,Af ű]
  rw[e];by_cases y:b.head=0;.simp only[BD,JZ,Item.row,d,f,g,j,l,n,p,q,r,s,kZ,qY,de,nz,AQ ű,l7,y]
  .simp only[BD,JZ,Item.row,d,f,g,j,l,n,p,q,r,s,kZ,qY,de,nz,AQ ű,l7,y]
 have e:b.FD nm k=if k=0 then some 7 else none:=by unfold BS.FD;rw[Ad d,Ad f,Ad g,Ad j,Ad l,Ad n,Ad p,Ad q,Ad r,Ad s,Ad kZ,Ad qY,Ad de,Ad nz,Ad ű]
 rw[e];by_cases u:k=0;.simp only[abS,JZ,Item.row,d,f,g,j,l,n,p,q,r,s,kZ,qY,de,nz,ű,u]
 .simp only[abS,JZ,Item.row,d,f,g,j,l,n,p,q,r,s,kZ,qY,de,nz,ű,u]
def Ų(w:RX h bi a o c t G b)(rm:B6 b m):
  ∃h',BL cx 96 [Pt bi 0] h (.tuple []) h'/\RX h' bi a o c t G b.HL/\DC h (Bu bi G) h' (Bu bi G):=by
 have ho:=rm.AN;have ld:A8 h none (Pt bi 2)=some o:=w.ld 2;have lo:=AU.CN w.o;have Sb:=w.l9;have hlc:=w.ś;have I2:Ev cx 96 [Pt bi 0] h λr h'=>r= .tuple []/\RX h' bi a o c t G b.HL/\DC h (Bu bi G) h' (Bu bi G):=by
  unfold Ev;rw[aDh];simp only[BD,ld,lo,Da (Ab: -9223372036854775808<=(b.AN.length:Int)-1) (Ab:(b.AN.length:Int)-1<9223372036854775808)];have HN:∀v,Cv h 1 (Pt bi 4) (I v)=some (Am.put h bi 4 (I v)):=λv=>w.st (k:=4) rfl rfl;refine Bi (λn:Nat=>[I ((n:Int)-1)]) (λn h1=>n<=b.AN.length/\b.LL b.AN.length=b.LL n/\h1=h) (λn=>n) b.AN.length rfl ⟨Ag _,rfl,rfl⟩ ?_;rintro n h1 ⟨hn,ha,rfl⟩;cases n with
  |zero=>
   have e:b.HL={b with mode:=7}:=by unfold BS.HL;rw[ha];rfl
   simp only[abS,↓reduceIte,(Ab:¬(0:Int)<=((0:Nat):Int)-1),HN];exact⟨_,rfl,rfl,by rw[e];exact w.pH 7,Bg⟩
  |succ n=>
   have hlt:n<b.AN.length:=Ab;have i1:((n+1:Nat):Int)-1=(n:Int):=Ab;have g:=AU.BK (k:= .i64) w.o hlt;have d:=aI2 w rm (b.EB n) (k:=n) Ab;have e:b.LL (n+1)=match b.Hi (b.EB n) n with|some m=>m|none=>b.LL n:=rfl
   rw[e] at ha;have Pc:=Da (Ab: -9223372036854775808<=(n:Int)-1) (Ab:(n:Int)-1<9223372036854775808);have i:∀(h0:n≠0\/b.L3=false),b.EB n=b.AN[n]:=λh0=>by unfold BS.EB;rw[Ad (by rintro⟨h1,h2⟩;rcases h0 with h0|h0;exact h0 h1;rw[h0] at h2;exact absurd h2 AM),AJ,Al hlt];rfl
   have j:n=0->b.L3=true->b.EB n=b.ctx:=λh0 hf=>by unfold BS.EB;rw[Af ⟨h0,hf⟩]
   have HF:∀v,b.Hi (b.EB n) n=some v->RX (Am.put h1 bi 4 (I v)) bi a o c t G b.HL:=λv hm=>by
    rw[hm] at ha;have e:b.HL={b with mode:=v}:=by unfold BS.HL;rw[ha]
    rw[e];exact w.pH v
   have f:b.Hi (b.EB n) n=none->b.LL b.AN.length=b.LL n:=λhm=>by rw[hm] at ha;exact ha
   generalize hx:b.AN[n]=x at*;by_cases h0:n=0
   .have Zy:((n:Int)=0)=True:=AQ Ab;rw[As h0] at d;cases hf:b.L3 with
    |true=>
     rw[j h0 hf] at d HF f;rw[hf] at Sb;cases hm:b.Hi b.ctx n with
     |none=>rw[hm] at d;simp only[BD,Nat.reduceLeDiff,↓reduceIte,E9,i1,(Ab:(0:Int)<=(n:Int)),ld,g,Zy,Sb,hlc,d.Ac,Pc,JZ];exact AK.next n rfl ⟨Ab,f hm,rfl⟩ Ab
     |some v=>rw[hm] at d;simp only[BD,Nat.reduceLeDiff,↓reduceIte,E9,i1,(Ab:(0:Int)<=(n:Int)),ld,g,Zy,Sb,hlc,d.Ac,HN,JZ];exact⟨_,rfl,rfl,HF v hm,Bg⟩
    |false=>
     rw[i (.inr hf)] at d HF f;rw[hf] at Sb;cases hm:b.Hi x n with
     |none=>rw[hm] at d;simp only[BD,Nat.reduceLeDiff,↓reduceIte,E9,i1,(Ab:(0:Int)<=(n:Int)),ld,g,Zy,Sb,d.Ac,Pc,JZ];exact AK.next n rfl ⟨Ab,f hm,rfl⟩ Ab
     |some v=>rw[hm] at d;simp only[BD,Nat.reduceLeDiff,↓reduceIte,E9,i1,(Ab:(0:Int)<=(n:Int)),ld,g,Zy,Sb,d.Ac,HN,JZ];exact⟨_,rfl,rfl,HF v hm,Bg⟩
   .have Zy:¬(n:Int)=0:=by omega
    rw[Ap h0] at d;rw[i (.inl h0)] at d HF f;cases hm:b.Hi x n with
    |none=>rw[hm] at d;simp only[BD,Nat.reduceLeDiff,↓reduceIte,E9,i1,(Ab:(0:Int)<=(n:Int)),ld,g,Zy,d.Ac,Pc,JZ];exact AK.next n rfl ⟨Ab,f hm,rfl⟩ Ab
    |some v=>rw[hm] at d;simp only[BD,Nat.reduceLeDiff,↓reduceIte,E9,i1,(Ab:(0:Int)<=(n:Int)),ld,g,Zy,d.Ac,HN,JZ];exact⟨_,rfl,rfl,HF v hm,Bg⟩
 obtain⟨r,h',hr,rfl,w',x'⟩:=I2.ret;exact⟨h',hr,w',x'⟩
def aI3(w:RX h bi a o c t G b)(hc:B2 b.A6 c)(rm:B6 b m):
  ∃h' o' c' t',BL cx 98 [Pt bi 0] h (.tuple []) h'/\RX h' bi a o' c' t' G b.Cx/\B2 b.Cx.A6 c'/\DC h (Bu bi G) h' (Bu bi G):=by
 have dU:AX=140737488355328:=rfl;have ho:=rm.AN;have QE:=rm.A6;have Y:=rm.tm;have VE:∀i∈b.AN,i.name.length<9223372036854775807:=λi hi=>by have:=rm.VM i hi;omega
 have ld:A8 h none (Pt bi 2)=some o:=w.ld 2;have E:=Ō (h:=h) w.o Ab AZ;by_cases FU:AT (Bn [AZ]) b.AN<0;.refine⟨h,o,c,t,?_,by unfold BS.Cx;rw[Af FU];exact w,by unfold BS.Cx;rw[Af FU];exact hc,.refl⟩;rw[Ae,uY];simp only[abS,ld,E.Ac,FU]
 obtain⟨z,D,r2,O9⟩:=f165 (h:=h) w.o Ab VE [] true;have HN:EA [] true=CJ:=by funext a;rfl
 rw[HN] at O9;have w0:=w.HJ (u:=D);have M:=w0.st (k:=2) (v0:=o) rfl (AU.cells O9);have w1:=w0.HU O9;have S:=w.C6.trans (Bg (bi:=bi) (G:=G) (h:=h++D) (k:=2) (v:=z));have l1:(Dq CJ Cu b.AN).length<=b.AN.length:=Qx;generalize put (h++D) bi 2 z=h1 at*;have ny:A8 h1 none (Pt bi 2)=some z:=w1.ld 2;obtain⟨g,t2,O,Jh⟩:=f85 (h:=h1) O9 Ab (Cc (ws:=[AZ])) AM;rw[<-KR] at Jh;have f:=w1.HJ (u:=t2);have L:=f.st (k:=2) (v0:=z) rfl (AU.cells Jh);have C:=f.HU Jh;have R:=(S.trans w1.C6).trans (Bg (bi:=bi) (G:=G) (h:=h1++t2) (k:=2) (v:=g));generalize put (h1++t2) bi 2 g=h2 at*;have j:=C.l3;obtain⟨fs,Gu,hcs⟩:=hc;have Hp:fs.length=b.A6.length:=by rw[<-Gu,An]
 obtain⟨d,N,ŝ⟩:=f84 (h:=h2) hcs Ab;have K:=C.st (k:=3) (v0:=c) rfl (AU.cells ŝ);have y:=C.Kr (u:=d) (l:=EE b.A6);have J:=R.trans (Bg (bi:=bi) (G:=G) (h:=h2) (k:=3) (v:=d));have Nv:B2 (EE b.A6) d:=⟨_,by rw[QJ,Gu],ŝ⟩;generalize put h2 bi 3 d=h3 at*;have lt:=AU.CN w.t;have l6:=y.l6;have e:b.Cx=BS.HL {b with AN:=Dq Cu (Bn [AZ]) (Dq CJ Cu b.AN),A6:=EE b.A6,tm:=b.tm.dropLast}:=by unfold BS.Cx;rw[Ad FU]
 have sO:(Dq Cu (Bn [AZ]) (Dq CJ Cu b.AN)).Sublist b.AN:=(CT (p:=Cu) (q:=Bn [AZ]) (l:=Dq CJ Cu b.AN)).trans CT;by_cases h0:b.tm=[]
 .have B:RX h3 bi a g d t G {b with AN:=Dq Cu (Bn [AZ]) (Dq CJ Cu b.AN),A6:=EE b.A6,tm:=b.tm.dropLast}:=by
   have:b.tm.dropLast=b.tm:=by rw[h0];rfl
   rw[this];exact y
  obtain⟨h4,X,A,Q⟩:=Ų B (rm.sub (b':={b with AN:=Dq Cu (Bn [AZ]) (Dq CJ Cu b.AN),A6:=EE b.A6,tm:=b.tm.dropLast}) rfl sO (Df _ _) AH);refine⟨h4,g,d,t,?_,by rw[e];exact A,by rw[e];exact Nv,J.trans Q⟩;have H:AD (.len false) [t]=some (I 0):=by rw[lt,h0];rfl
  rw[Ae,uY];simp only[BD,ld,E.Ac,FU,r2.Ac,M,ny,pJ,O.Ac,L,j,N.Ac,K,l6,H,X.Ac,JZ]
 .have hpos:=EH.2 h0;obtain⟨u4,e4,s⟩:=AU.Ms w.t (k:= .i64) (n:=b.tm.length-1) Ab;rw[<-aFn] at s;obtain⟨U,e5,r⟩:=AU.Gy (b:=8) s Ei;have V:=y.st (k:=6) (v0:=t) rfl (AU.cells r);have A:=y.pI r;obtain⟨Z,W,T,P⟩:=Ų A (rm.sub (b':={b with AN:=Dq Cu (Bn [AZ]) (Dq CJ Cu b.AN),A6:=EE b.A6,tm:=b.tm.dropLast}) rfl sO (Df _ _) AH);refine⟨Z,g,d,U,?_,by rw[e];exact T,by rw[e];exact Nv,(J.trans Bg).trans P⟩;rw[Ae,uY];simp only[BD,ld,E.Ac,FU,r2.Ac,M,ny,pJ,O.Ac,L,j,N.Ac,K,l6,lt,(Ab:(0:Int)<(b.tm.length:Int)),Il hpos (Ab:b.tm.length<9223372036854775807),e4,e5,V,W.Ac,JZ]
def aI4(w:RX h bi a o c t G b)(hc:B2 b.A6 c)(ok:Ey b)(rm:B6 b (m+8*(4*(b.AN.length+8)+10)))(hnm:Nm b.a)(nm:Ai):
  ∃h' o' c' G',BL cx 95 [Pt bi 0,.str nm] h (.tuple []) h'/\RX h' bi a o' c' t G' (b.Fz nm)/\B2 (b.Fz nm).A6 c'/\DC h (Bu bi G) h' (Bu bi G'):=by
 have ho:=rm.AN;have QE:=rm.A6;have ld:A8 h none (Pt bi 2)=some o:=w.ld 2;have A:=yo w rm;have em:AD (.Dm 1) [.str nm]=some (.sl 1 ([nm].map Cr)):=DR (ws:=[nm]) rfl AH;have r2:BL cx 218 [.agg (Fx b.AN).row,.sl 1 ([nm].map Cr)] h (.bool (Bn [nm] (Fx b.AN))) h:=f167 (Fx b.AN) (Cc (ws:=[nm])) AH;have J:=hc.ix (n:=0) Ab (Fx b.AN).node h;have D:b.LR.A6=b.A6:=by unfold BS.LR;split<;>rfl
 have l3:=w.l3;by_cases h1:Bn [nm] (Fx b.AN)=true/\Fe (Fx b.AN).node b.A6<0
 .obtain⟨u,N,O,hu⟩:=aDy (h:=h) w.o Ab;have E:Km b.AN ((b.AN.length:Int)-1)=b.LR.AN:=by
   unfold BS.LR;split;.unfold Km;rw[AF Ab]
   .unfold Km;congr 1;omega
  rw[E] at hu;have w1:=w.HJ (u:=N);have f:=w1.HU hu;have e:b.Fz nm=b.LR:=by unfold BS.Fz;rw[Af h1]
  have R:({b with AN:=b.LR.AN}:BS)=b.LR:=by unfold BS.LR;split<;>rfl
  rw[R] at f;rw[e];refine⟨_,u,c,G,?_,f,by rw[D];exact hc,w.C6.trans Bg⟩;rw[h1.1] at r2;rw[Ae,wh];simp only[abS,E9,A.Ac,em,r2.Ac,l3,BI,J.Ac,h1.2,ld,O.Ac,w1.st (k:=2) (v0:=o) rfl (AU.cells hu)]
 have e:b.Fz nm=BS.Eh 8 b nm:=by unfold BS.Fz;rw[Ad h1]
 rw[e];have I2:Ev cx 95 [Pt bi 0,.str nm] h λr h'=>r= .tuple []/\∃o' c' G',RX h' bi a o' c' t G' (BS.Eh 8 b nm)/\B2 (BS.Eh 8 b nm).A6 c'/\DC h (Bu bi G) h' (Bu bi G'):=by
  unfold Ev;rw[wh];have HF:∀(Q:HG) (k:DX->List Aa->IT),(∀x vs h1,(x= .exit 0\/x= .ret)->(∃o' c' G',RX h1 bi a o' c' t G' (BS.Eh 8 b nm)/\B2 (BS.Eh 8 b nm).A6 c'/\DC h (Bu bi G) h1 (Bu bi G'))->W cx (k x vs) Q h1)->
    W cx (.loop 3 [I 1] (λd=> .op (.int .leq) [g d 0,I 8] λz=> .Gg z (.call 224 [Pt bi 0,.str nm] λy=> .op (.un .not) [y] λv20=> .Gg v20 (.ret .ret [g d 0]) (.op (.int .add) [g d 0,I 1] λv=> .ret .normal [v])) (.ret (.exit 0) [g d 0])) k) Q h:=by
   intro Q k hk;refine Bi (λn:Nat=>[I ((9 -n:Nat):Int)]) (λn h1=>n<=8/\∃B p q b1,RX h1 bi a B p t q b1/\B2 b1.A6 p/\Ey b1/\Nm b1.a/\B6 b1 (m+n*(4*(b.AN.length+8)+10))/\b1.AN.length<=b.AN.length+(8 -n)/\BS.Eh 8 b nm=BS.Eh n b1 nm/\DC h (Bu bi G) h1 (Bu bi q)) (λn=>n) 8 rfl ⟨Ag _,o,c,G,b,w,hc,ok,hnm,rm,Ab,rfl,.refl⟩ ?_;rintro n h1 ⟨hn,B,p,q,b1,w1,R7,VV,nm1,vK,Wl,j,s⟩;cases n with
   |zero=>simp only[abS,(AM:¬((9 -0:Nat):Int)<=8)];exact hk _ _ _ (.inl rfl) ⟨B,p,q,by rw[j];exact w1,by rw[j];exact R7,s⟩
   |succ n=>
    have hsp:(n+1)*(4*(b.AN.length+8)+10)=n*(4*(b.AN.length+8)+10)+(4*(b.AN.length+8)+10):=by rw[BH,D7]
    rw[hsp] at vK;have ls:B6 b1 (m+n*(4*(b.AN.length+8)+10)+4*b1.AN.length+10):=vK.le Ab;obtain⟨h2,K,L,M,l,f,I0,H⟩:=aIY w1 R7 VV ls nm1 nm;obtain⟨Vh,aN⟩:=ON ls nm;have xy:=(Yw (nm:=nm) VV).1;have C:=Nm.round (nm:=nm) nm1 ls;have hlt:((9 -(n+1):Nat):Int)<=8:=Ab;have inc:AD (.int .add) [I ((9 -(n+1):Nat):Int),I 1]=some (I ((9 -n:Nat):Int)):=by have:=BM (n:=9 -(n+1)) Ab;rwa [(Ab:9 -(n+1)+1=9 -n)] at this
    have i:BS.Eh (n+1) b1 nm=if(b1.round nm).1 then BS.Eh n (b1.round nm).2 nm else(b1.round nm).2:=rfl
    cases hr:(b1.round nm).1 with
    |true=>rw[hr] at l i;simp only[abS,hlt,l.Ac,inc];exact AK.next n rfl ⟨Ab,K,L,M,_,f,I0,xy,C,Vh,Ab,j.trans i,s.trans H⟩ Ab
    |false=>rw[hr] at l i;simp only[abS,hlt,l.Ac];exact hk _ _ _ (.inr rfl) ⟨K,L,M,by rw[j,i];exact f,by rw[j,i];exact I0,s.trans H⟩
  by_cases h2:Bn [nm] (Fx b.AN)=true
  .have P:¬Fe (Fx b.AN).node b.A6<0:=λh=>h1 ⟨h2,h⟩;rw[h2] at r2;simp only[abS,E9,A.Ac,em,r2.Ac,l3,BI,J.Ac,P];refine HF _ _ ?_;rintro x vs h1 (rfl|rfl) ⟨o',c',G',a1,a2,a3⟩;.simp only[BD];exact⟨_,rfl,rfl,o',c',G',a1,a2,a3⟩
   .simp only[BD];exact⟨_,rfl,rfl,o',c',G',a1,a2,a3⟩
  .have h2:Bn [nm] (Fx b.AN)=false:=by simpa using h2
   rw[h2] at r2;simp only[BD,A.Ac,em,r2.Ac];refine HF _ _ ?_;rintro x vs h1 (rfl|rfl) ⟨o',c',G',a1,a2,a3⟩;.simp only[BD];exact⟨_,rfl,rfl,o',c',G',a1,a2,a3⟩
   .simp only[BD];exact⟨_,rfl,rfl,o',c',G',a1,a2,a3⟩
 obtain⟨r,h',hr,rfl,o',c',G',w',Jm,x'⟩:=I2.ret;exact⟨h',o',c',G',hr,w',Jm,x'⟩
end
def mi{h:Ah}{fs:List Cl}{v:Aa}(hv:Dw fs v)(hne:fs≠[])(hl:fs.length<=1000000000):KK h 3 48 .slnil v=some (h++[.cells (fs.map Cl.row).flatten],.CF h.length 0 fs.length 3):=by have hm:AX=140737488355328:=rfl;have:=Lr (h:=h) (s:= .slnil) (z:=3) (b:=48) (.inl rfl) hv (by simpa using hne) (by rw[An];omega);rwa [An] at this
def vU{h:Ah}{v:Aa}(hv:Dw [] v):KK h 3 48 .slnil v=some (h,.slnil):=PS (.inl rfl) hv
section
variable{h h':Ah}{bi a:Nat}{o c t:Aa}{G G' F:Nat->Prop}{b:BS}{x:Int}{m:Nat}
def aI5(w:RX h bi a o c t G b)(rm:B6 b m)(e:Cl):BL cx 217 [Pt bi 0,.agg e.row] h (.bool (b.settled e.c)) h:=by
 have ho:=rm.AN;have ld:A8 h none (Pt bi 2)=some o:=w.ld 2;have d:=ZO (h:=h) w.o Ab e.c.node;unfold BS.settled;rw[Ae,ĕ,Cl.row];by_cases h0:e.c.node=0;.simp only[BD,AQ h0,ld,d.Ac,true_or,Dz]
 .simp only[abS,h0,ld,d.Ac,false_or]
structure lA(h:Ah)(bi a:Nat)(t c:Aa)(G0:Nat->Prop)(b:BS)(fs:List Cl)(id m k:Nat)(h1:Ah):Prop where
 le:k<=fs.length
 low:b.Lt<=k
 ex:∃(o:Aa) (G:Nat->Prop) (b1:BS) (H9:List Cl),RX h1 bi a o c t G b1/\Ey b1/\Nm b1.a/\B6 b1 (m+4*(fs.length-k))/\h1[id]?=some (.cells (H9.map Cl.row).flatten)/\H9.length=fs.length/\H9.drop k=fs.drop k/\
  BS.CM b={(BS.Jn (b.A6.drop k) b1).2 with A6:=(H9.take k).map (·.c)++(BS.Jn (b.A6.drop k) b1).1}/\¬Bu bi G id/\DC h (Bu bi G0) h1 (Bu bi G)
def lA.init(w:RX h bi a o c t G b)(ok:Ey b)(hnm:Nm b.a)(rm:B6 b (m+4*b.A6.length)){fs:List Cl}(Gu:fs.map (·.c)=b.A6):
  lA h bi a t c G b fs h.length m b.Lt (h++[.cells (fs.map Cl.row).flatten]):=by
 have Hp:b.A6.length=fs.length:=by rw[<-Gu,An]
 have hk:=Ti (b:=b);have hne:h.length≠bi:=Nat.ne_of_gt w.lt;refine⟨Ab,Ag _,o,G,b,fs,w.HJ (u:=[.cells (fs.map Cl.row).flatten]),ok,hnm,rm.le Ab,?_,rfl,rfl,?_,?_,w.C6⟩;.simp
 .unfold BS.CM;simp only;rw[Gk,Gu]
 .rintro(rfl|hg);.exact hne rfl
  .exact absurd (w.w.lt hg) (Dr _)
def lA.step{fs:List Cl}{id k:Nat}{h1:Ah}(Gu:fs.map (·.c)=b.A6)(KE:∀e∈b.A6,e.name.length<=1000/\DL e.Ay)(hi:h.length<=id)(hlt:k<fs.length)(i:lA h bi a t c G b fs id m k h1):
  ∃(h2:Ah) (n:Int),A8 h1 none (Pt id (k*3+1))=some (.str fs[k].c.name)/\A8 h1 none (Pt id (k*3+2))=some fs[k].v/\BL cx 86 [Pt bi 0,.agg [I 2,.str fs[k].c.name,ff,S [],ff,S [],ff,ff,fs[k].v,ff,S [],.int .i32 0]] h1 (I n) h2/\
   Cv h2 1 (Pt id (k*3)) (I n)=some (Am.put h2 id (k*3) (I n))/\lA h bi a t c G b fs id m (k+1) (Am.put h2 id (k*3) (I n)):=by
 obtain⟨y,z,b1,H9,w1,VV,nm1,vK,R7,Wl,eS,la,Nn,f⟩:=i.ex;have RU:k<H9.length:=Ab;have Hp:b.A6.length=fs.length:=by rw[<-Gu,An]
 have yf:k<b.A6.length:=Ab;have r:H9[k]=fs[k]:=by have:=Ca (λl=>l[0]?) eS;simp only[Ct,Bv] at this;rw[Al RU,Al hlt] at this;exact D5 this
 have q:b.A6[k]=fs[k].c:=by simp only[<-Gu,C1]
 have hg:(H9.map Cl.row)[k]?=some fs[k].row:=by rw[Cm,Al RU,r];rfl
 have ld:∀j,j<3->A8 h1 none (Pt id (k*3+j))=fs[k].row[j]?:=λj hj=>by simp only[A8,R7,E6];exact Lw (OD H9) hj hg
 have KE:=KE fs[k].c (by rw[<-q];exact AL yf);have hr:N2 fs[k].c.name fs[k].v [I 2,.str fs[k].c.name,ff,S [],ff,S [],ff,ff,fs[k].v,ff,S [],.int .i32 0]:=⟨I 2,ff,S [],ff,S [],ff,ff,ff,S [],.int .i32 0,rfl⟩;obtain⟨h2,w,s,r2,u,d⟩:=yr (m:=m+4*(fs.length-(k+1))) w1 VV.ba (vK.le Ab) nm1 hr fs[k].ok KE.2 KE.1;have gj:id<h1.length:=(Ak.1 R7).1;have I0:h2[id]?=some (.cells (H9.map Cl.row).flatten):=by rw[d.old id gj Nn];exact R7
 have TI:¬Bu bi s id:=λhg=>by
  rcases d.Bu id hg with hg|hg
  .exact Nn hg
  .omega
 have p:At h2 id (k*3) (I fs[k].c.node):=⟨_,I0,by have:=Lw (k:=0) (OD H9) AM hg;rw[Bv] at this;rw[this];rfl⟩
 let g:Cl:=⟨{fs[k].c with node:=b1.a.len+1},fs[k].v,fs[k].ok⟩
 have hrow:(H9.map Cl.row).flatten.set (k*3) (I (b1.a.len+1))=((H9.set k g).map Cl.row).flatten:=by have:=N1 (AE:=H9.map Cl.row) (i:=k) (k:=0) (v:= I (b1.a.len+1)) (OD H9) (by simpa using RU) AM;rw[Bv] at this;rw[Eo,BZ,Af (by rw[FQ (OD H9),An];omega)];rw[AI] at this;rw[show g.row=((H9.map Cl.row)[k]'(by simpa using RU)).set 0 (I (b1.a.len+1)) by rw[C1,r];rfl];exact this
 refine⟨h2,b1.a.len+1,ld 1 AM,ld 2 AM,r2,p.store rfl,⟨hlt,by have:=i.low;omega,w,s,_,H9.set k g,u.Dj λj hj=>Cb λe=>TI (e▸hj),P6 VV,nm1.L8 KE.1,Lu (m:=m+4*(fs.length-(k+1))) (vK.le Ab) KE.2 KE.1,?_,by rw[Bq];exact Wl,?_,?_,TI,⟨by rw[I7];exact(f.trans d).len,λj hj hn=>(Cb Ab).trans ((f.trans d).old j hj hn),(f.trans d).Bu⟩⟩⟩;.rw[Io I0,AO (by have:=d.len;omega),hrow]
 .rw[ZU (Nu k)];have:=Ca (λl=>l.drop 1) eS;simpa[Ek] using this
 .rw[la,AG yf,q,BS.Jn];simp only
  congr 1
  rw[AB (by rw[Bq];exact RU),aFo,BF,O5 (Ag k),AI];rfl
def aI6(w:RX h bi a o c t G b)(hc:B2 b.A6 c)(ok:Ey b)(rm:B6 b (m+4*b.A6.length))(hnm:Nm b.a):
  ∃h' o' c' G',BL cx 93 [Pt bi 0] h (.tuple []) h'/\RX h' bi a o' c' t G' b.CM/\B2 b.CM.A6 c'/\DC h (Bu bi G) h' (Bu bi G'):=by
 have ho:=rm.AN;have QE:=rm.A6;obtain⟨fs,Gu,hcs⟩:=hc;have Hp:b.A6.length=fs.length:=by rw[<-Gu,An]
 have I2:Ev cx 93 [Pt bi 0] h λr h'=>r= .tuple []/\∃o' c' G',RX h' bi a o' c' t G' b.CM/\B2 b.CM.A6 c'/\DC h (Bu bi G) h' (Bu bi G'):=by
  unfold Ev;have l3:=w.l3;have lc:=AU.CN hcs;rw[aDf];simp only[BD,l3,lc];refine DM (i:=0) (λn:Nat=>[I (n:Int)]) (λn h1=>n<=fs.length/\AT b.settled b.A6=AT b.settled (b.A6.take n)/\h1=h) (λn=>n) (λn h1=>n=b.Lt/\h1=h) fs.length rfl ⟨Ag _,by rw[<-Hp,Bx],rfl⟩ ?_ ?_
  .rintro n h1 ⟨hn,ha,rfl⟩;cases n with
   |zero=>simp only[abS,(AM:¬(0:Int)<((0:Nat):Int))];refine .HF 0 rfl ⟨?_,rfl⟩;unfold BS.Lt;rw[ha];rfl
   |succ n=>
    have hlt:n<b.A6.length:=Ab;have Tc:n<fs.length:=Ab;rw[GR hlt] at ha;have i1:=Il (n:=n+1) (Ab:0<n+1) (Ab:n+1<9223372036854775807);rw[E8] at i1;have d:=AU.BK (k:= .i64) hcs Tc;have en:fs[n].c=b.A6[n]:=by simp only[<-Gu,C1]
    have z:=aI5 w rm fs[n];rw[en] at z;have lM:fs[n].row.length=3:=rfl;have q:fs[n].row.take 3=fs[n].row:=rfl;simp only[abS,↓reduceIte,(Ab:(0:Int)<((n+1:Nat):Int)),l3,i1,d,lM,q,Ag,z.Ac];cases hs:b.settled b.A6[n] with
    |true=>rw[hs,Af rfl] at ha;simp only[abS];exact .HF (n+1) rfl ⟨by unfold BS.Lt;rw[ha];omega,rfl⟩
    |false=>rw[hs,Ad AM] at ha;simp only[abS];exact .next n rfl ⟨Ab,ha,rfl⟩ Ab
  .rintro n h1 ⟨rfl,M⟩;rw[M];by_cases hne:fs=[]
   .subst hne;have ha:b.A6=[]:=Gu.symm;have L:b.Lt=0:=by have:=Ti (b:=b);rw[ha] at this;exact Nat.le_zero.1 this
    have hb:b.CM=b:=by unfold BS.CM;rw[ha];simp only[aAc,BS.Jn,aAd,BR];rw[<-ha]
    have g0:=vU (h:=h) hcs;have f:=w.st (k:=3) (v:= .slnil) (v0:=c) rfl rfl;have w1:RX (put h bi 3 .slnil) bi a o .slnil t G b:=w.Kr (l:=b.A6);have d:=P8 w1.qX (bw (l:=[]) (.inr ⟨rfl,rfl⟩)) rfl;have hz:(b.Lt:Int)=((0:Nat):Int):=by rw[L]
    simp only[BD,↓reduceIte,l3,g0];refine DM (i:=2) (λn:Nat=>[I (n:Int)]) (λn h1=>n=0/\h1=h) (λn=>n) (λn h1=>n=0/\h1=h) 0 (by rw[hz]) ⟨rfl,rfl⟩ ?_ ?_;.rintro n h1 ⟨rfl,rfl⟩;simp only[BD,Nat.reduceLeDiff,↓reduceIte,AR,lO,show AD (.len false) [.slnil]=some (I 0) from rfl,(AM:¬((0:Nat):Int)<0)];exact .HF 0 rfl ⟨rfl,rfl⟩
    .rintro n h1 ⟨rfl,rfl⟩;simp only[BD,↓reduceIte,f,d];refine⟨_,rfl,rfl,o,.slnil,G,?_,⟨[],by rw[hb,ha];rfl,.inr ⟨rfl,rfl⟩⟩,Bg.trans Bg⟩;rw[hb];exact w1.Kr (l:=b.A6)
   .have i0:=lA.init (m:=m) w ok hnm rm Gu;have g1:=mi (h:=h) hcs hne Ab;have B:AD (.len false) [.CF h.length 0 fs.length 3]=some (I (fs.length:Int)):=rfl;simp only[BD,↓reduceIte,l3,g1];refine DM (i:=2) (λn:Nat=>[I (n:Int)]) (λk h1=>lA h bi a t c G b fs h.length m k h1) (λk=>fs.length-k) (λk h1=>k=fs.length/\lA h bi a t c G b fs h.length m k h1) b.Lt rfl i0 ?_ ?_
    .intro k h1 i;have En:=i.le;rcases AP k fs.length with hlt|Eg
     .obtain⟨h2,n,f,K,J,H,E⟩:=lA.step Gu rm.DE (Ag _) hlt i;have d:AD (.Fl 3) [.CF h.length 0 fs.length 3,I (k:Int)]=some (Pt h.length (k*3)):=EY hlt;have lg:fs[k].v.cells=[fs[k].v]:=AU.cells fs[k].ok;simp only[abS,Nat.reduceLeDiff,↓reduceIte,AR,B,(Ab:(k:Int)<(fs.length:Int)),d,f,K,lg,J.Ac,H,BM (Ab:k<9223372036854775807)];exact .next (k+1) rfl E Ab
     .simp only[abS,Nat.reduceLeDiff,↓reduceIte,AR,B,(Ab:¬(k:Int)<(fs.length:Int))];exact .HF k rfl ⟨Ab,i⟩
    .rintro k h1 ⟨rfl,i⟩;obtain⟨A,s,b1,H9,w1,VV,nm1,vK,R7,Wl,eS,la,Nn,C⟩:=i.ex;have g:h.length≠bi:=λe=>Nn (.inl e);have f:=w1.st (k:=3) (v:= .CF h.length 0 fs.length 3) (v0:=c) rfl rfl;have y:=w1.Kr (u:= .CF h.length 0 fs.length 3) (l:=b1.A6);have I0:(put h1 bi 3 (.CF h.length 0 fs.length 3))[h.length]?=_:=(Cb g).trans R7;have hf:=J0 (OD H9) I0;rw[An,Wl] at hf;have d:=P8 y.qX hf (by rw[Ao g]);have D:RX ((put h1 bi 3 (.CF h.length 0 fs.length 3)).set h.length .CR) bi a A _ t s {b1 with A6:=b1.A6}:=y.Dj λj hj=>Ao λe=>Nn (by rw[e];exact hj);simp only[BD,↓reduceIte,f,d];have hb:b.CM={b1 with A6:=H9.map (·.c)}:=by rw[la,AW Ab,AF Ab];simp only[BS.Jn,By]
     refine⟨_,rfl,rfl,A,_,s,by rw[hb];exact D.Kr,⟨H9,by rw[hb],.mk⟩,?_⟩;have p:=C.trans (Bg (bi:=bi) (G:=s) (k:=3) (v:= .CF h.length 0 fs.length 3));refine DC.trans ⟨by rw[Bq];exact p.len,λj hj hn=>?_,p.Bu⟩ Bg;rw[Ao Ab];exact p.old j hj hn
 obtain⟨r,h',hr,rfl,o',c',G',w',Jm,x'⟩:=I2.ret;exact⟨h',o',c',G',hr,w',Jm,x'⟩
end
section
variable{h h':Ah}{bi a:Nat}{o c t:Aa}{G G' F:Nat->Prop}{b:BS}{x:Int}{m j:Nat}{q:pT}
variable{nm:Ai}{av:Aa}{l:List A5}{r:List Aa}{sp p:Int}
def aNR(w:RX h bi a o c t G b)(hc:B2 b.A6 c)(ok:Ey b)(sz:Sz b (j+1))(hnm:Nm b.a)(hq:ly q)(hv:Bt q.Ay av):
  ∃h' o' c' t' G',BL cx 25 [Pt bi 0,.agg (LO q av)] h (.agg (YY b q).2.row) h'/\RX h' bi a o' c' t' G' (YY b q).1/\B2 (YY b q).1.A6 c'/\DC h (Bu bi G) h' (Bu bi G'):=by
 unfold YY LO;by_cases d:q.k=1;.rw[Af d];dsimp only;obtain⟨r,Vk,D,hr,DJ⟩:=VZ (q:=q) hv hq.Ay.1 h;rw[LO] at D;obtain⟨h',o',G',r2,w',x'⟩:=yr (m:=5000000*j) w ok sz.Y1 hnm hr DJ hq.Ay hq.name;refine⟨h',o',c,t,G',?_,w',by rw[EU];exact hc,x'⟩;rw[Ae,FI];simp only[abS,Nat.reduceLeDiff,↓reduceIte,AR,AQ d,D.Ac,r2.Ac];try rfl
 rw[Ad d];by_cases f:q.k=2;.rw[Af f];dsimp only;obtain⟨r,Vk,D,hr,DJ⟩:=VZ (q:=q) hv hq.Ay.1 h;rw[LO] at D;obtain⟨h',o',G',r2,w',x'⟩:=aIR (m:=5000000*j) w ok sz.Y1 hnm hr DJ hq.Ay hq.name q.Bc;refine⟨h',o',c,t,G',?_,w',by rw[EU];exact hc,x'⟩;rw[Ae,FI];simp only[abS,Nat.reduceLeDiff,↓reduceIte,AR,d,AQ f,D.Ac,r2.Ac];try rfl
 rw[Ad f];by_cases g:q.k=3;.rw[Af g];dsimp only;obtain⟨r,Vk,D,hr,DJ⟩:=VZ (q:=q) hv hq.Ay.1 h;rw[LO] at D;obtain⟨h',o',c',G',r2,w',Jm,x'⟩:=aNM (m:=5000000*j) w hc ok sz.Y1 hnm hr DJ hq.Ay hq.name;refine⟨h',o',c',t,G',?_,w',Jm,x'⟩;rw[Ae,FI];simp only[abS,Nat.reduceLeDiff,↓reduceIte,AR,d,f,AQ g,D.Ac,r2.Ac];try rfl
 rw[Ad g];by_cases i:q.k=4;.rw[Af i];dsimp only;obtain⟨h',G',r2,w',x'⟩:=aNN (m:=5000000*j) w ok sz.Y1 hnm q.r;refine⟨h',o,c,t,G',?_,w',hc,x'⟩;rw[Ae,FI];simp only[abS,↓reduceIte,AR,d,f,g,AQ i,r2.Ac];try rfl
 rw[Ad i];by_cases y:q.k=5;.rw[Af y];dsimp only;obtain⟨h',G',r2,w',x'⟩:=aNO (m:=5000000*j) w ok sz.Y1 hnm q.s (by have:=hq.s;omega) q.a;refine⟨h',o,c,t,G',?_,w',hc,x'⟩;rw[Ae,FI];simp only[abS,↓reduceIte,AR,d,f,g,i,AQ y,r2.Ac];try rfl
 rw[Ad y];by_cases z:q.k=6;.rw[Af z];dsimp only;obtain⟨r,Vk,D,hr,DJ⟩:=VZ (q:=q) hv hq.Ay.1 h;rw[LO] at D;obtain⟨h',o',G',r2,w',x'⟩:=aNK (m:=5000000*j) w ok sz.Y1 hnm hr DJ hq.Ay hq.name q.n;refine⟨h',o',c,t,G',?_,w',by show B2 (b.EF q.name q.Ay 1).A6 c;rw[EU];exact hc,x'⟩;rw[Ae,FI];simp only[abS,↓reduceIte,AR,d,f,g,i,y,AQ z,D.Ac,r2.Ac];try rfl
 rw[Ad z];by_cases A:q.k=7;.rw[Af A];dsimp only;obtain⟨h',o',r2,w',x'⟩:=aNJ w sz.rm;refine⟨h',o',c,t,G,?_,w',by have e:b.F7.A6=b.A6:=(by unfold BS.F7;split<;>rfl);rw[e];exact hc,x'⟩;rw[Ae,FI];simp only[abS,↓reduceIte,AR,d,f,g,i,y,z,AQ A,r2.Ac];try rfl
 rw[Ad A];by_cases B:q.k=8;.rw[Af B];dsimp only;obtain⟨h',o',c',G',r2,w',Jm,x'⟩:=aI6 (m:=5000000*j) w hc ok (sz.rm.le (by have:=sz.A6;omega)) hnm;refine⟨h',o',c',t,G',?_,w',Jm,x'⟩;rw[Ae,FI];simp only[abS,↓reduceIte,AR,d,f,g,i,y,z,A,AQ B,r2.Ac];try rfl
 rw[Ad B];by_cases C:q.k=9;.rw[Af C];dsimp only;obtain⟨h',o',r2,w',x'⟩:=aEb w sz.rm q.name;refine⟨h',o',c,t,G,?_,w',by have e:(b.CO q.name).A6=b.A6:=(by unfold BS.CO;split;split<;>rfl;rfl);rw[e];exact hc,x'⟩;rw[Ae,FI];simp only[abS,↓reduceIte,AR,d,f,g,i,y,z,A,B,AQ C,r2.Ac];try rfl
 rw[Ad C];by_cases MS:q.k=10;.rw[Af MS];dsimp only;obtain⟨h',o',c',G',r2,w',Jm,x'⟩:=aI4 (m:=5000000*j) w hc ok (sz.rm.le (by have:=sz.AN;omega)) hnm q.name;refine⟨h',o',c',t,G',?_,w',Jm,x'⟩;rw[Ae,FI];simp only[abS,↓reduceIte,AR,d,f,g,i,y,z,A,B,C,AQ MS,r2.Ac];try rfl
 rw[Ad MS];by_cases Oe:q.k=11;.rw[Af Oe];dsimp only;obtain⟨h',r2,w',x'⟩:=Ų w sz.rm;refine⟨h',o,c,t,G,?_,w',hc,x'⟩;rw[Ae,FI];simp only[abS,↓reduceIte,AR,d,f,g,i,y,z,A,B,C,MS,AQ Oe,r2.Ac];try rfl
 rw[Ad Oe];by_cases O4:q.k=12;.rw[Af O4];dsimp only;obtain⟨r,Vk,D,hr,DJ⟩:=VZ (q:=q) hv hq.Ay.1 h;rw[LO] at D;obtain⟨h',G',r2,w',x'⟩:=aNI (m:=5000000*j) w ok sz.Y1 hr DJ hq.Ay q.a;refine⟨h',o,c,t,G',?_,w',by have e:(b.Ge q.Ay q.a).A6=b.A6:=(by unfold BS.Ge;split<;>rfl);rw[e];exact hc,x'⟩;rw[Ae,FI];simp only[abS,↓reduceIte,AR,d,f,g,i,y,z,A,B,C,MS,Oe,AQ O4,D.Ac,r2.Ac];try rfl
 rw[Ad O4];by_cases Pl:q.k=13;.rw[Af Pl];dsimp only;obtain⟨h',o',c',t',r2,w',Jm,x'⟩:=aI3 w hc sz.rm;refine⟨h',o',c',t',G,?_,w',Jm,x'⟩;rw[Ae,FI];simp only[abS,↓reduceIte,AR,d,f,g,i,y,z,A,B,C,MS,Oe,O4,AQ Pl,r2.Ac];try rfl
 rw[Ad Pl];by_cases QM:q.k=14;.rw[Af QM];dsimp only;obtain⟨h',r2,w',x'⟩:=aNH w;refine⟨h',o,c,t,G,?_,w',hc,x'⟩;rw[Ae,FI];simp only[abS,↓reduceIte,AR,d,f,g,i,y,z,A,B,C,MS,Oe,O4,Pl,AQ QM,r2.Ac];try rfl
 rw[Ad QM];by_cases Uq:q.k=15;.rw[Af Uq];dsimp only;have w':RX (put h bi 15 (.bool q.b)) bi a o c t G {b with ET:=q.b}:=w.put rfl rfl w.o w.t;refine⟨put h bi 15 (.bool q.b),o,c,t,G,?_,w',hc,Bg⟩;rw[Ae,FI];simp only[abS,↓reduceIte,AR,d,f,g,i,y,z,A,B,C,MS,Oe,O4,Pl,QM,AQ Uq,w.st (k:=15) (v:= .bool q.b) rfl rfl];try rfl
 rw[Ad Uq];by_cases V0:q.k=16;.rw[Af V0];dsimp only;have K:=sz.rm.tm;have dU:AX=140737488355328:=rfl;obtain⟨u,M,hu⟩:=AU.Gy (b:=8) w.t Ab;have L:=AU.J2 (b:=8) (a:=q.n) hu Ab;have em:AD (.Dm 1) [I q.n]=some (.sl 1 [Ce q.n]):=rfl;have Jh:D4 (b.tm++[q.n]) (.sl 1 ((b.tm++[q.n]).map Ce)):= .mk;have w':=w.pI Jh;refine⟨put h bi 6 (.sl 1 ((b.tm++[q.n]).map Ce)),o,c,_,G,?_,w',hc,Bg⟩;rw[Ae,FI];simp only[abS,↓reduceIte,AR,d,f,g,i,y,z,A,B,C,MS,Oe,O4,Pl,QM,Uq,AQ V0,w.l6,M,em,L,w.st (k:=6) (v0:=t) rfl (AU.cells Jh)];try rfl
 rw[Ad V0];by_cases Y2:q.k=17
 .rw[Af Y2];dsimp only;have QE:=sz.rm.A6;obtain⟨u,r2,Jm,H⟩:=hc.wi Ab (e:=Cp.zero) (v:= .slnil) (.inr ⟨rfl,rfl⟩) AM (b.A6.length:Int) h;rw[Vm (Ag _),Bx,Ep] at Jm;have w':=w.Kr (u:=u) (l:=b.A6++[Cp.zero]);have lc:AD (.len false) [c]=some (I (b.A6.length:Int)):=by obtain⟨fs,Gu,Sx⟩:=hc;rw[AU.CN Sx,<-Gu,An]
  have E:BL cx 100 [c,.agg [I 0,S [],.slnil],I (b.A6.length:Int)] h u h:=r2;refine⟨put h bi 3 u,o,u,t,G,?_,w',Jm,Bg⟩;rw[Ae,FI];simp only[abS,↓reduceIte,AR,d,f,g,i,y,z,A,B,C,MS,Oe,O4,Pl,QM,Uq,V0,AQ Y2,w.l3,lc,E.Ac,w.st (k:=3) (v0:=c) rfl H];try rfl
 rw[Ad Y2];by_cases ZR:q.k=18;.rw[Af ZR];dsimp only;obtain⟨h',o',r2,w',x'⟩:=aNL w sz.rm;refine⟨h',o',c,t,G,?_,w',by have e:b.LR.A6=b.A6:=(by unfold BS.LR;split<;>rfl);rw[e];exact hc,x'⟩;rw[Ae,FI];simp only[abS,↓reduceIte,AR,E9,d,f,g,i,y,z,A,B,C,MS,Oe,O4,Pl,QM,Uq,V0,Y2,AQ ZR,r2.Ac];try rfl
 rw[Ad ZR];by_cases kU:q.k=19;.rw[Af kU];dsimp only;have w':RX (put h bi 7 (I q.a)) bi a o c t G {b with head:=q.a}:=w.put rfl rfl w.o w.t;refine⟨put h bi 7 (I q.a),o,c,t,G,?_,w',hc,Bg⟩;rw[Ae,FI];simp only[abS,↓reduceIte,AR,d,f,g,i,y,z,A,B,C,MS,Oe,O4,Pl,QM,Uq,V0,Y2,ZR,AQ kU,w.st (k:=7) (v:= I q.a) rfl rfl];try rfl
 rw[Ad kU];by_cases pV:q.k=20;.rw[Af pV];dsimp only;have w':=w.pH q.n;refine⟨put h bi 4 (I q.n),o,c,t,G,?_,w',hc,Bg⟩;rw[Ae,FI];simp only[abS,↓reduceIte,AR,d,f,g,i,y,z,A,B,C,MS,Oe,O4,Pl,QM,Uq,V0,Y2,ZR,kU,AQ pV,w.st (k:=4) (v:= I q.n) rfl rfl];try rfl
 rw[Ad pV];by_cases vP:q.k=21;.rw[Af vP];dsimp only;have QE:=sz.rm.A6;obtain⟨fs,Gu,Sx⟩:=hc;obtain⟨u,r2,hu⟩:=f84 (h:=h) Sx (by rw[<-Gu,An] at QE;omega);have w':=w.Kr (u:=u) (l:=EE b.A6);have Jm:B2 (EE b.A6) u:=⟨_,by rw[QJ,Gu],hu⟩;refine⟨put h bi 3 u,o,u,t,G,?_,w',Jm,Bg⟩;rw[Ae,FI];simp only[abS,↓reduceIte,AR,d,f,g,i,y,z,A,B,C,MS,Oe,O4,Pl,QM,Uq,V0,Y2,ZR,kU,pV,AQ vP,w.l3,r2.Ac,w.st (k:=3) (v0:=c) rfl (AU.cells hu)];try rfl
 rw[Ad vP];by_cases l_:q.k=22;.rw[Af l_];dsimp only;have ho:=sz.rm.AN;have ld:A8 h none (Pt bi 2)=some o:=w.ld 2;have em:AD (.Dm 1) [.str q.name]=some (.sl 1 ([q.name].map Cr)):=DR (ws:=[q.name]) rfl AH;obtain⟨u,J,r2,hu⟩:=f85 (h:=h) w.o Ab (Cc (ws:=[q.name])) AH;rw[<-KR] at hu;have w1:=w.HJ (u:=J);have w':=w1.HU hu;refine⟨put (h++J) bi 2 u,u,c,t,G,?_,w',hc,w.C6.trans Bg⟩;rw[Ae,FI];simp only[abS,↓reduceIte,AR,d,f,g,i,y,z,A,B,C,MS,Oe,O4,Pl,QM,Uq,V0,Y2,ZR,kU,pV,vP,AQ l_,ld,em,r2.Ac,w1.st (k:=2) (v0:=o) rfl (AU.cells hu)];try rfl
 rw[Ad l_];by_cases yh:q.k=23;.rw[Af yh];dsimp only;have w':RX (put h bi 8 (I q.a)) bi a o c t G {b with Fk:=q.a}:=w.put rfl rfl w.o w.t;refine⟨put h bi 8 (I q.a),o,c,t,G,?_,w',hc,Bg⟩;rw[Ae,FI];simp only[abS,↓reduceIte,AR,d,f,g,i,y,z,A,B,C,MS,Oe,O4,Pl,QM,Uq,V0,Y2,ZR,kU,pV,vP,l_,AQ yh,w.st (k:=8) (v:= I q.a) rfl rfl];try rfl
 rw[Ad yh];by_cases Ũ:q.k=24;.rw[Af Ũ];dsimp only;obtain⟨r,Vk,D,hr,DJ⟩:=VZ (q:=q) hv hq.Ay.1 h;rw[LO] at D;obtain⟨h',G',r2,w',x'⟩:=ŭ (m:=5000000*j) w ok sz.Y1 hnm hr DJ hq.Ay hq.name q.a q.Bc;refine⟨h',o,c,t,G',?_,w',by have e:(b.Er q.name q.Ay q.Bc q.a).A6=b.A6:=(by unfold BS.Er;split<;>rfl);rw[e];exact hc,x'⟩;rw[Ae,FI];simp only[abS,↓reduceIte,AR,E9,d,f,g,i,y,z,A,B,C,MS,Oe,O4,Pl,QM,Uq,V0,Y2,ZR,kU,pV,vP,l_,yh,AQ Ũ,D.Ac,r2.Ac];try rfl
 rw[Ad Ũ];refine⟨h,o,c,t,G,?_,w,hc,.refl⟩;rw[Ae,FI];simp only[abS,↓reduceIte,AR,d,f,g,i,y,z,A,B,C,MS,Oe,O4,Pl,QM,Uq,V0,Y2,ZR,kU,pV,vP,l_,yh,Ũ];try rfl
end
section
variable{h h':Ah}{bi a:Nat}{o c t:Aa}{G G' F:Nat->Prop}{b:BS}{x:Int}{m j:Nat}{q:pT}
variable{nm:Ai}{av:Aa}{l:List A5}{r:List Aa}{sp p:Int}
def vV(h:Ah):Wj h []=some (h++[.CR,.cells RN.z.row,.cells [I 0],.cells [.CF (h.length+1) 0 1 13,.CF (h.length+2) 0 1 1]],.ptr (some (h.length+3,0))):=by unfold Wj;simp only[AI,CC,BR];rfl
def aNS(h:Ah):BL cx 61 [] h (.ptr (some (h.length+3,0))) (h++[.CR,.cells RN.z.row,.cells [I 0],.cells [.CF (h.length+1) 0 1 13,.CF (h.length+2) 0 1 1]]):=by have d:E3 (.Rq Wj) h []=some (h++[.CR,.cells RN.z.row,.cells [I 0],.cells [.CF (h.length+1) 0 1 13,.CF (h.length+2) 0 1 1]],.ptr (some (h.length+3,0))):=vV h;rw[Ae,show B9 cx 61 []=Wk [] from rfl,Wk];simp only[BD,d]
def ų(h:Ah):RA (h++[.CR,.cells RN.z.row,.cells [I 0],.cells [.CF (h.length+1) 0 1 13,.CF (h.length+2) 0 1 1]]) (h.length+3) (h.length+1) (h.length+2) [] ⟨[],[]⟩:=by
 refine⟨rfl,rfl,?_,?_,?_,Ab,Ab,Ab⟩;.rw[Bm Ab,(Ab:h.length+3 -h.length=3)];rfl
 .rw[Bm Ab,(Ab:h.length+1 -h.length=1)];rfl
 .rw[Bm Ab,(Ab:h.length+2 -h.length=2)];rfl
def aI7(h:Ah)(q:Bool):∃h1 h2 h' a bi G,BL cx 61 [] h (Pt a 0) h1/\BL cx 62 [Pt a 0,.bool q] h1 (I 1) h2/\BL cx 64 [Pt a 0,I 1] h2 (Pt bi 0) h'/\RX h' bi a .slnil .slnil .slnil G (DD q)/\DC h (λ_=>False) h' (Bu bi G):=by
 obtain⟨h2,f,g,vD,r2,d,e⟩:=aII (ų h) (by show(0:Int)<=1000000000;decide) q;have d:RA h2 (h.length+3) f g vD (nv q):=d;have hx:(nv q).has 1:=⟨GB 1,GB 1⟩;have hk:((nv q).nd 1).kind=1:=by rw[show(nv q).nd 1=(DD q).a.nd 1 from rfl,OP,Af rfl]
 have i:=cy d hx hk;have En:h.length+4<=h2.length:=by have:=e.len;simpa using this
 refine⟨_,h2,h2++[.cells (Jo (h.length+3) (DD q) .slnil .slnil .slnil)],h.length+3,h2.length,JB (h.length+3) f g,aNS h,r2,?_,⟨AH,.inr ⟨rfl,rfl⟩,.inr ⟨rfl,rfl⟩,⟨f,g,vD,d.Dj λj hj=>Aj (d.lt hj),rfl⟩,λhj=>absurd (d.lt hj) (Dr _)⟩,⟨?_,λj hj _=>?_,λj hj=> .inr ?_⟩⟩;.rw[Ae,aC9];simp only[abS,Nat.reduceLeDiff,↓reduceIte,AR,i.Ac,BW];rfl
 .simp;omega
 .rw[Aj Ab,e.old j Ei (by unfold JB;omega),Aj hj]
 .rcases hj with rfl|hj
  .omega
  .rcases e.Bu j hj with hj|hj
   .unfold JB at hj;omega
   .simp at hj;omega
def RX.yj(w:RX h bi a o c t G b)(i:Item):∃h',Cv h 4 (Pt bi 10) (.agg i.row)=some h'/\RX h' bi a o c t G {b with ctx:=i}/\DC h (Bu bi G) h' (Bu bi G):=by refine⟨h.set bi (.cells (Jo a {b with ctx:=i} o c t)),?_,⟨AO w.lt,w.o,w.t,w.w.Dj λj hj=>Ao λe=>w.nb (by rw[e];exact hj),w.nb⟩,⟨by rw[Bq];exact Ag _,λj _ hn=>Ao λe=>hn (.inl e.symm),λ_ h=> .inl h⟩⟩;simp only[Cv,w.hb];rfl
def aNT(h:Ah)(sp:Int)(nm:Ai)(hv:Bt l av)(hl:DL l)(hn:nm.length<=1000)(q f q':Bool):∃h1 h2 h' a bi o t G,BL cx 61 [] h (Pt a 0) h1/\BL cx 62 [Pt a 0,.bool q] h1 (I 1) h2/\BL cx 63 [Pt a 0,I 1,.agg [I sp,.str nm,av,.bool q',.bool f]] h2 (Pt bi 0) h'/\RX h' bi a o .slnil t G (Ur sp nm l q f)/\DC h (λ_=>False) h' (Bu bi G):=by
 obtain⟨h1,h2,h3,a,bi,G,r1,r2,H,w,x⟩:=aI7 h q;have ok0:=OO q;have Pd:(DD q).a.has 1:=⟨GB 1,GB 1⟩;have Zp:((DD q).a.nd 1).kind=1:=by rw[OP,Af rfl]
 have U:(DD q).IJ 1=1:=by unfold BS.IJ;rw[OP,Af rfl];rfl
 have K:(DD q).Er DI [] 1 1={DD q with a:=(DD q).a.elem 1 1 DI []}:=by unfold BS.Er;rw[Af JV,U];rfl
 have L:(DD q).GA DI [] 1=⟨2,1,DI,false⟩:=by unfold BS.GA;rw[Af JV];rfl
 obtain⟨h4,G4,E,w4,x4⟩:=w.step (A':=(DD q).a.elem 1 1 DI []) (R:=λh'=>BL cx 165 [Pt a 0,I 1,I 1,.str DI,.slnil] h3 (.tuple [I ((DD q).a.len+1),I 0]) h') (λn i ps wa=>aBp (l:=[]) wa (by show(1:Int)+3<=1000000000;decide) Pd Zp JV (.inr ⟨rfl,rfl⟩) AM (λy hy=>(nomatch hy)));rw[<-K] at w4;obtain⟨nr,f4,le4⟩:=P5 (nm:=DI) (at_:=[]) (p:=1) (OO q) JV;have T:=Ja (m:=1000) (nm:=DI) (l:=[]) (sp:=1) (p:=1) ((OQ q).rm.le Ab) ⟨AM,λa ha=>(nomatch ha)⟩;obtain⟨N,e,A,w5,x5⟩:=da w4 nr.ba T 1 ((DD q).GA DI [] 1).node 0;have ho:((DD q).Er DI [] 1 1).AN=[]:=by rw[K];rfl
 have H_:BY (((DD q).Er DI [] 1 1).AN++[(DD q).GA DI [] 1]) (.sl 4 [((DD q).GA DI [] 1).row]):=by rw[ho];exact .mk
 have u:=w5.st (k:=2) (v:= .sl 4 [((DD q).GA DI [] 1).row]) (v0:= .slnil) rfl rfl;have Q:=w5.HU H_;have s:Cv (put N bi 2 (.sl 4 [((DD q).GA DI [] 1).row])) 1 (Pt bi 9) tt=some (put (put N bi 2 (.sl 4 [((DD q).GA DI [] 1).row])) bi 9 tt):=Q.st (k:=9) (v:=tt) (v0:= .bool ((DD q).Er DI [] 1 1).L3) rfl rfl;have w7:RX (put (put N bi 2 (.sl 4 [((DD q).GA DI [] 1).row])) bi 9 tt) bi a _ .slnil .slnil e _:=Q.put (k:=9) (v:=tt) (b':={{{(DD q).Er DI [] 1 1 with a:=((DD q).Er DI [] 1 1).a.Ex ((DD q).GA DI [] 1).node 1 0} with AN:=((DD q).Er DI [] 1 1).AN++[(DD q).GA DI [] 1]} with L3:=true}) rfl rfl H_ Q.t;have Y:DC h (λ_=>False) (put (put N bi 2 (.sl 4 [((DD q).GA DI [] 1).row])) bi 9 tt) (Bu bi e):=((((x.trans x4).trans x5).trans Bg).trans Bg);have YT:((DD q).GA DI [] 1).node=(DD q).a.len+1:=by rw[L];rfl
 rw[YT] at A;have aI8:((DD q).GA DI [] 1).row=[I ((DD q).a.len+1),I 1,S DI,ff]:=by rw[L];rfl
 rw[aI8] at u s w7 Y;generalize put N bi 2 (.sl 4 [[I ((DD q).a.len+1),I 1,S DI,ff]])=h6 at*;generalize put h6 bi 9 tt=h7 at*;have D:=aGT (h:=h7) hv (λa ha=>by have:=(hl.2 a ha).2;have:AX=140737488355328:=rfl;omega) (by have:=hl.1;omega) sp nm Ab;obtain⟨C,s8,Z,x8⟩:=w7.yj ⟨0,sp,nm,Fj sp nm l⟩;have g:RX C bi a _ .slnil .slnil e (Jj sp nm l q):=Z;have P:=Y.trans x8;clear Z;have yk:Cv h7 4 (Pt bi 10) (.agg [I 0,I sp,.str nm,.bool (Fj sp nm l)])=some C:=s8;have aD6:(Jj sp nm l q).ctx=⟨0,sp,nm,Fj sp nm l⟩:=rfl;obtain⟨aNt,Ū⟩:=Y3 sp nm l q;have key:∃M t9,RX M bi a (.sl 4 [[I ((DD q).a.len+1),I 1,S DI,ff]]) .slnil t9 e (LS sp nm l q)/\DC C (Bu bi e) M (Bu bi e)/\((sp=1/\nm=AZ)->Cv C 1 (Pt bi 6) (.sl 1 [[I 18]])=some M)/\(¬(sp=1/\nm=AZ)->M=C):=by
  by_cases O:sp=1/\nm=AZ;.have hu:D4 [18] (.sl 1 [[I 18]]):= .mk;refine⟨put C bi 6 (.sl 1 [[I 18]]),.sl 1 [[I 18]],?_,Bg,λ_=>g.st (k:=6) (v0:= .slnil) rfl rfl,λh=>absurd O h⟩;unfold LS;rw[Af (by rw[QK,aD6];exact As O)];exact g.pI hu
  .refine⟨C,.slnil,?_,.refl,λh=>absurd h O,λ_=>rfl⟩;unfold LS;rw[Ad (by rw[QK,aD6];exact λh=>O (J9 h))];exact g
 obtain⟨M,t9,w9,x9,k1,k2⟩:=key;obtain⟨VU,cg,Uo,cm⟩:=Ų w9 Ū.rm;have em:AD (.Dm 1) [I 18]=some (.sl 1 [[I 18]]):=rfl;have Ű:AD (.Dm 4) [.agg [I ((DD q).a.len+1),I 1,S DI,ff]]=some (.sl 4 [[I ((DD q).a.len+1),I 1,S DI,ff]]):=rfl;have X:DC h (λ_=>False) VU (Bu bi e):=(P.trans x9).trans cm;have z:=Uo.st (k:=8) (v:=I (-1)) rfl rfl;have hw:DI=aUi:=rfl;have HF:∃h',RX h' bi a (.sl 4 [[I ((DD q).a.len+1),I 1,S DI,ff]]) .slnil t9 e (Ur sp nm l q f)/\DC h (λ_=>False) h' (Bu bi e)/\(f=true->h'=put VU bi 8 (I (-1)))/\(f=false->h'=VU):=by
  cases f with
  |true=>exact⟨_,by unfold Ur;rw[Af rfl];exact Uo.put (k:=8) rfl rfl Uo.o Uo.t,X.trans Bg,λ_=>rfl,λh=>absurd h AM⟩
  |false=>exact⟨VU,Uo,X,λh=>absurd h AM,λ_=>rfl⟩
 obtain⟨h',w',x',W,V⟩:=HF;refine⟨h1,h2,h',a,bi,_,t9,e,r1,r2,?_,w',x'⟩;rw[Ae,aC8];by_cases hsp:sp=1
 .by_cases d:nm=AZ
  .have J:=k1 ⟨hsp,d⟩;cases f with
   |true=>rw[W rfl];simp only[abS,Nat.reduceLeDiff,↓reduceIte,AR,JZ,H.Ac,E.Ac,A.Ac,Ű,u,s,D.Ac,yk,AQ hsp,AQ d,em,J,cg.Ac,z]
   |false=>rw[V rfl];simp only[abS,Nat.reduceLeDiff,↓reduceIte,AR,JZ,H.Ac,E.Ac,A.Ac,Ű,u,s,D.Ac,yk,AQ hsp,AQ d,em,J,cg.Ac]
  .have B:=k2 λh=>d h.2;subst B;cases f with
   |true=>rw[W rfl];simp only[abS,Nat.reduceLeDiff,↓reduceIte,AR,JZ,H.Ac,E.Ac,A.Ac,Ű,u,s,D.Ac,yk,AQ hsp,d,cg.Ac,z]
   |false=>rw[V rfl];simp only[abS,Nat.reduceLeDiff,↓reduceIte,AR,JZ,H.Ac,E.Ac,A.Ac,Ű,u,s,D.Ac,yk,AQ hsp,d,cg.Ac]
 .have B:=k2 λh=>hsp h.1;subst B;cases f with
  |true=>rw[W rfl];simp only[abS,Nat.reduceLeDiff,↓reduceIte,AR,JZ,H.Ac,E.Ac,A.Ac,Ű,u,s,D.Ac,yk,hsp,cg.Ac,z]
  |false=>rw[V rfl];simp only[abS,Nat.reduceLeDiff,↓reduceIte,AR,JZ,H.Ac,E.Ac,A.Ac,Ű,u,s,D.Ac,yk,hsp,cg.Ac]
def aNV(h:Ah)(s:EW)(hv:Bt s.Ay av)(hl:DL s.Ay)(hn:s.name.length<=1000):∃h' bi a o c t G,BL cx 23 [.agg (MA s av)] h (Pt bi 0) h'/\RX h' bi a o c t G s.b/\B2 s.b.A6 c/\DC h (λ_=>False) h' (Bu bi G):=by
 have sQ:(Jj s.Bc s.name s.Ay s.CK).A6=[]:=by unfold Jj;simp only;unfold BS.Er;rw[Af JV];rfl
 have Zg:av.cells=[av]:=AU.cells hv;cases hf:s.L3 with
 |true=>
  obtain⟨h1,h2,h',a,bi,o,t,G,f,r2,d,w,x⟩:=aNT h s.Bc s.name hv hl hn s.CK s.Fk s.CK;refine⟨h',bi,a,o,.slnil,t,G,?_,by unfold EW.b;rw[Af hf];exact w,?_,x⟩;.rw[Ae,vi,MA,hf];simp only[BD,f.Ac,r2.Ac,d.Ac]
  .have e:s.b.A6=[]:=by unfold EW.b Ur LS;rw[Af hf];split<;>split<;>exact sQ
   rw[e];exact⟨[],rfl,.inr ⟨rfl,rfl⟩⟩
 |false=>
  obtain⟨h1,h2,h',a,bi,G,f,r2,d,w,x⟩:=aI7 h s.CK;have e:s.b=DD s.CK:=by unfold EW.b;rw[Ad (by rw[hf];decide)]
  refine⟨h',bi,a,.slnil,.slnil,.slnil,G,?_,by rw[e];exact w,by rw[e];exact⟨[],rfl,.inr ⟨rfl,rfl⟩⟩,x⟩;rw[Ae,vi,MA,hf];simp only[BD,f.Ac,r2.Ac,d.Ac]
end
section
variable{h h':Ah}{bi a lo:Nat}{o c t:Aa}{G G' F:Nat->Prop}{b:BS}{x:Int}{m:Nat}
def aNW(w:RX h bi a o c t G b)(hc:B2 b.A6 c)(rm:B6 b m):∃t' o' c' u,BL cx 49 [Pt bi 0] h (.agg (Vl b.W9 t' o' c')) (h++u)/\Tn (h++u) h.length b.W9 t' o' c':=by
 have dU:AX=140737488355328:=rfl;have ho:=rm.AN;have QE:=rm.A6;have L:=rm.tm;obtain⟨t',e0,Gc⟩:=AU.Gy (b:=8) w.t Ab;have E:t'.cells=[t']:=AU.cells Gc;obtain⟨fs,Gu,hv⟩:=hc;have Hp:b.A6.length=fs.length:=by rw[<-Gu,An]
 have I2:Ev cx 49 [Pt bi 0] h λr h'=>∃t' o' c' u,r= .agg (Vl b.W9 t' o' c')/\h'=h++u/\Tn (h++u) h.length b.W9 t' o' c':=by
  unfold Ev;rw[aC5];simp only[abS,Nat.reduceLeDiff,↓reduceIte,AR,w.ld,Jo,e0,E];refine DM (i:=0) (λz:Aa×Nat=>[.agg [I b.mode,I b.S0,t',z.1,.slnil,I b.head,I b.Fk,.bool b.fs,.bool b.ET,.str b.oL,.bool b.skip,I b.sw,.bool b.stop],I (z.2:Int)]) (λz h1=>z.2<=b.AN.length/\∃u,h1=h++u/\Nc (h++u) h.length z.1 ((b.AN.take z.2).map Item.node)) (λz=>b.AN.length-z.2) (λz h1=>∃u,h1=h++u/\Nc (h++u) h.length z.1 (b.AN.map Item.node)) (.slnil,0) rfl ⟨AV _,[],AH,.inl ⟨rfl,AH⟩⟩ ?_ ?_
  .rintro⟨V,n⟩ h1 ⟨hn,u,rfl,d⟩;simp only at hn d;have w1:=w.HJ (u:=u);have ny:A8 (h++u) none (Pt bi 2)=some o:=w1.ld 2;have p:=AU.CN w.o;have y:=d.cells;rcases AP n b.AN.length with hlt|Eg
   .have B:=AU.BK (k:= .i64) w.o hlt;rw[Item.row] at B;obtain⟨D,H,g1,e⟩:=aBj d (by rw[An,Aw];omega) b.AN[n].node;have f:=e.cells;have em:AD (.Dm 1) [I b.AN[n].node]=some (.sl 1 [[I b.AN[n].node]]):=rfl;simp only[abS,↓reduceIte,ny,p,(Ab:(n:Int)<(b.AN.length:Int)),B,em,g1,f,BM (Ab:n<9223372036854775807)];exact .next (H,n+1) rfl ⟨hlt,D,rfl,by rw[AB hlt,BF];exact e⟩ Dx
   .rw[AF Eg] at d;simp only[abS,↓reduceIte,ny,p,(Ab:¬(n:Int)<(b.AN.length:Int))];exact .HF (V,n) rfl ⟨u,rfl,d⟩
  .rintro⟨O,N⟩ h1 ⟨u,rfl,C⟩;simp only at C;have M:=C.cells;simp only[BD,↓reduceIte];have J:=w.HJ (u:=u);have s:h.length<=(h++u).length:=AH;obtain⟨l,j⟩:∃l,l=h++u:=⟨_,rfl⟩;rw[<-j] at C J s⊢;refine DM (i:=2) (λz:Aa×Nat=>[.agg [I b.mode,I b.S0,t',O,z.1,I b.head,I b.Fk,.bool b.fs,.bool b.ET,.str b.oL,.bool b.skip,I b.sw,.bool b.stop],I (z.2:Int)]) (λz h1=>z.2<=fs.length/\∃g,h1=l++g/\MB (l++g) l.length z.1 ((b.A6.take z.2))) (λz=>fs.length-z.2) (λz h1=>∃g,h1=l++g/\MB (l++g) l.length z.1 b.A6) (.slnil,0) rfl ⟨AV _,[],AH,.inl ⟨rfl,AH⟩⟩ ?_ ?_
   .rintro⟨V,n⟩ h1 ⟨hn,g,rfl,d⟩;simp only at hn d;have w1:=J.HJ (u:=g);have q:=w1.l3;have lc:=AU.CN hv;have y:=d.cells;rcases AP n fs.length with hlt|Eg
    .have B:=AU.BK (k:= .i64) hv hlt;rw[Cl.row] at B;have A:fs[n].c=b.A6[n]:=by simp only[<-Gu,C1]
     have Wb:=(rm.DE fs[n].c (by rw[A];exact AL _)).2.1;obtain⟨av,ea,Zg⟩:=AU.Gy (b:=40) fs[n].ok Ab;have K:fs[n].v.cells=[fs[n].v]:=AU.cells fs[n].ok;have aD7:av.cells=[av]:=AU.cells Zg;obtain⟨D,H,g1,e⟩:=aIr d (by rw[Aw];omega) ⟨fs[n].c,av,Zg⟩;rw[Cl.row] at g1;simp only at g1 e;have f:=e.cells;have em:AD (.Dm 3) [.agg [I fs[n].c.node,.str fs[n].c.name,av]]=some (.sl 3 [[I fs[n].c.node,.str fs[n].c.name,av]]):=Mc rfl;simp only[abS,Nat.reduceLeDiff,↓reduceIte,AR,q,lc,(Ab:(n:Int)<(fs.length:Int)),B,ea,aD7,em];simp only[BD,↓reduceIte,g1,f,BM (Ab:n<9223372036854775807)];exact .next (H,n+1) rfl ⟨hlt,D,rfl,by rw[AB Ab,<-A];exact e⟩ Dx
    .rw[AF Ab] at d;simp only[abS,Nat.reduceLeDiff,↓reduceIte,AR,q,lc,(Ab:¬(n:Int)<(fs.length:Int)),aaS];exact .HF (V,n) rfl ⟨g,rfl,d⟩
   .rintro⟨V,n⟩ h1 ⟨g,rfl,d⟩;simp only at d;have y:=d.cells;simp only[BD,↓reduceIte];refine⟨_,rfl,t',O,V,u++g,rfl,by rw[j,AI],.inl Gc,?_,?_⟩;.rw[<-AI,<-j];exact C.Dj λi _ hi=>Aj hi
    .rw[<-AI,<-j];exact d.low s
 obtain⟨r,h',hr,t',o',c',u,rfl,rfl,hs⟩:=I2.ret;exact⟨t',o',c',u,hr,hs⟩
end
section
variable{h h':Ah}{a n i:Nat}{ps:List RN}{A:Ar}{x:Int}
def aNX(w:RA h a n i ps A)(hb:A.n.length<=900000000):BL cx 149 [Pt a 0] h (I A.len) h:=by
 have hl:=w.len;have e:((ps.length+1:Nat):Int)-1=A.len:=by unfold Ar.len;omega
 have hs:=Da (a:=((ps.length+1:Nat):Int)) (b:=1) Ab Ab;rw[e] at hs;rw[Ae,ą];simp only[BD,lO,w.nodes,show AD (.len false) [.CF n 0 (ps.length+1) 13]=some (I ((ps.length+1:Nat):Int)) from rfl,hs]
def aI9(p:RN)(h1:p.x.Bb.length<=1000000000)(h2:p.x.Ay.length<=1000000000)(h:Ah):∃r,BL cx 297 [.agg p.row] h (.agg r) h/\∀h',NRd h' p.x r:=by have dU:AX=140737488355328:=rfl;obtain⟨K,j,d⟩:=AU.Gy (b:=8) p.okk Ab;obtain⟨V,g,c⟩:=AU.Gy (b:=40) p.oka Ab;have kc:p.kv.cells=[p.kv]:=AU.cells p.okk;have vc:p.av.cells=[p.av]:=AU.cells p.oka;have f:K.cells=[K]:=AU.cells d;have e:V.cells=[V]:=AU.cells c;refine⟨_,?_,λh'=>⟨K,V,rfl,D4.RS d,YM c,f,e⟩⟩;rw[Ae,Į,RN.row];simp only[BD,j,f,g,e]
def aNY(w:RA h a n i ps A)(hk:∀x,(A.nd x).Bb.length<=1000000000)(ha:∀x,(A.nd x).Ay.length<=1000000000)(hb:A.n.length<=900000000):∃v,BL cx 152 [Pt a 0] h v h/\∀h',Y5 h' v A.n:=by
 have dU:AX=140737488355328:=rfl;have lJ:=w.len;have I2:Ev cx 152 [Pt a 0] h λr h'=>h'=h/\∀h',Y5 h' r A.n:=by
  unfold Ev;rw[Ĉ];refine Bi (λz:Aa×Nat=>[z.1,I ((z.2+1:Nat):Int)]) (λz h1=>z.2<=ps.length/\h1=h/\∃AE:List (List Aa),AU 13 AE z.1/\AE.length=z.2/\∀h' k (h1:k<AE.length) (h2:k<A.n.length),NRd h' A.n[k] AE[k]) (λz=>ps.length-z.2) (.slnil,0) rfl ⟨AV _,rfl,[],.nil,rfl,λh' k h1=>by simp at h1⟩ ?_;rintro⟨V,k⟩ h1 ⟨Zp,rfl,AE,d,e,f⟩;simp only at Zp d e;have g:AD (.len false) [.CF n 0 (ps.length+1) 13]=some (I ((ps.length+1:Nat):Int)):=rfl;rcases AP k ps.length with hlt|Eg
  .obtain⟨hx,ex⟩:=vS (A:=A) (k:=k) Ab;have c:=(w.pn hx).2;have ld:=w.aBo hx;have ea:=w.addr hx;obtain⟨r,l,hr⟩:=aI9 (pR ps ((k:Int)+1)) (by rw[c];exact hk _) (by rw[c];exact ha _) h1;rw[c,ex] at hr;have em:AD (.Dm 13) [.agg r]=some (.sl 13 [r]):=by obtain⟨K,W,o,_⟩:=hr [];exact Mp (a:= .agg r) (by rw[o];rfl) AM
   have s:=AU.tJ (b:=168) (row:=r) d Ab;have p:((k+1:Nat):Int)=(k:Int)+1:=Ab;have inc:AD (.int .add) [I ((k:Int)+1),I 1]=some (I ((k:Int)+1+1)):=OB Ab Ab;simp only[abS,w.nodes,g,p,(Ab:(k:Int)+1<(ps.length:Int)+1),Int.natCast_add,Int.natCast_one,ea,ld,l.Ac,em,s,inc];refine AK.next (_,k+1) rfl ⟨hlt,rfl,AE++[r],.mk,by simp[e],λh' j h1 h2=>?_⟩ Dx;by_cases hj:j<AE.length;.rw[Gl hj];exact f h' j hj h2
   .have q:j=k:=by simp at h1;omega
    subst q;rw[K_ Ab];simp only[e,De,aEI];exact hr h'
  .simp only[abS,w.nodes,g,(Ab:¬((k+1:Nat):Int)<((ps.length+1:Nat):Int))];exact⟨_,rfl,λh'=>⟨AE,d,Ab,λj a b=>f h' j a b⟩⟩
 obtain⟨r,h',hr,rfl,m⟩:=I2.ret;exact⟨r,hr,m⟩
end
def RB(h:Ah)(bi:Nat)(b:BS)(F:Nat->Prop):Prop:=∃a o c t G,RX h bi a o c t G b/\B2 b.A6 c/\F=Bu bi G
structure Ut(h:Ah)(bi wi:Nat)(b:BS)(F F2:Nat->Prop):Prop where
 p:PB h bi b F
 r:RB h wi b F2
 d:∀i,F i->¬F2 i
structure QY(b:BS)(j:Nat):Prop where
 ok:Ey b
 sz:Sz b j
 nm:Nm b.a
section
variable{h h':Ah}{bi wi:Nat}{b:BS}{F F2:Nat->Prop}{q:pT}{av:Aa}{j:Nat}
def RB.lt(w:RB h bi b F){i:Nat}(hi:F i):i<h.length:=by
 obtain⟨a,o,c,t,G,w,_,rfl⟩:=w;rcases hi with rfl|hi
 .exact w.lt
 .exact w.w.lt hi
def RB.Dj(w:RB h bi b F)(hf:∀i,F i->h'[i]?=h[i]?):RB h' bi b F:=by obtain⟨a,o,c,t,G,w,hc,rfl⟩:=w;exact⟨a,o,c,t,G,w.Dj hf,hc,rfl⟩
def RB.HJ(w:RB h bi b F){u:Ah}:RB (h++u) bi b F:=w.Dj λi hi=>Aj (w.lt hi)
def Ut.HJ(w:Ut h bi wi b F F2){u:Ah}:Ut (h++u) bi wi b F F2:=⟨w.p.HJ,w.r.HJ,w.d⟩
def QY.le{k:Nat}(f:QY b j)(hk:k<=j):QY b k:=⟨f.ok,⟨f.sz.rm.le Ab,by have:=f.sz.AN;omega,by have:=f.sz.A6;omega⟩,f.nm⟩
def QY.HF(f:QY b j):Fin b j:=⟨f.ok,f.sz⟩
def QY.do(f:QY b (j+1))(hq:ly q):QY (YY b q).1 j:=⟨aD3 f.ok,aD4 f.sz hq,aD9 f.nm f.sz hq⟩
def EW.lB(s:EW):QY s.b 100:=⟨s.ok.1,s.ok.2,yq s⟩
def Ut.prog{b':BS}{F':Nat->Prop}(w:Ut h bi wi b F F2)(p:PB h' bi b' F')(x:DC h F h' F'):RB h' wi b F2/\∀i,F' i->¬F2 i:=
 ⟨w.r.Dj λi hi=>x.old i (w.r.lt hi) λhp=>w.d i hp hi,λi h1 h2=>by
  rcases x.Bu i h1 with a|a
  .exact w.d i a h2
  .have:=w.r.lt h2;omega⟩
def aN0(w:RB h bi b F)(f:QY b (j+1))(hq:ly q)(hv:Bt q.Ay av):∃h' F',BL cx 25 [Pt bi 0,.agg (LO q av)] h (.agg (YY b q).2.row) h'/\RB h' bi (YY b q).1 F'/\DC h F h' F':=by obtain⟨a,o,c,t,G,w,hc,rfl⟩:=w;obtain⟨h',o',c',t',G',r,w',Jm,x⟩:=aNR w hc f.ok f.sz f.nm hq hv;exact⟨h',_,r,⟨a,o',c',t',G',w',Jm,rfl⟩,x⟩
def Ŵ(w:Ut h bi wi b F F2)(f:QY b (j+1))(hq:ly q)(hv:Bt q.Ay av):∃h1 h2 F' a,BL cx 24 [Pt bi 0,.agg (LO q av)] h (.agg (YY b q).2.row) h1/\BL cx 25 [Pt wi 0,.agg (LO q av)] h1 (.agg (YY b q).2.row) h2/\Ut h2 bi wi (YY b q).1 F' a:=by
 obtain⟨h1,F',n,w1,k⟩:=aNx w.p f.HF hq hv;obtain⟨m,g⟩:=w.prog w1 k;obtain⟨h2,a,r2,l,c⟩:=aN0 m f hq hv;refine⟨h1,h2,F',a,n,r2,w1.Dj λi hi=>c.old i (w1.lt hi) (g i hi),l,λi e o=>?_⟩;rcases c.Bu i o with d|d
 .exact g i e d
 .have:=w1.lt e;omega
def aN1(s:EW)(hv:Bt s.Ay av)(hl:DL s.Ay)(hn:s.name.length<=1000)(h:Ah):∃h' bi F,BL cx 23 [.agg (MA s av)] h (Pt bi 0) h'/\RB h' bi s.b F/\DC h (λ_=>False) h' F:=by obtain⟨h',bi,a,o,c,t,G,r,w,hc,x⟩:=aNV h s hv hl hn;exact⟨h',bi,_,r,⟨a,o,c,t,G,w,hc,rfl⟩,x⟩
def vW(s:EW)(hv:Bt s.Ay av)(hl:DL s.Ay)(hn:s.name.length<=1000)(h:Ah):∃h1 h2 bi wi F F2,BL cx 22 [.agg (MA s av)] h (Pt bi 0) h1/\BL cx 23 [.agg (MA s av)] h1 (Pt wi 0) h2/\Ut h2 bi wi s.b F F2:=by
 obtain⟨h1,bi,F,e,w1,k⟩:=aNy s hv hl h;obtain⟨h2,wi,F2,r2,d,a⟩:=aN1 s hv hl hn h1;refine⟨h1,h2,bi,wi,F,F2,e,r2,w1.Dj λi hi=>a.old i (w1.lt hi) (λh=>h),d,λi g f=>?_⟩;rcases a.Bu i f with c|c
 .exact c
 .have:=w1.lt g;omega
end
def Uu:∀{l:List QO} {b:BS} {j:Nat},QY b (j+l.length)->(∀x∈l,ly x.q)->QY (J7 b l) j
 |[],_,_,f,_=>f
 |x::l,b,j,f,hq=>by rw[J7];exact Uu (QY.do (j:=j+l.length) (f.le (by simp only[A9];omega)) (hq x AH)) λy hy=>hq y (by simp[hy])
def aN2(i:Item):AD (.geq true [.i,.i,.s,.b]) [.agg i.row,.agg i.row]=some (.bool false):=by rw[RI];simp[Item.row,D8,LC]
section
variable{h h':Ah}{bi wi:Nat}{b:BS}{F F2:Nat->Prop}{q:pT}{av:Aa}{j:Nat}
def f7w(s:EW)(hv:Bt s.Ay av)(hl:DL s.Ay)(hn:s.name.length<=1000){l:List QO}{v:Aa}(ho:bX l v)(hb:l.length<=60)(hq:∀x∈l,ly x.q)(h:Ah):
  ∃h' bi wi F F2,BL cx 16 [.agg (MA s av),v] h (.tuple [Pt bi 0,Pt wi 0,tt]) h'/\Ut h' bi wi (J7 s.b l) F F2:=by
 obtain⟨h1,h2,bi,wi,F,F2,f,r2,w0⟩:=vW s hv hl hn h;have I2:Ev cx 16 [.agg (MA s av),v] h λr h'=>r= .tuple [Pt bi 0,Pt wi 0,tt]/\∃F F2,Ut h' bi wi (J7 s.b l) F F2:=by
  unfold Ev;have Zg:av.cells=[av]:=AU.cells hv;have g:=AU.CN ho;rw[aCY];rw[MA] at f r2⊢;simp only[abS,f.Ac,r2.Ac];refine Bi (λn:Nat=>[.ptr none,.ptr none,ff,I (n:Int)]) (λn h1=>n<=l.length/\∃F F2,Ut h1 bi wi (J7 s.b (l.take n)) F F2) (λn=>l.length-n) 0 rfl ⟨AV _,F,F2,w0⟩ ?_;rintro n z ⟨Nn,u,t,a⟩;rcases AP n l.length with hlt|Eg
  .have m:=AU.BK (k:= .i64) ho hlt;have lB:QY (J7 s.b (l.take n)) (39+1):=(Uu (j:=40) (l:=l.take n) (s.lB.le (by rw[Aw];omega)) λx hx=>hq x (Bp hx));obtain⟨y,w,p,o,e,d,i⟩:=Ŵ a lB (hq _ (AL hlt)) l[n].ok;have hr:LO l[n].q l[n].v=l[n].row:=rfl;rw[hr] at e d;simp only[abS,g,(Ab:(n:Int)<(l.length:Int)),m,QO.CP,QO.H7,Ag,e.Ac,BI,d.Ac,aN2,BM (Ab:n<9223372036854775807)];exact AK.next (n+1) rfl ⟨hlt,p,o,by rw[AB hlt,Y4];exact i⟩ Ab
  .rw[AF Eg] at a;simp only[abS,g,(Ab:¬(n:Int)<(l.length:Int))];exact⟨_,rfl,rfl,u,t,a⟩
 obtain⟨r,h',hr,rfl,F',c,w'⟩:=I2.ret;exact⟨h',bi,wi,F',c,hr,w'⟩
def f8g{m:Nat}(w:Ut h bi wi b F F2)(rm:B6 b m)(ok:EJ b.a 0):∃u,BL cx 19 [Pt bi 0,Pt wi 0] h tt (h++u):=by
 obtain⟨a,o,c,t,G,wp,hc,e1⟩:=w.p;obtain⟨T,V,c1,f,N,E⟩:=aNv wp hc rm;have w1:=w.HJ (u:=f);obtain⟨a',o',c',t',G',wr,Jm,e2⟩:=w1.r;obtain⟨t2,U,c2,d,r2,D⟩:=aNW wr Jm rm;have R:=w1.HJ (u:=d);have Z:=rm.tm;have Y:=rm.AN;have X:=rm.A6;have W:=rm.n;have M:=f22 (E.Dj (h':=h++f++d) λi _ hi=>Aj hi) D (Ab:b.tm.length<=1000000000) (show(b.AN.map Item.node).length<=1000000000 by rw[An];omega) (Ab:b.A6.length<=1000000000) (λe he=>by have:=(rm.DE e he).2.1;omega);have v:=(wp.HJ (u:=f)).HJ (u:=d);have s:=wr.HJ (u:=d);have l0:=v.l0;have A:=s.l0;have B:∀x,(b.a.nd x).Bb.length<=1000000000:=λx=>rm.Zm.Bb ok x;have ab:∀x,(b.a.nd x).Ay.length<=1000000000:=λx=>by have:=rm.at_ x;omega
 obtain⟨n,m',ps,C⟩:=v.w.pa;obtain⟨n',Q,JA,g,_⟩:=s.w;obtain⟨S,l,K,P⟩:=aNC C rm.Zm B Ab;have L:=aMx C;have z:=aNX g Ab;have y:RA (h++f++d++l) a' n' Q JA b.a:=g.Dj λj hj=>Aj (g.lt hj);obtain⟨v2,J,O⟩:=aNY y B ab Ab;have I:=f90 P.rd (O (h++f++d++l)) Ab (λx hx=>by obtain⟨k,hk,rfl⟩:=List.getElem_of_mem hx;have:=(vS hk).2;rw[<-this];exact⟨ab _,B _⟩)
 have H:BL cx 50 [Pt a 0,Pt a' 0] (h++f++d) tt (h++f++d++l):=by rw[Ae,aC6];simp only[BD,L.Ac,z.Ac,Cy,Dz,K.Ac,J.Ac,I.Ac]
 refine⟨f++d++l,?_⟩;rw[Ae,aC1];rw[show h++(f++d++l)=h++f++d++l by simp only[AI]];simp only[abS,N.Ac,r2.Ac,M.Ac,l0,A,H.Ac]
end
structure GD where
 k:Int
 name:Ai
 hn:Bool
 pub:Ai
 hp:Bool
 sys:Ai
 hs:Bool
 q:Bool
 Ay:List A5
 sc:Bool
 data:Ai
 r:Int
namespace GD
def ok(t:GD):Prop:=1<=t.k/\t.k<=6
instance(t:GD):Decidable t.ok:=by unfold ok;infer_instance
def st(t:GD)(ws:List Ai):Prop:=t.k=2/\t.name∈ws
instance(t:GD)(ws:List Ai):Decidable (t.st ws):=by unfold st;infer_instance
def en(t:GD)(ws:List Ai):Prop:=t.k=3/\t.name∈ws
instance(t:GD)(ws:List Ai):Decidable (t.en ws):=by unfold en;infer_instance
def odd(t:GD)(ws:List Ai):Prop:=t.k=3/\t.name∉ws
instance(t:GD)(ws:List Ai):Decidable (t.odd ws):=by unfold odd;infer_instance
end GD
def Za(r:Int):Prop:=(9<=r/\r<=10)\/(12<=r/\r<=13)\/r=32
instance(r:Int):Decidable (Za r):=by unfold Za;infer_instance
namespace GD
def Kt(t:GD):Prop:=t.k=5/\Za t.r
instance(t:GD):Decidable t.Kt:=by unfold Kt;infer_instance
end GD
def RY(nm:Ai):GD:=⟨2,nm,false,[],false,[],false,false,[],false,[],0⟩
def df:List Ai:=[aUv,aUd,aUo,aUi,[98,114]]
def yx:List Ai:=[[98,97,115,101],[98,97,115,101,102,111,110,116],[98,103,115,111,117,110,100],[108,105,110,107],[109,101,116,97]]
def sNS:List Ai:=[[110,111,102,114,97,109,101,115],[115,116,121,108,101]]
def mj:List Ai:=[[98],[98,105,103],[99,111,100,101],[101,109],[102,111,110,116],[105],[115],[115,109,97,108,108],[115,116,114,105,107,101],[115,116,114,111,110,103],[116,116],[117]]
def ZS:List Ai:=[aVc,aU9,aVe]
def Qb:List Ai:=[aUi,aUo]
def OR:List Ai:=[[97,100,100,114,101,115,115],[97,114,116,105,99,108,101],[97,115,105,100,101],aVh,aUx,[99,101,110,116,101,114],[100,101,116,97,105,108,115],[100,105,97,108,111,103],[100,105,114],[100,105,118],[100,108],aVm,aVi,[102,105,103,117,114,101],[102,111,111,116,101,114],[104,101,97,100,101,114],[104,103,114,111,117,112],[108,105,115,116,105,110,103],[109,97,105,110],[109,101,110,117],[110,97,118],[111,108],[112,114,101],[115,101,97,114,99,104],[115,101,99,116,105,111,110],[115,117,109,109,97,114,121],[117,108]]
def Tq:List Ai:=[[97],[98],[98,105,103],[99,111,100,101],[101,109],[102,111,110,116],[105],aVo,[115],[115,109,97,108,108],[115,116,114,105,107,101],[115,116,114,111,110,103],[116,116],[117]]
def Qc:List Ai:=[[112],[108,105],[100,100],[100,116]]
def wDD:List Ai:=[[100,100],[100,116]]
def ŵ:List Ai:=[aVv,aVk,aVw]
namespace BS
def Ns(b:BS)(t:GD):BS:=b.EF t.name t.Ay 1
def MD(b:BS)(t:GD):BS:=(b.Ns t).LR
def again(b:BS)(m:Int):BS×Bool:=({b with mode:=m},true)
def eQ(b:BS):Prop:=0<=AT (Bn [AZ]) b.AN
instance(b:BS):Decidable b.eQ:=by unfold eQ;infer_instance
def has(b:BS)(ws:List Ai):Bool:=HI (Bn ws) (Hw 1) b.AN.reverse
def Hc(b:BS)(nm ex:Ai):BS:={b with AN:=Dq Cu (Bn [nm]) (Dq (C2 ex) Cu b.AN)}
def bZ(b:BS)(t:GD):BS:=if b.eQ\/b.AN=[] then b else b.Ge t.Ay (Hh b.AN 0).node
def ME(b:BS)(t:GD):BS×Bool:=
 if¬t.ok then(b,false)
 else if t.k=1 then(b,false)
 else if t.st [aUv] then(b,false)
 else if t.odd df then(b,false)
 else if t.Kt then(b.VL t.r,false)
 else if t.k=4 then(b.Hq t.data 0,false)
 else if t.st [aUi] then(b.bZ t,false)
 else if t.st yx then(b.MD t,false)
 else if t.st [aUz] then(b.HS t.name t.Ay 2,false)
 else if t.st sNS then(b.HS t.name t.Ay 3,false)
 else if t.st [aU2] then(b.HS t.name t.Ay 4,false)
 else if t.st [aUC] then({b.Ns t with mode:=5},false)
 else if t.en [aUv] then({b.LR with mode:=6},false)
 else if t.st [AZ] then
  let b1:=b.Ns t
  ({b1 with A6:=b1.A6++[Cp.zero],fs:=false,mode:=18,tm:=b1.tm++[18]},false)
 else if t.en [AZ] then(b.Cx,false)
 else b.LR.again 6
def Qd(l:List A5):Bool:=match l.find? λa=>decide (a.name=aU8) with
 |some a=>decide (Fo a.value=aU0)
 |none=>false
def empty(b:BS)(t:GD):BS:=
 if t.name=[104,114] then{b.F7.MD t with fs:=false}
 else if t.name∈ŵ then{b.MD t with fs:=b.fs}
 else if t.name=aVp then{b.CM.MD t with fs:=b.fs&&Qd t.Ay}
 else{b.CM.MD {t with name:=if t.name=aVs then aVC else t.name} with fs:=false}
def QN(b:BS)(t:GD):BS×Bool:=if b.has [aUo] then({b with mode:=19},decide (t.name=aUi)) else(b,false)
def IN(b:BS)(t:GD):BS:=if b.has [t.name] then b.Hc t.name [] else b
def MF(b:BS):BS:=if b.has DP then{b with AN:=Dq Cu (Bn DP) (Dq (C2 []) Cu b.AN)} else b
def N6(b:BS)(t:GD):BS:=if b.has [t.name] then{b.Hc t.name [] with A6:=EE b.A6} else b
def HD(b:BS)(sc:Int)(q:Item->Bool):Bool:=HI q (Hw sc) b.AN.reverse
def Lg(b:BS)(t:GD):BS:=
 let s:=b.HD (if t.name=[112] then 3 else if t.name=[108,105] then 2 else 1) (Bn [t.name])
 if s then b.Hc t.name t.name
 else if t.name=[112] then(b.Ns (RY [112])).Hc t.name t.name else b
def Tr(b:BS)(t:GD):BS:=
 if b.eQ then b.IN t
 else if b.Fk≠0/\b.HD 1 (Br b.Fk) then{b with Fk:=0,AN:=CW b.Fk (Dq (C2 []) Cu b.AN)}
 else{b with Fk:=0}
def Iq(b:BS)(t:GD):BS×Bool:=
 if t.name=AZ then b.ME t
 else if t.name∈Qb then b.QN t
 else if t.name∈OR then(b.IN t,false)
 else if t.name∈Tq then(b.Fz t.name,false)
 else if t.name∈DP then(b.MF,false)
 else if t.name∈ZS then(b.N6 t,false)
 else if t.name∈Qc then(b.Lg t,false)
 else if t.name=aUy then(b.Tr t,false)
 else if t.name=[98,114] then(b.empty (RY [98,114]),false)
 else(b.CO t.name,false)
end BS
structure Gz(b:BS)(n o a:Nat):Prop where
 ok:Ey b
 rm:B6 b n
 AN:b.AN.length<=o
 A6:b.A6.length<=a
structure GD.Sm(t:GD):Prop where
 name:t.name.length<=1000
 Ay:DL t.Ay
 data:t.data.length<=1000
 r: -2147483648<=t.r/\t.r<=2147483647
section
variable{b b':BS}{n n' o o' a a':Nat}{nm:Ai}{l:List A5}{t:GD}{sp:Int}
def Gz.le(g:Gz b n o a)(h1:n'<=n)(h2:o<=o')(c:a<=a'):Gz b n' o' a':=⟨g.ok,g.rm.le h1,Bs g.AN h2,Bs g.A6 c⟩
def Gz.ite{c:Prop}[Decidable c]{x y:BS×Bool}(h1:Gz x.1 n o a)(h2:Gz y.1 n o a):Gz (if c then x else y).1 n o a:=by split;exact h1;exact h2
def Gz.aN5{d c:Prop}[Decidable d][Decidable c]{x y:BS×Bool}(h1:Gz x.1 n o a)(h2:Gz y.1 n o a):Gz (if d then x else if c then x else y).1 n o a:= .ite h1 (.ite h1 h2)
def Gz.aN6{e d c:Prop}[Decidable e][Decidable d][Decidable c]{x y:BS×Bool}(h1:Gz x.1 n o a)(h2:Gz y.1 n o a):Gz (if e then x else if d then x else if c then x else y).1 n o a:= .ite h1 (.aN5 h1 h2)
def Gz.aN7{f e d c:Prop}[Decidable f][Decidable e][Decidable d][Decidable c]{x y:BS×Bool}(h1:Gz x.1 n o a)(h2:Gz y.1 n o a):Gz (if f then x else if e then x else if d then x else if c then x else y).1 n o a:= .ite h1 (.aN6 h1 h2)
def Gz.dn(g:Gz b n o a)(h:n'<=n):Gz b n' o a:=g.le h (Ag _) (Ag _)
def Gz.L8(g:Gz b (n+4) o a)(hl:DL l)(hn:nm.length<=1000):Gz (b.EF nm l sp) n (o+1) a:=by
 refine⟨P6 g.ok,Lu g.rm hl hn,?_,by rw[EU];exact g.A6⟩;have:=g.AN;unfold BS.EF;split
 .rename_i hs;have e:(b.Er nm l sp (b.place 0).1).AN=b.AN:=by unfold BS.Er;rw[Af hs]
  simp only[e,Au,Be];omega
 .omega
def Gz.eq{c:BS}(g:Gz b n o a)(h1:c.a=b.a)(h2:c.CQ=b.CQ)(e:c.AN=b.AN)(d:c.A6=b.A6)(f:c.tm=b.tm):Gz c n o a:=
 ⟨g.ok.of_eq h1 h2 e d,g.rm.eq h1 e d f,by rw[e];exact g.AN,by rw[d];exact g.A6⟩
def Gz.sub(g:Gz b n o a){lo:List Item}{lc:List Cp}{lt:List Int}(h1:lo.Sublist b.AN)(h2:lc.Sublist b.A6)(c:lt.length<=b.tm.length):Gz {b with AN:=lo,A6:=lc,tm:=lt} n o a:=
 ⟨((g.ok.LM h1).oR (by exact h2)).of_eq rfl rfl rfl rfl,g.rm.sub rfl h1 h2 c,Bs h1.length_le g.AN,Bs h2.length_le g.A6⟩
def Gz.LM(g:Gz b n o a){lo:List Item}(h1:lo.Sublist b.AN):Gz {b with AN:=lo} n o a:=g.sub h1 (A4 _) (Ag _)
def Gz.CM(g:Gz b (n+4*a) o a):Gz b.CM n (o+a) a:=by have h1:=g.A6;have h2:=g.AN;have h:=Tl (m:=n) (g.rm.le Ab);exact⟨Yu g.ok,h.1,Ab,Ab⟩
def Gz.Fz(g:Gz b (n+8*(4*(o+8)+10)) o a):Gz (b.Fz nm) n (o+8) (a+8):=by
 refine⟨bH g.ok,?_,?_,?_⟩<;>unfold BS.Fz<;>split
 .unfold BS.LR;split;.exact g.rm.le Ab
  .exact(g.rm.LM (Df _ _)).le Ab
 .exact(Nb g.AN g.rm).1
 .have:=g.AN;unfold BS.LR;split;.omega
  .simp only[Aw];omega
 .exact(Nb g.AN g.rm).2
 .have:=g.A6;unfold BS.LR;split<;>(try simp only)<;>omega
 .have:=g.A6;have:=RV (n:=8) (b:=b) (nm:=nm);omega
def Gz.VL(g:Gz b (n+5) o a){r:Int}:Gz (b.VL r) n o a:=⟨yV g.ok,Vj g.rm (Tf _),g.AN,g.A6⟩
def Gz.Hq(g:Gz b (n+5) o a){s:Ai}(hs:s.length<=1000){p:Int}:Gz (b.Hq s p) n o a:=by
 refine⟨Ys g.ok,?_,g.AN,g.A6⟩;unfold BS.Hq;split;.exact Ks g.rm Ab
 .exact Ks g.rm Ab
def Gz.Ge(g:Gz b (n+1000) o a)(hl:DL l){h:Int}:Gz (b.Ge l h) n o a:=by
 refine⟨oT g.ok,Y0 g.rm hl.1,?_,?_⟩<;>unfold BS.Ge<;>split;.exact g.AN
 .exact g.AN
 .exact g.A6
 .exact g.A6
def Gz.LR(g:Gz b n o a):Gz b.LR n o a:=by
 unfold BS.LR;split;.exact g
 .exact g.LM (Df _ _)
def Gz.Hc(g:Gz b n o a){x:Ai}:Gz (b.Hc nm x) n o a:=g.LM (CT.trans CT)
def Gz.F7(g:Gz b n o a):Gz b.F7 n o a:=by
 unfold BS.F7;split;.exact g.LM (CT.trans CT)
 .exact g
def Gz.CO(g:Gz b n o a):Gz (b.CO nm) n o a:=by
 unfold BS.CO;split
 .split;.exact g.LM (HM.trans CT)
  .exact g
 .exact g
def Gz.HL(g:Gz b n o a):Gz b.HL n o a:=g.eq rfl rfl rfl rfl rfl
def Gz.mark(g:Gz b (n+1) o a):Gz {b with A6:=b.A6++[Cp.zero]} n o (a+1):=by
 refine⟨cq g.ok,g.rm.uz (e:=Cp.zero) AH (λe he=>?_) ⟨AM,AM,λa ha=>by cases ha⟩,g.AN,?_⟩
 .rcases Ax.1 he with he|he
  .exact .inl he
  .exact .inr (by simpa using he)
 .have:=g.A6;simp only[Au,Be];omega
def Gz.tm(g:Gz b (n+1) o a){m:Int}:Gz {b with tm:=b.tm++[m]} n o a:=by have r:=g.rm;have c:=r.le (m':=n) Ab;exact⟨g.ok.of_eq rfl rfl rfl rfl,⟨c.n,c.at_,c.data,c.AN,c.A6,by have:=r.tm;simp only[Au,Be];omega,c.DE,c.VM⟩,g.AN,g.A6⟩
def Gz.Cx(g:Gz b n o a):Gz b.Cx n o a:=by
 unfold BS.Cx;split;.exact g
 .exact(g.sub (lo:=Dq Cu (Bn [AZ]) (Dq CJ Cu b.AN)) (lc:=EE b.A6) (lt:=b.tm.dropLast) (CT.trans CT) (Df _ _) AH).HL
def Gz.HS(g:Gz b (n+4) o a){s:Int}(hl:DL l)(hn:nm.length<=1000):Gz (b.HS nm l s) n (o+1) a:=(g.L8 (sp:=1) hl hn).eq rfl rfl rfl rfl rfl
def Gz.Ns(g:Gz b (n+4) o a)(ht:t.Sm):Gz (b.Ns t) n (o+1) a:=g.L8 ht.Ay ht.name
def L5(h:nm.length<=1000):(RY nm).Sm:=⟨h,⟨show([]:List A5).length<=1000 by decide,λa ha=>by cases ha⟩,(AM:([]:Ai).length<=1000),show(-2147483648:Int)<=0/\(0:Int)<=2147483647 by decide⟩
def Gz.MD(g:Gz b (n+4) o a)(ht:t.Sm):Gz (b.MD t) n (o+1) a:=(g.Ns ht).LR
def Gz.bZ(g:Gz b (n+1000) o a)(ht:t.Sm):Gz (b.bZ t) n o a:=by
 unfold BS.bZ;split;.exact g.le Ab (Ag _) (Ag _)
 .exact g.Ge ht.Ay
def Gz.ME(g:Gz b (n+1004) o a)(ht:t.Sm):Gz (b.ME t).1 n (o+1) (a+1):=by have g0:Gz b n (o+1) (a+1):=g.le Ab Ab Ab;have d:Gz b (n+4) o a:=g.le Ab Ab Ab;unfold BS.ME;refine .aN7 g0 (.ite ((g.le (n':=n+5) Ab (Ag _) (Ag _)).VL.le (Ag _) Ab Ab) (.ite (((g.le (n':=n+5) Ab (Ag _) (Ag _)).Hq ht.data).le (Ag _) Ab Ab) (.ite (((g.le (n':=n+1000) Ab (Ag _) (Ag _)).bZ ht).le (Ag _) Ab Ab) (.ite ((d.MD ht).le (Ag _) Ab Ab) (.ite ((d.HS ht.Ay ht.name).le (Ag _) Ab Ab) (.ite ((d.HS ht.Ay ht.name).le (Ag _) Ab Ab) (.ite ((d.HS ht.Ay ht.name).le (Ag _) Ab Ab) (.ite (((d.Ns ht).le (Ag _) Ab Ab).eq rfl rfl rfl rfl rfl) (.ite ((d.LR.le Ab Ab Ab).eq rfl rfl rfl rfl rfl) (.ite ?_ (.ite (d.Cx.le Ab Ab Ab) ((d.LR.le Ab Ab Ab).eq (c:={b.LR with mode:=6}) rfl rfl rfl rfl rfl))))))))))));exact((((g.le (n':=n+2+4) Ab (Ag _) (Ag _)).Ns ht).mark.tm (m:=18)).eq rfl rfl rfl rfl rfl)
def GD.Sm.rn(ht:t.Sm)(h:nm.length<=1000):({t with name:=nm}:GD).Sm:=⟨h,ht.Ay,ht.data,ht.r⟩
def Gz.empty(g:Gz b (n+4*a+4) o a)(ht:t.Sm):Gz (b.empty t) n (o+a+1) a:=by
 have d:Gz b (n+4) o a:=g.le Ab (Ag _) (Ag _);have c:Gz b.CM (n+4) (o+a) a:=(g.le Ab (Ag _) (Ag _)).CM;unfold BS.empty;split;.exact((d.F7.MD ht).le (Ag _) Ab (Ag _)).eq rfl rfl rfl rfl rfl
 .split;.exact((d.MD ht).le (Ag _) Ab (Ag _)).eq rfl rfl rfl rfl rfl
  .split;.exact(c.MD ht).eq rfl rfl rfl rfl rfl
   .exact(c.MD (ht.rn (by split;exact AM;exact ht.name))).eq rfl rfl rfl rfl rfl
def Gz.IN(g:Gz b n o a):Gz (b.IN t) n o a:=by
 unfold BS.IN;split;.exact g.Hc
 .exact g
def Gz.Lg(g:Gz b (n+4) o a):Gz (b.Lg t) n (o+1) a:=by
 have g0:Gz b n (o+1) a:=g.le Ab Ab (Ag _);unfold BS.Lg;dsimp only;generalize b.HD _ _=q;cases q
 .by_cases h:t.name=[112];.simp only[Cj,DQ,Af h];exact(g.Ns (L5 (nm:=[112]) (AM:([112]:Ai).length<=1000))).Hc
  .simp only[Cj,DQ,Ad h];exact g0
 .exact g0.Hc
def Gz.Iq(g:Gz b (n+8*(4*(o+a+8)+10)+8*a+2000) o a)(ht:t.Sm):Gz (b.Iq t).1 n (o+2*a+17) (a+9):=by
 have ge:∀{m},m<=n+8*(4*(o+a+8)+10)+8*a+2000->Gz b m o a:=λh=>g.le h (Ag _) (Ag _);have g0:Gz b n (o+2*a+17) (a+9):=g.le Ab Ab Ab;unfold BS.Iq;refine .ite (((ge Ab).ME ht).le (Ag _) Ab Ab)
  (.ite ?_ (.ite g0.IN (.ite (((ge (m:=n+8*(4*(o+8)+10)) Ab).Fz).le (Ag _) Ab Ab)
  (.ite ?_ (.ite ?_ (.ite (((ge (m:=n+4) Ab).Lg).le (Ag _) Ab Ab) (.ite ?_
  (.ite (((ge (m:=n+4*a+4) Ab).empty (L5 (nm:=[98,114]) AM)).le (Ag _) Ab Ab) g0.CO))))))))
 .unfold BS.QN;split;.exact g0.eq rfl rfl rfl rfl rfl
  .exact g0
 .unfold BS.MF;split;.exact g0.LM (CT.trans CT)
  .exact g0
 .unfold BS.N6;split;.exact(g0.sub (lo:=(b.Hc t.name []).AN) (lc:=EE b.A6) (lt:=b.tm) (CT.trans CT) (Df _ _) (Ag _)).eq rfl rfl rfl rfl rfl
  .exact g0
 .unfold BS.Tr;split;.exact g0.IN
  .split;.exact(g0.LM (lo:=CW b.Fk (Dq (C2 []) Cu b.AN)) (J4.trans CT)).eq rfl rfl rfl rfl rfl
   .exact g0.eq rfl rfl rfl rfl rfl
end
def N7(h:Ah)(F:Nat->Prop)(f:FuncId)(args:List Aa)(r:Aa)(bi:Nat)(b':BS):Prop:=∃h' F',BL cx f args h r h'/\PB h' bi b' F'/\DC h F h' F'
abbrev C7(t:GD)(av:Aa):List Aa:=[I t.k,.str t.name,.bool t.hn,.str t.pub,.bool t.hp,.str t.sys,.bool t.hs,.bool t.q,av,.bool t.sc,.str t.data,.int .i32 t.r]
section
variable{h h':Ah}{bi:Nat}{b b':BS}{F:Nat->Prop}{n o a:Nat}{t:GD}{av:Aa}
def Zb:N2 t.name av (C7 t av):=⟨_,_,_,_,_,_,_,_,_,_,rfl⟩
def dg(w:PB h bi b F)(g:Gz b (n+4) o a)(ht:t.Sm)(hv:Bt t.Ay av):N7 h F 65 [Pt bi 0,.agg (C7 t av)] (I (b.Pe 1)) bi (b.Ns t):=by obtain⟨d,e,c,tt,G,w,hc,rfl⟩:=w;obtain⟨h',o',G',r,w',x⟩:=xz (m:=n) w g.ok g.rm Zb hv ht.Ay ht.name;exact⟨h',_,r,⟨d,o',c,tt,G',w',by unfold BS.Ns;rw[EU];exact hc,rfl⟩,x⟩
def aEc(w:PB h bi b F)(g:Gz b (n+5) o a){r:Int}(hr: -2147483648<=r/\r<=2147483647):N7 h F 69 [Pt bi 0,.int .i32 r] (.tuple []) bi (b.VL r):=by obtain⟨e,d,c,tt,G,w,hc,rfl⟩:=w;obtain⟨h',G',r,w',x⟩:=aHQ (m:=n) w g.ok g.rm r hr;exact⟨h',_,r,⟨e,d,c,tt,G',w',hc,rfl⟩,x⟩
def ml(w:PB h bi b F)(g:Gz b (n+1) o a){s:Ai}(hs:s.length<=100000)(x:Int):N7 h F 70 [Pt bi 0,.str s,I x] (.tuple []) bi (b.Hq s x):=by obtain⟨e,d,c,tt,G,w,hc,rfl⟩:=w;obtain⟨h',G',r,w',x⟩:=aHS (m:=n) w g.ok g.rm s hs x;exact⟨h',_,r,⟨e,d,c,tt,G',w',hc,rfl⟩,x⟩
def yy(w:PB h bi b F)(g:Gz b (n+4) o a)(ht:t.Sm)(hv:Bt t.Ay av)(s:Int):N7 h F 71 [Pt bi 0,.agg (C7 t av),I s] (.tuple []) bi (b.HS t.name t.Ay s):=by obtain⟨d,e,c,tt,G,w,hc,rfl⟩:=w;obtain⟨h',o',G',r,w',x⟩:=aHT (m:=n) w g.ok g.rm Zb hv ht.Ay ht.name s;exact⟨h',_,r,⟨d,o',c,tt,G',w',by show B2 (b.EF t.name t.Ay 1).A6 c;rw[EU];exact hc,rfl⟩,x⟩
def yz(w:PB h bi b F)(g:Gz b n o a):N7 h F 72 [Pt bi 0] (.tuple []) bi b.F7:=by obtain⟨d,f,c,tt,G,w,hc,rfl⟩:=w;obtain⟨h',o',r,w',x⟩:=aHU w g.rm;exact⟨h',_,r,⟨d,o',c,tt,G,w',by have e:b.F7.A6=b.A6:=(by unfold BS.F7;split<;>rfl);rw[e];exact hc,rfl⟩,x⟩
def QP(w:PB h bi b F)(g:Gz b (n+4*a) o a):N7 h F 73 [Pt bi 0] (.tuple []) bi b.CM:=by obtain⟨d,e,c,tt,G,w,hc,rfl⟩:=w;obtain⟨h',o',c',G',r,w',Jm,x⟩:=aH5 (m:=n) w hc g.ok (g.rm.le (by have:=g.A6;omega));exact⟨h',_,r,⟨d,o',c',tt,G',w',Jm,rfl⟩,x⟩
def y_(w:PB h bi b F)(g:Gz b n o a)(nm:Ai):N7 h F 74 [Pt bi 0,.str nm] (.tuple []) bi (b.CO nm):=by obtain⟨d,f,c,tt,G,w,hc,rfl⟩:=w;obtain⟨h',o',r,w',x⟩:=aDJ w g.rm nm;exact⟨h',_,r,⟨d,o',c,tt,G,w',by have e:(b.CO nm).A6=b.A6:=(by unfold BS.CO;split;split<;>rfl;rfl);rw[e];exact hc,rfl⟩,x⟩
def aEd(w:PB h bi b F)(g:Gz b n o a):N7 h F 78 [Pt bi 0] (.tuple []) bi b.Cx:=by obtain⟨d,e,c,tt,G,w,hc,rfl⟩:=w;obtain⟨h',o',c',t',r,w',Jm,x⟩:=aHZ w hc g.rm;exact⟨h',_,r,⟨d,o',c',t',G,w',Jm,rfl⟩,x⟩
def za(w:PB h bi b F)(g:Gz b (n+8*(4*(o+8)+10)) o a)(nm:Ai):N7 h F 75 [Pt bi 0,.str nm] (.tuple []) bi (b.Fz nm):=by obtain⟨d,e,c,tt,G,w,hc,rfl⟩:=w;obtain⟨h',o',c',G',r,w',Jm,x⟩:=aIo (m:=n) w hc g.ok (g.rm.le (by have:=g.AN;omega)) nm;exact⟨h',_,r,⟨d,o',c',tt,G',w',Jm,rfl⟩,x⟩
def zb(w:PB h bi b F)(g:Gz b n o a):N7 h F 82 [Pt bi 2] (.agg b.oM.row) bi b.LR:=by obtain⟨d,f,c,tt,G,w,hc,rfl⟩:=w;obtain⟨h',o',r,w',x⟩:=aDO w g.rm;exact⟨h',_,r,⟨d,o',c,tt,G,w',by have e:b.LR.A6=b.A6:=(by unfold BS.LR;split<;>rfl);rw[e];exact hc,rfl⟩,x⟩
def aEe(w:PB h bi b F)(g:Gz b n o a):N7 h F 80 [Pt bi 3] (.tuple []) bi {b with A6:=b.A6++[Cp.zero]}:=by obtain⟨e,d,c,tt,G,w,hc,rfl⟩:=w;have QE:=g.rm.A6;obtain⟨fs,Gu,Sx⟩:=hc;obtain⟨u,r2,hu⟩:=f63 (h:=h) (id:=bi) (o:=3) (l:=fs) ⟨c,w.qX,Sx⟩ (by rw[<-Gu,An] at QE;omega);exact⟨_,_,r2,⟨e,d,u,tt,G,w.Kr (u:=u) (l:=b.A6++[Cp.zero]),⟨_,by rw[BF,Gu];rfl,hu⟩,rfl⟩,Bg⟩
def Ŷ(w:PB h bi b F)(g:Gz b n o a):∃r,N7 h F 83 [Pt bi 3] r bi {b with A6:=EE b.A6}:=by obtain⟨e,d,c,tt,G,w,hc,rfl⟩:=w;have QE:=g.rm.A6;obtain⟨fs,Gu,Sx⟩:=hc;obtain⟨u,r2,hu⟩:=f65 (h:=h) (id:=bi) (o:=3) (l:=fs) ⟨c,w.qX,Sx⟩ (by rw[<-Gu,An] at QE;omega);exact⟨_,_,_,r2,⟨e,d,u,tt,G,w.Kr (u:=u) (l:=EE b.A6),⟨_,by rw[QJ,Gu],hu⟩,rfl⟩,Bg⟩
def dh(w:PB h bi b F)(g:Gz b n o a){v:Aa}{ws:List Ai}(hw:Im ws v)(hn:ws.length<=1000000000):∃r,N7 h F 84 [Pt bi 2,v] r bi {b with AN:=Dq Cu (Bn ws) b.AN}:=by obtain⟨d,e,c,tt,G,w,hc,rfl⟩:=w;have ho:=g.rm.AN;obtain⟨u,r2,hu⟩:=f66 w.sO Ab hw hn;exact⟨_,_,_,r2,⟨d,u,c,tt,G,w.HU hu,hc,rfl⟩,Bg⟩
def Uv(w:PB h bi b F)(g:Gz b n o a)(s:Ai):∃r,N7 h F 179 [Pt bi 2,.str s] r bi {b with AN:=Dq (C2 s) Cu b.AN}:=by obtain⟨d,e,c,tt,G,w,hc,rfl⟩:=w;have ho:=g.rm.AN;obtain⟨u,r2,hu⟩:=aDx w.sO Ab s;exact⟨_,_,_,r2,⟨d,u,c,tt,G,w.HU hu,hc,rfl⟩,Bg⟩
def zc(w:PB h bi b F)(g:Gz b n o a)(x:Int):∃r,N7 h F 244 [Pt bi 2,I x] r bi {b with AN:=CW x b.AN}:=by obtain⟨d,e,c,tt,G,w,hc,rfl⟩:=w;have ho:=g.rm.AN;obtain⟨u,r2,hu⟩:=Ŏ w.sO Ab x;exact⟨_,_,_,r2,⟨d,u,c,tt,G,w.HU hu,hc,rfl⟩,Bg⟩
def PB.sA(w:PB h bi b F):jh h (Pt bi 2) b.AN:=by obtain⟨e,d,c,tt,G,w,hc,rfl⟩:=w;exact w.sA
def PB.Mi(w:PB h bi b F):∃x,A8 h none (Pt bi 0)=some (Pt x 0):=by obtain⟨d,e,c,tt,G,w,hc,rfl⟩:=w;exact⟨d,w.l0⟩
def PB.IP(w:PB h bi b F):A8 h none (Pt bi 1)=some (I b.CQ)/\A8 h none (Pt bi 4)=some (I b.mode)/\A8 h none (Pt bi 5)=some (I b.S0)/\A8 h none (Pt bi 7)=some (I b.head)/\A8 h none (Pt bi 8)=some (I b.Fk)/\A8 h none (Pt bi 14)=some (.bool b.fs)/\A8 h none (Pt bi 18)=some (I b.sw)/\A8 h none (Pt bi 19)=some (.bool b.stop):=by obtain⟨e,d,c,tt,G,w,hc,rfl⟩:=w;exact⟨w.ld 1,w.ld 4,w.ld 5,w.ld 7,w.ld 8,w.ld 14,w.ld 18,w.ld 19⟩
def PB.ltm(w:PB h bi b F):∃v,A8 h none (Pt bi 6)=some v/\Ui b.tm v:=by obtain⟨e,d,c,tt,G,w,hc,rfl⟩:=w;exact⟨tt,w.l6,w.t⟩
def Ts(w:PB h bi b F)(g:Gz b n o a)(s:Int){v:Aa}{ws:List Ai}(hv:Im ws v)(hw:ws.length<=1000000000):BL cx 178 [Pt bi 2,I s,v] h (.bool (b.HD s (Bn ws))) h:=
 aGW w.sA (by have:=g.rm.AN;omega) s hv hw
def p8(w:PB h bi b F)(g:Gz b n o a)(s x:Int):BL cx 332 [Pt bi 2,I s,I x] h (.bool (b.HD s (Br x))) h:=
 aGX w.sA (by have:=g.rm.AN;omega) s x
def aEf(w:PB h bi b F)(g:Gz b n o a)(s:Ai):BL cx 194 [Pt bi 2,.str s] h (I (AT (Bn [s]) b.AN)) h:=
 ŋ w.sA (by have:=g.rm.AN;omega) s
def Wr(h:Ah)(F:Nat->Prop)(bi k:Nat)(v:Aa)(b':BS):Prop:=Cv h 1 (Pt bi k) v=some (put h bi k v)/\PB (put h bi k v) bi b' F/\DC h F (put h bi k v) F
def Zc(w:PB h bi b F)(v:Int):Wr h F bi 4 (I v) {b with mode:=v}:=by obtain⟨e,d,c,tt,G,w,hc,rfl⟩:=w;exact⟨w.st (k:=4) rfl rfl,⟨e,d,c,tt,G,w.put rfl rfl w.o w.t,hc,rfl⟩,Bg⟩
def vX(w:PB h bi b F)(v:Int):Wr h F bi 8 (I v) {b with Fk:=v}:=by obtain⟨e,d,c,tt,G,w,hc,rfl⟩:=w;exact⟨w.st (k:=8) rfl rfl,⟨e,d,c,tt,G,w.put rfl rfl w.o w.t,hc,rfl⟩,Bg⟩
def vY(w:PB h bi b F)(v:Bool):Wr h F bi 14 (.bool v) {b with fs:=v}:=by obtain⟨e,d,c,tt,G,w,hc,rfl⟩:=w;exact⟨w.st (k:=14) rfl rfl,⟨e,d,c,tt,G,w.put rfl rfl w.o w.t,hc,rfl⟩,Bg⟩
def aN8(w:PB h bi b F){v:Aa}{l:List Int}(hv:Ui l v):Wr h F bi 6 v {b with tm:=l}:=by obtain⟨e,d,c,tt,G,w,hc,rfl⟩:=w;exact⟨w.st (k:=6) (v0:=tt) rfl hv.1.cells,⟨e,d,c,v,G,w.pI hv,hc,rfl⟩,Bg⟩
end
def N8(c:UInt8):Bool:=decide ((9<=c.toNat/\c.toNat<=13)\/c.toNat=32)
def wf:Ai->Ai->List Ai
 |cur,[]=>if cur=[] then[] else[cur]
 |cur,c::r=>if N8 c then(if cur=[] then wf [] r else cur::wf [] r) else wf (cur++[c]) r
def lC:Bool->Ai->Nat
 |_,[]=>0
 |w,c::r=>(if w&& !N8 c then 1 else 0)+lC (N8 c) r
def di(b:Bool):Int:=if b then 1 else 0
def Uw:∀{s cur:Ai},(wf cur s).length=(if cur=[] then 0 else 1)+lC (decide (cur=[])) s
 |[],cur=>by unfold wf lC;split<;>simp_all
 |c::r,cur=>by
  unfold wf lC;by_cases hc:N8 c=true
  .by_cases h0:cur=[];.simp[hc,h0,Uw (s:=r) (cur:=[])]
   .simp[hc,h0,Uw (s:=r) (cur:=[])];omega
  .have Jm:N8 c=false:=by simpa using hc
   by_cases h0:cur=[];.simp[Jm,h0,Uw (s:=r) (cur:=[c])]
   .simp[Jm,h0,Uw (s:=r) (cur:=cur++[c])]
def dj:∀{s cur:Ai},(wf cur s).length<=s.length+1
 |[],cur=>by unfold wf;split<;>simp
 |c::r,cur=>by
  unfold wf;have h1:=dj (s:=r) (cur:=[]);have h2:=dj (s:=r) (cur:=cur++[c]);split;.split<;>simp only[A9]<;>omega
  .simp only[A9];omega
def dk{c:UInt8}(k:Option Nat)(hk:k=none){h:Ah}:∃v,AD (.UB 256 1) [.CH Hg,.int .u8 (c.toNat:Int)]=some v/\A8 h k v=some (.int .u8 (di (N8 c))):=by
 subst hk;have key:∀n:Nat,n<256->Hg[n]?=some (.int .u8 (di (decide ((9<=n/\n<=13)\/n=32)))):=by intro n hn;have h1:∀n,n<256->NM[n]?=some (di (decide ((9<=n/\n<=13)\/n=32))):=C4;rw[Hg,Cm,h1 n hn];rfl
 have hc:=c.toNat_lt;have hi:Me (c.toNat:Int) 256=some c.toNat:=by unfold Me;rw[Af Ab];rfl
 refine⟨.CH (Hg.drop (c.toNat*1)),by simp[AD,hi,WW],?_⟩;rw[X1,E6,Ct,FE,Bv,key _ hc];rfl
def aEg{s c:Nat}(hs:s<128)(hc:c<128):∃n:Nat,n<128/\AD (.int .or) [.int .u8 (s:Int),.int .u8 (c:Int)]=some (.int .u8 (n:Int)):=by
 have key:∀s:Nat,s<128->∀c:Nat,c<128->(match AD (.int .or) [.int .u8 (s:Int),.int .u8 (c:Int)] with|some (.int .u8 n)=>decide (0<=n/\n<128)|_=>false)=true:=C4;have h1:=key s hs c hc;split at h1;.rename_i n hv;have:=J9 h1;exact⟨n.toNat,Ab,by rw[hv,GX this.1]⟩
 .cases h1
def aEh(w i:Bool):∃v,AD (.un .xor) [I (di i)]=some v/\AD (.int .and) [I (di w),v]=some (I (if w&& !i then 1 else 0)):=by cases w<;>cases i<;>exact⟨_,rfl,rfl⟩
def aEi(i:Bool):IntKind.i64.wrap (di i)=di i:=by cases i<;>rfl
def dr{U:Type}(l:List U)(x y:U)(r:List U){k:Nat}(hk:k=l.length):(l++y::r).take k++[x]++(l++y::r).drop (k+1)=l++x::r:=by subst hk;simp
def aJa(s:Ai)(hs:s.length<=1000000)(ha:∀c∈s,c.toNat<128)(h:Ah):BL cx 410 [.str s] h (.sl 1 ((wf [] s).map Cr)) (h++[.CR]):=by
 have dU:AX=140737488355328:=rfl;have O:=dj (s:=s) (cur:=[]);obtain⟨N,hNe⟩:∃N,N=(wf [] s).length:=⟨_,rfl⟩;rw[Ae,j3,aGK];refine DM (i:=0) (λz:Nat×Bool×Nat×Nat=>[I (z.1:Int),I (di z.2.1),.int .u8 (z.2.2.1:Int),I (z.2.2.2:Int)]) (λz h1=>h1=h/\z.2.2.2<=s.length/\z.2.2.1<128/\z.1+lC z.2.1 (s.drop z.2.2.2)=lC true s) (λz=>s.length-z.2.2.2) (λz h1=>h1=h/\z.2.2.1<128/\z.1=N) (0,true,0,0) rfl ⟨rfl,AV _,AM,AH⟩ ?_ ?_
 .rintro⟨n,w,bits,i⟩ h1 ⟨rfl,hi,hb,hn⟩;simp only at hi hb hn;rcases AP i s.length with hlt|Eg
  .obtain⟨bits',Ru,y⟩:=aEg hb (ha _ (AL hlt));obtain⟨v,J,H⟩:=dk (c:=s[i]) none rfl (h:=h1);obtain⟨v2,p,d⟩:=aEh w (N8 s[i]);have M:lC true s<=s.length+1:=by have:=Uw (s:=s) (cur:=[]);simp at this;omega
   rw[AG hlt,lC] at hn;have u:=OB (a:=(n:Int)) (b:=if w&& !N8 s[i] then 1 else 0) (by split<;>omega) (by split<;>omega);have t:((n:Int)+if(w&& !N8 s[i])=true then 1 else 0)=((n+if(w&& !N8 s[i])=true then 1 else 0:Nat):Int):=by split<;>simp
   simp only[abS,(Ab:(i:Int)<(s.length:Int)),Fw hlt,y,J,H,Qt,aEi,p,d,u,t,BM (Ab:i<9223372036854775807)];exact .next (_,N8 s[i],bits',i+1) rfl ⟨rfl,hlt,Ru,Dx⟩ Dx
  .simp only[abS,(Ab:¬(i:Int)<(s.length:Int))];refine .HF (n,w,bits,i) rfl ⟨rfl,hb,?_⟩;rw[AW Eg,lC] at hn;have:=Uw (s:=s) (cur:=[]);simp at this;simp only;omega
 rintro⟨n,w,bits,i⟩ h1 ⟨rfl,hb,hn⟩;simp only at hb hn;subst hn;have y:Sg h1 1 16 [S []] (I (n:Int)) (I (n:Int))=some (h1++[.cells (List.replicate n [S []]).flatten],.CF h1.length 0 n 1):=by simp only[Sg];rw[Af ⟨Ab,Ab,Ei,rfl⟩];simp
 have J:(List.replicate n [S []]).flatten=List.replicate n (S []):=by
  clear y hNe O;induction n with
  |zero=>rfl
  |succ n ih=>rw[KX,CZ,ih];rfl
 rw[J] at y;have H:¬(128:Int)<=(bits:Int):=Ab;simp only[abS,H];refine rG y ?_;refine DM (i:=2) (λi:Nat=>[I (i:Int)]) (λi h2=>h2=h1++[.cells (List.replicate n (S []))]/\i<=s.length/\wf [] s=wf [] (s.drop i)) (λi=>s.length-i) (λi h2=>h2=h1++[.cells (List.replicate n (S []))]/\i<=s.length/\wf [] s=wf [] (s.drop i)/\∀hi:i<s.length,N8 s[i]=false) 0 rfl ⟨rfl,AV _,rfl⟩ ?_ ?_
 .rintro i h2 ⟨rfl,hi,hw⟩;rcases AP i s.length with hlt|Eg
  .obtain⟨v,p,d⟩:=dk (c:=s[i]) none rfl (h:=h1++[.cells (List.replicate n (S []))]);cases hsp:N8 s[i] with
   |true=>rw[hsp] at d;simp only[abS,(Ab:(i:Int)<(s.length:Int)),Fw hlt,p,d,di,↓reduceIte,(AM:(1:Int)≠0),BW,BM (Ab:i<9223372036854775807)];rw[AG hlt,wf,hsp] at hw;exact .next (i+1) rfl ⟨rfl,hlt,by simpa using hw⟩ Ab
   |false=>rw[hsp] at d;simp only[abS,(Ab:(i:Int)<(s.length:Int)),Fw hlt,p,d,di,Cj,↓reduceIte,BW];exact .HF i rfl ⟨rfl,hi,hw,λ_=>hsp⟩
  .simp only[abS,(Ab:¬(i:Int)<(s.length:Int))];exact .HF i rfl ⟨rfl,hi,hw,λh=>absurd h Ab⟩
 rintro i0 h2 ⟨rfl,vC,C,ng⟩;simp only[BD];refine DM (i:=4) (λz:List Ai×Nat×Nat=>[I (z.1.length:Int),I (z.2.1:Int),I (z.2.2:Int)]) (λz h2=>h2=h1++[.cells (z.1.map Aa.str++List.replicate (n-z.1.length) (S []))]/\z.2.1<=z.2.2/\z.2.2<=s.length/\z.1++wf ((s.take z.2.2).drop z.2.1) (s.drop z.2.2)=wf [] s/\(z.2.1=z.2.2->∀hi:z.2.2<s.length,N8 s[z.2.2]=false)) (λz=>s.length-z.2.2)
  (λz h2=>h2=h1++[.cells (z.1.map Aa.str++List.replicate (n-z.1.length) (S []))]/\z.2.1<=s.length/\z.1++wf (s.drop z.2.1) []=wf [] s) ([],i0,i0) rfl ⟨AH,Ag _,vC,by simp[C,O6],λ_=>ng⟩ ?_ ?_
 .rintro⟨dn,f,i⟩ h2 ⟨rfl,hf,hi,hw,hz⟩;simp only at hf hi hw hz;have qV:dn.length<=n:=by rw[hNe,<-hw,Au];omega
  rcases AP i s.length with hlt|Eg
  .obtain⟨v,p,d⟩:=dk (c:=s[i]) none rfl (h:=h1++[.cells (dn.map Aa.str++List.replicate (n-dn.length) (S []))]);rw[AG hlt] at hw;cases hsp:N8 s[i] with
   |false=>
    rw[hsp] at d;simp only[abS,(Ab:(i:Int)<(s.length:Int)),Fw hlt,p,d,di,Cj,↓reduceIte,BM (Ab:i<9223372036854775807)];rw[wf,hsp] at hw;refine .next (dn,f,i+1) rfl ⟨rfl,Dx,hlt,?_,λe=>by simp only at e;omega⟩ Dx
    simp only
    rw[X5 hf hlt];simpa using hw
   |true=>
    rw[hsp] at d;have Ő:f<i:=by
     rcases AP f i with h|h
     .exact h
     .have:=hz Ab hlt;rw[hsp] at this;cases this
    have aN9:(s.take i).drop f≠[]:=by intro e;have:=Ca List.length e;simp at this;omega
    rw[wf,hsp] at hw;simp only[BN,aN9,DQ] at hw;have m:dn.length<n:=by rw[hNe,<-hw];simp
    have u:AD (.Fl 1) [.CF h1.length 0 n 1,I (dn.length:Int)]=some (Pt h1.length dn.length):=by have:=EY (id:=h1.length) (z:=1) (n:=n) (k:= .i64) m;rwa [FE] at this
    have hcl:(dn.map Aa.str++List.replicate (n-dn.length) (S [])).length=n:=Ei;have t:Cv (h1++[.cells (dn.map Aa.str++List.replicate (n-dn.length) (S []))]) 1 (Pt h1.length dn.length) (.str ((s.take i).drop f))=some (h1++[.cells ((dn++[(s.take i).drop f]).map Aa.str++List.replicate (n-(dn++[(s.take i).drop f]).length) (S []))]):=by have F:(h1++[DA.cells (dn.map Aa.str++List.replicate (n-dn.length) (S []))])[h1.length]?=some (.cells (dn.map Aa.str++List.replicate (n-dn.length) (S []))):=AH;simp only[Cv,F,Qu,Be];rw[Af ⟨trivial,by rw[hcl];omega⟩,BO _ _ (Ag _),De];have E:n-dn.length=(n-(dn.length+1))+1:=Ab;have D:(dn.map Aa.str).length=dn.length:=An ..;simp only[Qf,BF,Bl,Dn,Au,Be];rw[E,KX,dr _ _ _ _ D.symm];simp
    simp only[abS,(Ab:(i:Int)<(s.length:Int)),Fw hlt,p,d,di,↓reduceIte,(AM:¬(1:Int)=0),Mo (z:=0) (k:= .i64) (l:= .i64) (Ab:f<=i) hi,u,t,BM (Ab:dn.length<9223372036854775807),BM (Ab:i<9223372036854775807)];refine DM (i:=6) (λj:Nat=>[I (j:Int)]) (λj h2=>h2=h1++[.cells ((dn++[(s.take i).drop f]).map Aa.str++List.replicate (n-(dn++[(s.take i).drop f]).length) (S []))]/\i<j/\j<=s.length/\wf [] (s.drop (i+1))=wf [] (s.drop j)) (λj=>s.length-j) (λj h2=>h2=h1++[.cells ((dn++[(s.take i).drop f]).map Aa.str++List.replicate (n-(dn++[(s.take i).drop f]).length) (S []))]/\i<j/\j<=s.length/\wf [] (s.drop (i+1))=wf [] (s.drop j)/\∀hj:j<s.length,N8 s[j]=false) (i+1) rfl ⟨rfl,Ab,hlt,rfl⟩ ?_ ?_
    .rintro j h2 ⟨rfl,o,hj,sK⟩;rcases AP j s.length with aD|L
     .obtain⟨v,K,A⟩:=dk (c:=s[j]) none rfl (h:=h1++[.cells ((dn++[(s.take i).drop f]).map Aa.str++List.replicate (n-(dn++[(s.take i).drop f]).length) (S []))]);cases g:N8 s[j] with
      |true=>rw[g] at A;simp only[abS,(Ab:(j:Int)<(s.length:Int)),Fw aD,K,A,di,↓reduceIte,(AM:(1:Int)≠0),BW,BM (Ab:j<9223372036854775807)];rw[AG aD,wf,g] at sK;exact .next (j+1) rfl ⟨rfl,Ab,aD,by simpa using sK⟩ Ab
      |false=>rw[g] at A;simp only[abS,(Ab:(j:Int)<(s.length:Int)),Fw aD,K,A,di,Cj,↓reduceIte,BW];exact .HF j rfl ⟨rfl,o,hj,sK,λ_=>g⟩
     .simp only[abS,(Ab:¬(j:Int)<(s.length:Int))];exact .HF j rfl ⟨rfl,o,hj,sK,λh=>absurd h Ab⟩
    .rintro j h2 ⟨rfl,o,hj,sK,B⟩;simp only[BD,↓reduceIte];refine .next (dn++[(s.take i).drop f],j,j) AH ⟨rfl,Ag _,hj,?_,λ_=>B⟩ Dx
     simp only[O6];rw[<-sK,AI];exact hw
  .simp only[abS,(Ab:¬(i:Int)<(s.length:Int))];have hie:i=s.length:=Ab;refine .HF (dn,f,i) rfl ⟨rfl,Dx,?_⟩;simp only
   rw[AW Eg,hie,Bx] at hw;exact hw
 .rintro⟨dn,f,i⟩ h2 ⟨rfl,hf,hw⟩;simp only at hf hw;have fz:∀l:List Ai,l=wf [] s->KA (h1++[.cells (l.map Aa.str)]) (.CF h1.length 0 n 1)=some (h1++[.CR],.sl 1 ((wf [] s).map Cr)):=by
   rintro l rfl;have hr:∀r∈(wf [] s).map Cr,r.length=1:=λr hr=>by obtain⟨w,_,rfl⟩:=Bk.1 hr;rfl
   have P:((wf [] s).map Cr).flatten=(wf [] s).map Aa.str:=by
    generalize wf [] s=q;induction q with
    |nil=>rfl
    |cons x q ih=>simp[Cr,ih]
   have:=J0 (h:=h1++[.cells ((wf [] s).map Aa.str)]) (id:=h1.length) hr (by rw[P];simp);rw[An,<-hNe] at this;rw[this,BO _ _ (Ag _),De];rfl
  rcases AP f s.length with hlt|Eg
  .have hne:s.drop f≠[]:=by intro e;have:=Ca List.length e;simp at this;omega
   rw[wf,Ad hne] at hw;have m:n=dn.length+1:=by rw[hNe,<-hw];simp
   have u:AD (.Fl 1) [.CF h1.length 0 n 1,I (dn.length:Int)]=some (Pt h1.length dn.length):=by have:=EY (id:=h1.length) (z:=1) (n:=n) (k:= .i64) (Ab:dn.length<n);rwa [FE] at this
   have t:Cv (h1++[.cells (dn.map Aa.str++List.replicate (n-dn.length) (S []))]) 1 (Pt h1.length dn.length) (.str (s.drop f))=some (h1++[.cells ((dn++[s.drop f]).map Aa.str)]):=by have F:(h1++[DA.cells (dn.map Aa.str++List.replicate (n-dn.length) (S []))])[h1.length]?=some (.cells (dn.map Aa.str++List.replicate (n-dn.length) (S []))):=AH;have E:n-dn.length=1:=Ab;have D:(dn.map Aa.str).length=dn.length:=An ..;simp only[Cv,F,Qu,Be];rw[Af ⟨trivial,Ei⟩,BO _ _ (Ag _),De,E,show List.replicate 1 (S [])=S []::[] from rfl,dr _ _ _ _ D.symm];simp
   simp only[abS,(Ab:(f:Int)<(s.length:Int)),T3 (z:=0) (k:= .i64) (Ab:f<=s.length),u,t,fz _ hw]
  .rw[AW Eg,wf] at hw;simp only[BN,By] at hw;have m:n-dn.length=0:=by rw[hNe,<-hw];omega
   have G:=fz _ hw;rw[m,List.replicate_zero,By];simp only[abS,(Ab:¬(f:Int)<(s.length:Int)),G]
section
variable{h h':Ah}{bi:Nat}{b b':BS}{F:Nat->Prop}{n o a:Nat}{t:GD}{av:Aa}
def aJb(lo hi r:Int)(h:Ah):BL cx 414 [.int .i32 r,.CH [.int .i32 lo],.CH [.int .i32 hi]] h (.bool (decide (lo<=r/\r<=hi))) h:=by rw[Ae,WR];simp only[BD];refine⟨λh1=>by simp[h1],λh1=>by simp[h1]⟩
def Vo(p:Int×Int):List Aa:=[.func (.func 414) [] [.CH [.int .i32 p.1],.CH [.int .i32 p.2]]]
def aJc{L:List (Int×Int)}(g:L.length<=1000)(r:Int)(h:Ah):BL cx 413 [.int .i32 r,.CH [.sl 1 (L.map Vo)]] h (.bool (L.any λp=>decide (p.1<=r/\r<=p.2))) h:=by
 have hv:AU 1 (L.map Vo) (.sl 1 (L.map Vo)):= .mk;have e:=AU.CN hv;rw[Ae,j6];simp only[BD,e];refine Bi (λn:Nat=>[ff,I (n:Int)]) (λn h1=>n<=L.length/\h1=h/\L.any (λp=>decide (p.1<=r/\r<=p.2))=(L.drop n).any λp=>decide (p.1<=r/\r<=p.2)) (λn=>L.length-n) 0 rfl ⟨AV _,rfl,rfl⟩ ?_;rintro n h1 ⟨hn,rfl,ha⟩;rcases AP n L.length with hlt|Eg
 .have c:=AU.BK (k:= .i64) hv hlt;have f:∀x y:Int,Dp (.func (.func 414) [] [.CH [.int .i32 x],.CH [.int .i32 y]]) [.int .i32 r]=some (414,[.int .i32 r,.CH [.int .i32 x],.CH [.int .i32 y]]):=λ_ _=>rfl;have d:=aJb L[n].1 L[n].2 r h1;rw[AG hlt,Nx] at ha;rw[Vo] at c;simp only[abS,(Ab:(n:Int)<(L.length:Int)),c,f,d.Ac,BM (Ab:n<9223372036854775807)];refine⟨λh2=>?_,λh2=>?_⟩;.rw[ha];simp[h2]
  .rw[Ap h2,Hl] at ha;exact AK.next (n+1) rfl ⟨hlt,rfl,ha⟩ Ab
 .rw[AW Eg] at ha;simp only[abS,(Ab:¬(n:Int)<(L.length:Int)),ha,UA]
def aOb(r:Int):JM cx 233 [.int .i32 r] (.bool (decide (Za r))):=by
 have d:∀(lo hi:Int) (h:Ah),BL cx 361 [.int .i32 lo,.int .i32 hi] h (.func (.func 414) [] [.CH [.int .i32 lo],.CH [.int .i32 hi]]) h:=λlo hi h=>by rw[Ae,S9];simp only[BD]
 have g:∀(v:Aa) (h:Ah),v.cells=[v]->BL cx 360 [v] h (.func (.func 413) [] [.CH [v]]) h:=λv h hv=>by rw[Ae,WL];simp only[BD,hv]
 have e:=aJc (L:=[(9,10),(12,13),(32,32)]) AM r [];have c:AD (.Dm 1) [.func (.func 414) [] [.CH [.int .i32 9],.CH [.int .i32 10]],.func (.func 414) [] [.CH [.int .i32 12],.CH [.int .i32 13]],.func (.func 414) [] [.CH [.int .i32 32],.CH [.int .i32 32]]]=some (.sl 1 ([((9:Int),(10:Int)),(12,13),(32,32)].map Vo)):=rfl;have f:∀v:Aa,Dp (.func (.func 413) [] [v]) [.int .i32 r]=some (413,[.int .i32 r,v]):=λ_=>rfl;have r2:=g (.sl 1 ([((9:Int),(10:Int)),(12,13),(32,32)].map Vo)) [] rfl;have e0:decide (Za r)=([((9:Int),(10:Int)),(12,13),(32,32)].any λp=>decide (p.1<=r/\r<=p.2)):=by
  have c:Za r↔((9<=r/\r<=10)\/(12<=r/\r<=13)\/(32<=r/\r<=32)):=by unfold Za;omega
  simp only[Nx,UA,JF,<-Bool.decide_or,Dd];exact c
 rw[e0,L0,WA];simp only[BD,(d 9 10 []).Ac,(d 12 13 []).Ac,(d 32 32 []).Ac,c,r2.Ac,f,e.Ac]
structure Vp(l:Ai)(ws:List Ai):Prop where
 len:l.length<=1000000
 asc:∀c∈l,c.toNat<128
 wf:wf [] l=ws
def vZ{l:Ai}{ws:List Ai}(h:(decide (l.length<=1000000)&&l.all (λc=>decide (c.toNat<128))&&decide (wf [] l=ws))=true):Vp l ws:=by simp only[BC,C0,Db] at h;exact⟨h.1.1,h.1.2,h.2⟩
def Vp.few{l:Ai}{ws:List Ai}(w:Vp l ws):ws.length<=1000001:=by have:=dj (s:=l) (cur:=[]);have:=w.len;rw[<-w.wf];omega
def zd{l:Ai}{ws:List Ai}(w:Vp l ws)(h:Ah):BL cx 368 [.str l] h (.sl 1 (ws.map Cr)) (h++[.CR]):=by have c:=aJa l w.len w.asc h;rw[w.wf] at c;rw[Ae,jO];simp only[BD,c.Ac]
def aEj{l:Ai}{ws:List Ai}(w:Vp l ws)(s:Ai):JM cx 243 [.str s,.str l] (.bool (decide (s∈ws))):=by have c:BL cx 368 _ [] _ [.CR]:=zd w [];have r2:=Ŋ (Cc (ws:=ws)) (by have:=w.few;omega) s [DA.CR];rw[L0,WC];simp only[BD,c.Ac,r2.Ac]
def QZ{l:Ai}{ws:List Ai}(w:Vp l ws)(t:GD)(av:Aa)(h:Ah):BL cx 114 [.agg (C7 t av),.str l] h (.bool (decide (t.st ws))) h:=by
 rw[Ae,fI];simp only[BD,(aEj w t.name).B7 rfl rfl];refine⟨λh1=>?_,λh1=>?_⟩;.congr 2;unfold GD.st;simp[h1]
 .unfold GD.st;simp[h1]
def ŷ{l:Ai}{ws:List Ai}(w:Vp l ws)(t:GD)(av:Aa)(h:Ah):BL cx 117 [.agg (C7 t av),.str l] h (.bool (decide (t.en ws))) h:=by
 rw[Ae,fL];simp only[BD,(aEj w t.name).B7 rfl rfl];refine⟨λh1=>?_,λh1=>?_⟩;.congr 2;unfold GD.en;simp[h1]
 .unfold GD.en;simp[h1]
def aJd{l:Ai}{ws:List Ai}(w:Vp l ws)(t:GD)(av:Aa)(h:Ah):BL cx 113 [.agg (C7 t av),.str l] h (.bool (decide (t.odd ws))) h:=by
 rw[Ae,fH];simp only[BD,(aEj w t.name).B7 rfl rfl];refine⟨λh1=>?_,λh1=>?_⟩;.congr 2;unfold GD.odd;simp[h1]
 .unfold GD.odd;simp[h1]
def aJe(t:GD)(av:Aa)(h:Ah):BL cx 107 [.agg (C7 t av)] h (.bool (decide t.Kt)) h:=by
 rw[Ae,fF];simp only[BD,(aOb t.r).B7 rfl rfl];refine⟨λh1=>?_,λh1=>?_⟩;.congr 2;unfold GD.Kt;simp[h1]
 .unfold GD.Kt;simp[h1]
def ze(w:PB h bi b F)(t:GD)(av:Aa):BL cx 105 [Pt bi 0,.agg (C7 t av)] h (.bool (decide t.ok)) h:=by
 obtain⟨x,l0⟩:=w.Mi;rw[Ae,fE];simp only[abS,l0];refine⟨λh1=>?_,λh1=>?_⟩;.congr 2;unfold GD.ok;simp[h1]
 .unfold GD.ok;simp[h1]
def aJf(nm:Ai)(h:Ah):BL cx 115 [.str nm] h (.agg (C7 (RY nm) .slnil)) h:=by rw[Ae,fJ];simp only[abS,Nat.reduceLeDiff,↓reduceIte,AR,RY]
def aOd(w:PB h bi b F)(m:Int):N7 h F 109 [Pt bi 0,I m] tt bi (b.again m).1:=by obtain⟨d,w1,c⟩:=Zc w m;refine⟨_,_,?_,w1,c⟩;rw[Ae,fG];simp only[BD,d]
def Ÿ(w:PB h bi b F)(g:Gz b n o a):BL cx 124 [Pt bi 0] h (.bool (decide b.eQ)) h:=by rw[Ae,fN];simp only[BD,(aEf w g AZ).Ac];rfl
def v8(w:PB h bi b F)(g:Gz b (n+4) o a)(ht:t.Sm)(hv:Bt t.Ay av):N7 h F 116 [Pt bi 0,.agg (C7 t av)] (.tuple []) bi (b.MD t):=by obtain⟨h1,i,f,w1,d⟩:=dg w g ht hv;obtain⟨h2,F2,r2,e,c⟩:=zb w1 (g.Ns ht);refine⟨h2,F2,?_,e,d.trans c⟩;rw[Ae,fK];simp only[BD,f.Ac,r2.Ac]
end
def p9:Vp aUK df:=vZ C4
def qA:Vp aUu yx:=vZ C4
def zf:Vp aUP sNS:=vZ C4
def qB:Vp aUi [aUi]:=vZ C4
def Tt:Vp aUv [aUv]:=vZ C4
def cA:Vp aUz [aUz]:=vZ C4
def Zd:Vp aU2 [aU2]:=vZ C4
def Tu:Vp aUC [aUC]:=vZ C4
def L6:Vp aUd [aUd]:=vZ C4
section
variable{h h':Ah}{bi:Nat}{b b':BS}{F:Nat->Prop}{n o a:Nat}{t:GD}{av:Aa}
def aOe(w:PB h bi b F)(g:Gz b (n+1004) o a)(ht:t.Sm)(hv:Bt t.Ay av)(Z:t.st [aUi]->N7 h F 34 [Pt bi 0,.agg (C7 t av)] ff bi (b.bZ t)):N7 h F 31 [Pt bi 0,.agg (C7 t av)] (.bool (b.ME t).2) bi (b.ME t).1:=by
 have IP:=w.IP;unfold BS.ME;by_cases L:¬t.ok;.rw[Af L];have e:=ze w t av;rw[Ap L] at e;refine⟨_,_,?_,w,.refl⟩;rw[Ae,Ip];simp only[abS,↓reduceIte,e.Ac]
 rw[Ad L];have e:=ze w t av;rw[As (Decidable.not_not.1 L)] at e;by_cases i:t.k=1;.rw[Af i];refine⟨_,_,?_,w,.refl⟩;rw[Ae,Ip];simp only[abS,↓reduceIte,e.Ac,AQ i]
 rw[Ad i];by_cases K:t.st [aUv];.rw[Af K];have f:=QZ Tt t av h;rw[As K] at f;refine⟨_,_,?_,w,.refl⟩;rw[Ae,Ip];simp only[abS,↓reduceIte,e.Ac,f.Ac,i]
 rw[Ad K];have f:=QZ Tt t av h;rw[Ap K] at f;by_cases J:t.odd df;.rw[Af J];have j:=aJd p9 t av h;rw[As J] at j;refine⟨_,_,?_,w,.refl⟩;rw[Ae,Ip];simp only[abS,↓reduceIte,e.Ac,f.Ac,j.Ac,i]
 rw[Ad J];have j:=aJd p9 t av h;rw[Ap J] at j;by_cases H:t.Kt;.rw[Af H];have l:=aJe t av h;rw[As H] at l;obtain⟨h1,y,d,w1,c⟩:=aEc w (g.dn (n':=n+5) Ab) ht.r;refine⟨_,_,?_,w1,c⟩;rw[Ae,Ip];simp only[abS,↓reduceIte,e.Ac,f.Ac,j.Ac,l.Ac,i,d.Ac]
 rw[Ad H];have l:=aJe t av h;rw[Ap H] at l;by_cases p:t.k=4;.rw[Af p];obtain⟨h1,y,d,w1,c⟩:=ml (s:=t.data) w (g.dn (n':=n+1) Ab) (by have:=ht.data;omega) 0;refine⟨_,_,?_,w1,c⟩;rw[Ae,Ip];simp only[abS,↓reduceIte,e.Ac,f.Ac,j.Ac,l.Ac,i,AQ p,d.Ac]
 rw[Ad p];by_cases C:t.st [aUi];.rw[Af C];have m:=QZ qB t av h;rw[As C] at m;obtain⟨h1,y,d,w1,c⟩:=Z C;refine⟨_,_,?_,w1,c⟩;rw[Ae,Ip];simp only[abS,↓reduceIte,e.Ac,f.Ac,j.Ac,l.Ac,m.Ac,i,p,d.Ac]
 rw[Ad C];have m:=QZ qB t av h;rw[Ap C] at m;by_cases G:t.st yx;.rw[Af G];have q:=QZ qA t av h;rw[As G] at q;obtain⟨h1,y,d,w1,c⟩:=v8 w (g.dn (n':=n+4) Ab) ht hv;refine⟨_,_,?_,w1,c⟩;rw[Ae,Ip];simp only[abS,↓reduceIte,e.Ac,f.Ac,j.Ac,l.Ac,m.Ac,q.Ac,i,p,d.Ac]
 rw[Ad G];have q:=QZ qA t av h;rw[Ap G] at q;by_cases E:t.st [aUz];.rw[Af E];have v:=QZ cA t av h;rw[As E] at v;obtain⟨h1,y,d,w1,c⟩:=yy w (g.dn (n':=n+4) Ab) ht hv 2;refine⟨_,_,?_,w1,c⟩;rw[Ae,Ip];simp only[abS,↓reduceIte,e.Ac,f.Ac,j.Ac,l.Ac,m.Ac,q.Ac,v.Ac,i,p,d.Ac]
 rw[Ad E];have v:=QZ cA t av h;rw[Ap E] at v;by_cases D:t.st sNS;.rw[Af D];have z:=QZ zf t av h;rw[As D] at z;obtain⟨h1,y,d,w1,c⟩:=yy w (g.dn (n':=n+4) Ab) ht hv 3;refine⟨_,_,?_,w1,c⟩;rw[Ae,Ip];simp only[abS,↓reduceIte,e.Ac,f.Ac,j.Ac,l.Ac,m.Ac,q.Ac,v.Ac,z.Ac,i,p,d.Ac]
 rw[Ad D];have z:=QZ zf t av h;rw[Ap D] at z;by_cases MS:t.st [aU2];.rw[Af MS];have lD:=QZ Zd t av h;rw[As MS] at lD;obtain⟨h1,y,d,w1,c⟩:=yy w (g.dn (n':=n+4) Ab) ht hv 4;refine⟨_,_,?_,w1,c⟩;rw[Ae,Ip];simp only[abS,↓reduceIte,e.Ac,f.Ac,j.Ac,l.Ac,m.Ac,q.Ac,v.Ac,z.Ac,lD.Ac,i,p,d.Ac]
 rw[Ad MS];have lD:=QZ Zd t av h;rw[Ap MS] at lD;by_cases Oe:t.st [aUC];.rw[Af Oe];have qC:=QZ Tu t av h;rw[As Oe] at qC;obtain⟨h1,y,d,w1,c⟩:=dg w (g.dn (n':=n+4) Ab) ht hv;obtain⟨M,B,A⟩:=Zc w1 5;refine⟨_,_,?_,B,c.trans A⟩;rw[Ae,Ip];simp only[abS,↓reduceIte,e.Ac,f.Ac,j.Ac,l.Ac,m.Ac,q.Ac,v.Ac,z.Ac,lD.Ac,qC.Ac,i,p,d.Ac,M]
 rw[Ad Oe];have qC:=QZ Tu t av h;rw[Ap Oe] at qC;by_cases O4:t.en [aUv];.rw[Af O4];have du:=ŷ Tt t av h;rw[As O4] at du;obtain⟨h1,y,d,w1,c⟩:=zb w (g.dn (n':=n) Ab);obtain⟨M,B,A⟩:=Zc w1 6;refine⟨_,_,?_,B,c.trans A⟩;rw[Ae,Ip];simp only[abS,↓reduceIte,e.Ac,f.Ac,j.Ac,l.Ac,m.Ac,q.Ac,v.Ac,z.Ac,lD.Ac,qC.Ac,du.Ac,i,p,d.Ac,M]
 rw[Ad O4];have du:=ŷ Tt t av h;rw[Ap O4] at du;by_cases Pl:t.st [AZ]
 .rw[Af Pl];have I_:=QZ L6 t av h;rw[As Pl] at I_;obtain⟨h1,y,d,w1,c⟩:=dg w (g.dn (n':=n+4) Ab) ht hv;have g1:=(g.dn (n':=n+2+4) Ab).Ns ht;obtain⟨h2,F2,r2,B,A⟩:=aEe w1 g1;obtain⟨W,T,R⟩:=vY B false;obtain⟨V,O,Q⟩:=Zc T 18;obtain⟨tv,Y,N⟩:=O.ltm;have tb:(b.Ns t).tm.length<=900000000:=by have:=g1.rm.tm;omega
  obtain⟨u,X,hu⟩:=aDN N.1 Dx (put (put h2 bi 14 ff) bi 4 (I 18));have e6:=hu.1.tJ 18 (by simp only;have:AX=140737488355328:=rfl;omega);have em:AD (.Dm 1) [I 18]=some (.sl 1 [Ce 18]):=rfl;have Jh:Ui ((b.Ns t).tm++[(18:Int)]) (.sl 1 (((b.Ns t).tm++[(18:Int)]).map Ce)):= .gp;obtain⟨U,S,P⟩:=aN8 O Jh;refine⟨_,_,?_,S,(((c.trans A).trans R).trans Q).trans P⟩;rw[Ae,Ip];simp only[abS,↓reduceIte,e.Ac,f.Ac,j.Ac,l.Ac,m.Ac,q.Ac,v.Ac,z.Ac,lD.Ac,qC.Ac,du.Ac,I_.Ac,i,p,d.Ac,r2.Ac,W,V,Y,X.Ac,em,e6,U]
 rw[Ad Pl];have I_:=QZ L6 t av h;rw[Ap Pl] at I_;by_cases QM:t.en [AZ];.rw[Af QM];have x:=ŷ L6 t av h;rw[As QM] at x;obtain⟨h1,y,d,w1,c⟩:=aEd w (g.dn (n':=n) Ab);refine⟨_,_,?_,w1,c⟩;rw[Ae,Ip];simp only[abS,↓reduceIte,e.Ac,f.Ac,j.Ac,l.Ac,m.Ac,q.Ac,v.Ac,z.Ac,lD.Ac,qC.Ac,du.Ac,I_.Ac,x.Ac,i,p,d.Ac]
 rw[Ad QM];have x:=ŷ L6 t av h;rw[Ap QM] at x;obtain⟨h1,y,d,w1,c⟩:=zb w (g.dn (n':=n) Ab);obtain⟨h2,F2,r2,B,A⟩:=aOd w1 6;refine⟨_,_,?_,B,c.trans A⟩;rw[Ae,Ip];simp only[abS,↓reduceIte,e.Ac,f.Ac,j.Ac,l.Ac,m.Ac,q.Ac,v.Ac,z.Ac,lD.Ac,qC.Ac,du.Ac,I_.Ac,x.Ac,i,p,d.Ac,r2.Ac,BS.again]
end
def RZ(h:Ah)(F:Nat->Prop)(f:FuncId)(args:List Aa)(r:Aa)(bi:Nat)(b':BS):Prop:=∃h' F',BL cx f args h r h'/\RB h' bi b' F'/\DC h F h' F'
def WrR(h:Ah)(F:Nat->Prop)(bi k:Nat)(v:Aa)(b':BS):Prop:=Cv h 1 (.ptr (some (bi,k))) v=some (put h bi k v)/\RB (put h bi k v) bi b' F/\DC h F (put h bi k v) F
section
variable{h h':Ah}{bi:Nat}{b b':BS}{F:Nat->Prop}{n o a:Nat}{t:GD}{av:Aa}
def aBu(w:RB h bi b F)(g:Gz b (n+4) o a)(hm:Nm b.a)(ht:t.Sm)(hv:Bt t.Ay av):RZ h F 86 [.ptr (some (bi,0)),.agg (C7 t av)] (.int .i64 (b.a.len+1)) bi (b.Ns t):=by obtain⟨d,e,c,tt,G,w,hc,rfl⟩:=w;obtain⟨h',o',G',r,w',x⟩:=yr (m:=n) w g.ok g.rm hm Zb hv ht.Ay ht.name;exact⟨h',_,r,⟨d,o',c,tt,G',w',by unfold BS.Ns;rw[EU];exact hc,rfl⟩,x⟩
def aJj(w:RB h bi b F)(g:Gz b n o a):RZ h F 136 [.ptr (some (bi,0))] (.tuple []) bi b.LR:=by
 obtain⟨l,d,c,tt,G,w,hc,rfl⟩:=w;have ho:=g.rm.AN;have ld:A8 h none (.ptr (some (bi,2)))=some d:=w.ld 2;obtain⟨u,i,j,hu⟩:=aDy (h:=h) w.o Ab;have e:b.LR={b with AN:=Km b.AN ((b.AN.length:Int)-1)}:=by
  unfold BS.LR Km;split
  .have h1:max 1 ((b.AN.length:Int)-1).toNat=1:=by omega
   rw[h1,AF Ab]
  .have h1:max 1 ((b.AN.length:Int)-1).toNat=b.AN.length-1:=by omega
   rw[h1]
 have w1:=w.HJ (u:=i);have f:=w1.HU hu;refine⟨_,_,?_,⟨l,u,c,tt,G,by rw[e];exact f,by rw[e];exact hc,rfl⟩,w.C6.trans Bg⟩;rw[Ae,þ];simp only[abS,↓reduceIte,ld,j.Ac,w1.st (k:=2) (v0:=d) rfl (AU.cells hu)]
def aEk(w:RB h bi b F)(v:Int):WrR h F bi 4 (.int .i64 v) {b with mode:=v}:=by obtain⟨e,d,c,tt,G,w,hc,rfl⟩:=w;exact⟨w.st (k:=4) rfl rfl,⟨e,d,c,tt,G,w.put rfl rfl w.o w.t,hc,rfl⟩,Bg⟩
end
end Go.Am
end
section
end
