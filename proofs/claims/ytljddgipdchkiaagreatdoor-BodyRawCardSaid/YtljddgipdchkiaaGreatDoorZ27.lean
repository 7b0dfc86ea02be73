/- Lemmas -/
import Derived.Test.YtljddgipdchkiaaGreatDoorZ26
set_option linter.all false
set_option maxHeartbeats 0
set_option maxRecDepth 100000
section
namespace Go.Am
open Go
def Ur{nm:Aq}:∀{r:List Cu} {j:Nat},Pv nm r=(j:Int)->∃hj:j<r.reverse.length,r.reverse[j].node≠0
 |[],j,e=>by rw[Pv] at e;omega
 |x::r,j,e=>by
  rw[Pv] at e;split at e;.omega
  .rename_i h0;split at e
   .have d:j=r.reverse.length:=by rw[KP];omega
    subst d;exact⟨AK,by simpa using h0⟩
   .obtain⟨hj,h1⟩:=Ur e;refine⟨by simp at hj⊢;omega,?_⟩;simp only[EJ];rw[Gf hj];exact h1
def oK{nm:Aq}{l:List Cu}{f:Nat}(e:GD nm l=(f:Int)):∃hf:f<l.length,l[f].node≠0:=by unfold GD at e;obtain⟨hj,h⟩:=Ur e;simp only[Fk] at hj h;exact⟨hj,h⟩
def XY{l:List Cu}{n:Int}{q:Nat}(e:Fh n l=(q:Int)):jG n l=Bf l q:=by unfold jG;rw[e,Ae Ab,AT]
section
variable{h h':Ah}{bi a:Nat}{o c t:Aa}{G G' F:Nat->Prop}{b:BS}{x:Int}{m:Nat}
variable{nm:Aq}{av:Aa}{l:List A6}{r:List Aa}{sp p:Int}
def B7.aKH{d:List Cu}(hc:B7 d c)(hb:d.length<=900000000)(nm:Aq)(h:Ah):BZ cx 353 [c,.str nm] h (I (GD nm d)) h:=by obtain⟨fs,Hh,hv⟩:=hc;have:=aOa (h:=h) hv (by rw[<-Hh,Al] at hb;omega) nm;rwa [vR,Hh] at this
def aKI(w:RX h bi a o c t G b)(hc:B7 b.Bb c)(ok:Ez b)(rm:B9 b (m+4*b.AY.length+10))(hnm:Nm b.a)(nm:Aq):
  ∃h' o' c' G',BZ cx 224 [Pt bi 0,.str nm] h (.bool (b.round nm).1) h'/\RX h' bi a o' c' t G' (b.round nm).2/\B7 (b.round nm).2.Bb c'/\DE h (Bw bi G) h' (Bw bi G'):=by
 have ho:=rm.AY;have SQ:=rm.Bb;have UI:∀i∈b.AY,i.name.length<9223372036854775807:=λi hi=>by have:=rm.X8 i hi;omega
 have l3:=w.l3;have ld:Bg h none (Pt bi 2)=some o:=w.ld 2;have M:=hc.aKH Ab nm h;by_cases hf:GD nm b.Bb<0
 .obtain⟨h2,o2,r2,U,x2⟩:=aKA w rm nm;have e:b.round nm=(false,b.Dm nm):=by unfold BS.round;simp only;rw[Ae hf]
  have ea:(b.Dm nm).Bb=b.Bb:=by
   unfold BS.Dm;split;.split<;>rfl
   .rfl
  rw[e];refine⟨h2,o2,c,G,?_,U,by rw[ea];exact hc,x2⟩;rw[Af,Qa,nH];simp only[abS,l3,M.Ad,hf,r2.Ad]
 obtain⟨f,Hn,T⟩:=Sy (Ji.1 hf);obtain⟨_,ú⟩:=oK T;have jQ:¬(f:Int)<0:=Ab;rw[T] at M;have KE:=hc;obtain⟨fs,Hh,hv⟩:=KE;have aO9:b.Bb.length=fs.length:=by rw[<-Hh,Al]
 have efp:fs[f].c=b.Bb[f]:=by simp only[<-Hh,CY]
 have V:=AV.BN (k:= .i64) hv (Ab:f<fs.length);have XL:=vW ok.yW Hn ú;have Kv:=rm.DD _ (AN Hn);have VD:b.Bb.getD f Cu.zero=b.Bb[f]:=by rw[AL,Ai Hn];rfl
 rw[<-efp] at XL Kv VD ú;generalize hfe:fs[f]=fe at*;have zU:fe.v.cells=[fe.v]:=AV.cells fe.ok;rw[Cl.row] at V;have r2:=YA (h:=h) w.o Ab fe.c.node;by_cases hk:AP (BB fe.c.node) b.AY<0
 .obtain⟨h2,c2,D,U,IS,x2⟩:=pg w hc Ab fe.c.node;rw[XY XL] at U IS;have e:b.round nm=(false,{b with Bb:=Bf b.Bb f}):=by unfold BS.round;simp only;rw[Ac hf,T,AT,VD,Ae hk]
  rw[e];refine⟨h2,o,c2,G,?_,U,IS,x2⟩;rw[Af,Qa,nH];simp only[abS,Nat.reduceLeDiff,↓reduceIte,l3,M.Ad,jQ,V,ld,r2.Ad,hk,D.Ad]
 obtain⟨k,R⟩:∃k:Nat,AP (BB fe.c.node) b.AY=(k:Int):=⟨_,(GV (Ji.1 hk)).symm⟩;obtain⟨PQ,hkq,_⟩:=II R;have iM:¬(k:Int)<0:=Ab;rw[R] at r2;have D:=aNY (h:=h) w.o Ab UI 1 fe.c.node;by_cases Qo:J2 (BB fe.c.node) (JG 1) b.AY.reverse=false
 .have e:b.round nm=(false,b):=by unfold BS.round;simp only;rw[Ac hf,T,AT,VD,Ac hk,Ae (.inr Qo)]
  rw[e];refine⟨h,o,c,G,?_,w,hc,.refl⟩;rw[Qo] at D;rw[Af,Qa,nH];simp only[abS,Nat.reduceLeDiff,↓reduceIte,l3,M.Ad,jQ,V,ld,r2.Ad,iM,AZ,D.Ad]
 have aDZ:J2 (BB fe.c.node) (JG 1) b.AY.reverse=true:=by simpa using Qo
 rw[aDZ] at D;by_cases hkz:k=0
 .have e:b.round nm=(false,b):=by unfold BS.round;simp only;rw[Ac hf,T,AT,VD,Ac hk,Ae (.inl (by rw[R,hkz];rfl))]
  rw[e];refine⟨h,o,c,G,?_,w,hc,.refl⟩;rw[Af,Qa,nH];simp only[abS,Nat.reduceLeDiff,↓reduceIte,l3,M.Ad,jQ,V,ld,r2.Ad,iM,AZ,D.Ad,A0 (Ab:(k:Int)=0)]
 have i7:¬(k:Int)=0:=Ab;have r4:=aNZ (h:=h) w.o Ab UI fe.c.node;have hor:¬(AP (BB fe.c.node) b.AY=0\/J2 (BB fe.c.node) (JG 1) b.AY.reverse=false):=by rw[R];rintro(h|h);exact i7 h;exact Qo h
 by_cases hfa:D0 fe.c.node b.AY<0
 .have e:b.round nm=(false,{b with AY:=GS fe.c.node b.AY,Bb:=Bf b.Bb f}):=by unfold BS.round;simp only;rw[Ac hf,T,AT,VD,Ac hk,Ac hor,Ae hfa]
  obtain⟨u,t1,r5,hu⟩:=aIQ (h:=h) w.o Ab fe.c.node;have w1:=w.Iq (u:=t1);have U:=w1.IH hu;obtain⟨h3,c3,r6,w3,Nc,x3⟩:=pg U hc Dp fe.c.node;simp only at w3 Nc;rw[XY XL] at w3 Nc;rw[e];refine⟨h3,u,c3,G,?_,w3,Nc,(w.C7.trans Bq).trans x3⟩;rw[Af,Qa,nH];simp only[abS,Nat.reduceLeDiff,↓reduceIte,l3,M.Ad,jQ,V,ld,r2.Ad,iM,AZ,D.Ad,i7,r4.Ad,hfa,r5.Ad,w1.st (k:=2) (v0:=o) rfl (AV.cells hu),r6.Ad]
 obtain⟨N,hN,eN⟩:∃N:Nat,k+1+N<b.AY.length/\D0 fe.c.node b.AY=((k+1+N:Nat):Int):=by
  have oB:=hfa;rw[IB,Ac hk,R,AT] at oB⊢;unfold E1 at oB⊢;split at oB;.rename_i j hj;have:=(EH.1 hj).1;rw[Bc] at this;exact⟨j,Ab,Ab⟩
  .omega
 have e2:=AV.BN (k:= .i64) w.o hN;have e3:=AV.BN (k:= .i64) w.o (Ab:k-1<b.AY.length);obtain⟨d,zK⟩:∃d,d=b.AY[k+1+N]:=⟨_,rfl⟩;obtain⟨an,é⟩:∃an,an=b.AY[k-1]'(by omega):=⟨_,rfl⟩;rw[<-zK,Item.row] at e2;rw[<-é,Item.row] at e3;have gu:b.AY.getD (k+1+N) Item.zero=d:=by rw[AL,Ai hN,zK];rfl
 have hga:b.AY.getD (k-1) Item.zero=an:=by rw[AL,Ai Ab,é];rfl
 have e:b.round nm=(true,BS.GG fe.c d.node an.node (BS.Kt d.node an.node (k+1+N) k N (b,d.node,f))):=by
  unfold BS.round;simp only
  rw[Ac hf,T,AT,VD,Ac hk,Ac hor,Ac hfa,R,eN,AT,AT,gu,hga,(Ab:k+1+N-1 -k=N)]
 have zV:=ok.op d (by rw[zK];exact AN _);have aD0:b.AY[k].node=fe.c.node:=by simpa[BB] using hkq
 have ù:b.a.has fe.c.node:=by rw[<-aD0];exact(ok.op _ (AN _)).1
 have UM:=If (n:=k) Ab Ab;have le0:=(Vu (blk:=d.node) (anc:=an.node) (far:=k+1+N) (k:=k) (c:=N) (s:=(b,d.node,f)) ok zV.1).2.2;obtain⟨h5,o5,c5,G5,s',r7,es,i⟩:=aKE (m:=m+10) (anc:=an.node) (fe:=fe.c.node) (f:=f) w hc ok (rm.le Ab) hnm hN Ab zK.symm R (by rw[XL];omega) ù;rw[<-es] at le0 e;obtain⟨q,hq,zN,hq0,hq2,hq3⟩:=Hz i.Vn;have ķ:=i.Œ;have r8:=wF i.w i.ok.ba i.rm i.nm an.node;obtain⟨h7,G7,r9,w7,x7⟩:=wE i.w i.ok.ba i.rm (s'.1.place an.node).1 s'.2.1 (s'.1.place an.node).2;have le7:Le s'.1.a (s'.1.a.Ey s'.2.1 (s'.1.place an.node).1 (s'.1.place an.node).2):=I0;have O:=i.ok.Ku (Oj (n:=s'.2.1) (p:=(s'.1.place an.node).1) (b:=(s'.1.place an.node).2) i.ok.ok) le7;have K:=i.rm.Ku (JY (x:=s'.2.1) (p:=(s'.1.place an.node).1) (bf:=(s'.1.place an.node).2));have nm7:Nm (s'.1.a.Ey s'.2.1 (s'.1.place an.node).1 (s'.1.place an.node).2):=i.nm.Ey;obtain⟨b2,NT⟩:∃b2,b2={s'.1 with a:=s'.1.a.Ey s'.2.1 (s'.1.place an.node).1 (s'.1.place an.node).2}:=⟨_,rfl⟩;have X3:b2.AY=s'.1.AY:=by rw[NT]
 have IS:b2.Bb=s'.1.Bb:=by rw[NT]
 have le2:Le s'.1.a b2.a:=by rw[NT];exact le7
 have nm2:Nm b2.a:=by rw[NT];exact nm7
 rw[<-NT] at w7 O K;have hr:Oo fe.c.name fe.v [I 2,.str fe.c.name,ff,S [],ff,S [],ff,ff,fe.v,ff,S [],.int .i32 0]:=⟨I 2,ff,S [],ff,S [],ff,ff,ff,S [],.int .i32 0,rfl⟩;obtain⟨h8,G8,r11,w8,x8⟩:=Ć (m:=m+7) w7 O.ba (K.le Ab) nm2 hr fe.ok Kv.2 Kv.1 d.node 1;obtain⟨qt,fr,le8⟩:=Px (nm:=fe.c.name) (at_:=fe.c.AA) (p:=d.node) O JQ;have û:=I1 (m:=m+7) (nm:=fe.c.name) (l:=fe.c.AA) (sp:=1) (p:=d.node) (K.le Ab) Kv.2;obtain⟨g,hnw⟩:∃g,g=b2.Gw fe.c.name fe.c.AA 1:=⟨_,rfl⟩;obtain⟨b3,bh⟩:∃b3,b3=b2.EB fe.c.name fe.c.AA 1 d.node:=⟨_,rfl⟩;have ho3:b3.AY=s'.1.AY:=by rw[bh,<-X3];unfold BS.EB;rw[Ae JQ]
 have Nc:b3.Bb=s'.1.Bb:=by rw[bh,<-IS];unfold BS.EB;rw[Ae JQ]
 rw[<-hnw] at r11 fr;rw[<-bh] at w8 qt fr le8 û;have aJ1:(b3.a.nd d.node).A8.length<=1000000000:=û.X9.A8 qt.ok d.node;obtain⟨kv,r12,vO⟩:∃v,BZ cx 212 [Pt a 0,I d.node] h8 v h8/\D2 (b3.a.nd d.node).A8 v:=by obtain⟨n,i,ps,wa,_⟩:=w8.w;exact ou wa aJ1
 have ZF:=λ(y:Item)=>@Item.CL y;have Jc:Ev cx 224 [Pt bi 0,.str nm] h λr h'=>r= .bool true/\∃o' c' G',RX h' bi a o' c' t G' (BS.GG fe.c d.node an.node s')/\B7 (BS.GG fe.c d.node an.node s').Bb c'/\DE h (Bw bi G) h' (Bw bi G'):=by
  unfold Ev;rw[Qa,nH];simp only[abS,Nat.reduceLeDiff,↓reduceIte,Fc,l3,M.Ad,jQ,V,ld,r2.Ad,iM,AZ,D.Ad,i7,r4.Ad,eN,(Ab:¬((k+1+N:Nat):Int)<0),e2,UM,e3];simp only[abS,Nat.reduceLeDiff,↓reduceIte,AR,r7.Ad,r8.Ad,r9.Ad,zU];simp only[abS,↓reduceIte,Fc,r11.Ad,ZF,w8.l0,r12.Ad];have ŕ:DE h (Bw bi G) h8 (Bw bi G8):=(i.x.trans x7).trans x8;have hvl:=AV.CN vO;refine DS (i:=0) (λj:Nat=>[I (j:Int)]) (λj Q=>j<=(b3.a.nd d.node).A8.length/\∃H,RX Q bi a o5 c5 t H {b3 with a:=BS.CA b3.a g.node ((b3.a.nd d.node).A8.take j)}/\Ez {b3 with a:=BS.CA b3.a g.node ((b3.a.nd d.node).A8.take j)}/\B9 {b3 with a:=BS.CA b3.a g.node ((b3.a.nd d.node).A8.take j)} (m+7)/\DE h8 (Bw bi G8) Q (Bw bi H)) (λj=>(b3.a.nd d.node).A8.length-j)
   (λj Q=>j=(b3.a.nd d.node).A8.length/\∃H,RX Q bi a o5 c5 t H {b3 with a:=BS.CA b3.a g.node ((b3.a.nd d.node).A8.take j)}/\Ez {b3 with a:=BS.CA b3.a g.node ((b3.a.nd d.node).A8.take j)}/\B9 {b3 with a:=BS.CA b3.a g.node ((b3.a.nd d.node).A8.take j)} (m+7)/\DE h8 (Bw bi G8) Q (Bw bi H)) 0 rfl ⟨AU _,G8,w8,qt,û,.refl⟩ ?_ ?_
  .rintro j Q ⟨hj,H,C,oC,vY,W⟩;rcases AO j (b3.a.nd d.node).A8.length with hlt|Ef
   .have e9:=AV.BN (k:= .i64) vO hlt;obtain⟨er,UZ,z,Ŗ,Tv,oD⟩:=C.dE oC.ba vY g.node (b3.a.nd d.node).A8[j] 0;have hs:BS.CA b3.a g.node ((b3.a.nd d.node).A8.take (j+1))=(BS.CA b3.a g.node ((b3.a.nd d.node).A8.take j)).FV g.node (b3.a.nd d.node).A8[j] 0:=by rw[Ay hlt,QG]
    rw[Cp] at e9;simp only[abS,hvl,(Ab:(j:Int)<((b3.a.nd d.node).A8.length:Int)),C.l0,e9,Ŗ.Ad,BQ (Ab:j<9223372036854775807)];refine .next (j+1) rfl ⟨hlt,z,by rw[hs];exact Tv,?_,?_,W.trans oD⟩ Ab
    .have:=oC.Ku (P4 (p:=g.node) (n:=(b3.a.nd d.node).A8[j]) (b:=0) oC.ok) Oi;rw[hs];exact this
    .have:=vY.Ku (JX (p:=g.node) (x:=(b3.a.nd d.node).A8[j]) (bf:=0));rw[hs];exact this
   .simp only[abS,hvl,(Ab:¬(j:Int)<((b3.a.nd d.node).A8.length:Int))];exact .HC j rfl ⟨Ab,H,C,oC,vY,W⟩
  .rintro j Q ⟨rfl,H,C,oC,vY,W⟩;rw[By] at C oC vY;obtain⟨er,UZ,z,Ŗ,Tv,oD⟩:=C.dE oC.ba vY d.node g.node 0;have ü:B7 ({b3 with a:=(BS.CA b3.a g.node (b3.a.nd d.node).A8).FV d.node g.node 0}:BS).Bb c5:=by simp only;rw[Nc];exact i.hc
   have hqa:=i.rm.Bb;have g_:Fh fe.c.node b3.Bb=(q:Int):=by rw[Nc];exact zN
   have A:=ü.ix (n:=0) (by simp only;rw[Nc];omega) fe.c.node UZ;simp only at A;rw[g_] at A;obtain⟨Zb,WB,r15,ý,zW,x11⟩:=pg Tv ü (by simp only;rw[Nc];omega) fe.c.node;simp only at ý zW;rw[XY g_] at ý zW;obtain⟨Tu,U8⟩:∃Tu:Nat,Tu=if q<s'.2.2 then s'.2.2 -1 else s'.2.2:=⟨_,rfl⟩
   have jR:(Bf b3.Bb q).length=b3.Bb.length-1:=He (by rw[Nc];exact hq);have Vi:b3.Bb.length=s'.1.Bb.length:=by rw[Nc]
   obtain⟨u1,L,ÿ,P⟩:=zW.wi Ab (e:={fe.c with node:=g.node}) fe.ok (by have:=Kv.2.1;simp only;omega) (Tu:Int) Zb;have l11:=ý.l3;have s12:=ý.st (k:=3) (v0:=WB) rfl P;have qu:=ý.Lj (u:=u1) (l:=(Bf b3.Bb q).take (CG Tu (Bf b3.Bb q).length)++{fe.c with node:=g.node}::(Bf b3.Bb q).drop (CG Tu (Bf b3.Bb q).length));have x12:=x11.trans (Bq (bi:=bi) (G:=z) (h:=Zb) (k:=3) (v:=u1));generalize put Zb bi 3 u1=ŗ at*;have hob:=i.rm.AY;have bd:b3.AY.length=s'.1.AY.length:=by rw[ho3]
   have aKJ:Bg ŗ none (Pt bi 2)=some o5:=qu.ld 2;obtain⟨u2,t2,r17,Jj⟩:=aN7 (h:=ŗ) qu.o Dp fe.c.node;simp only at Jj;have Z:=qu.Iq (u:=t2);have s13:=Z.st (k:=2) (v0:=o5) rfl (AV.cells Jj);have J:=Z.IH Jj;have x14:=(x12.trans qu.C7).trans (Bq (bi:=bi) (G:=z) (h:=ŗ++t2) (k:=2) (v:=u2));generalize put (ŗ++t2) bi 2 u2=B at*;have jN:(C2 fe.c.node b3.AY).length<=s'.1.AY.length:=by rw[<-ho3];exact Lg.length_le
   have aKK:Bg B none (Pt bi 2)=some u2:=J.ld 2;have r18:=YA (h:=B) Jj Ab d.node;have hli: -1<=AP (BB d.node) (C2 fe.c.node b3.AY)/\AP (BB d.node) (C2 fe.c.node b3.AY)<=(C2 fe.c.node b3.AY).length:=by rcases De (q:=BB d.node) (l:=C2 fe.c.node b3.AY) with⟨h,_⟩|⟨n,h1,h2,_⟩<;>omega
   have add:=Od (a:=AP (BB d.node) (C2 fe.c.node b3.AY)) (b:=1) Ab Ab;obtain⟨u3,r19,ô⟩:=aN8 (h:=B) Jj Ab g (AP (BB d.node) (C2 fe.c.node b3.AY)+1);have s15:=J.st (k:=2) (v0:=u2) rfl (AV.cells ô);have Y:=J.IH ô;have X:=x14.trans (Bq (bi:=bi) (G:=z) (h:=B) (k:=2) (v:=u3));have hE:BS.GG fe.c d.node an.node s'={b3 with a:=(BS.CA b3.a g.node (b3.a.nd d.node).A8).FV d.node g.node 0,Bb:=(Bf b3.Bb q).take (CG Tu (Bf b3.Bb q).length)++{fe.c with node:=g.node}::(Bf b3.Bb q).drop (CG Tu (Bf b3.Bb q).length),AY:=(C2 fe.c.node b3.AY).take (E2 (AP (BB d.node) (C2 fe.c.node b3.AY)+1) (C2 fe.c.node b3.AY).length)++g::(C2 fe.c.node b3.AY).drop (E2 (AP (BB d.node) (C2 fe.c.node b3.AY)+1) (C2 fe.c.node b3.AY).length)}:=by
    unfold BS.GG;simp only
    rw[<-NT,<-bh,<-hnw,g_,AT,<-U8]
   have E:=Tv.l3;by_cases hqm:(q:Int)<(s'.2.2:Int);.have dm:=If (n:=s'.2.2) Ab Ab;rw[Ae (Ab:q<s'.2.2)] at U8;rw[<-U8] at dm;simp only[abS,Nat.reduceLeDiff,↓reduceIte,AR,Fc,C.l0,Ŗ.Ad,E,A.Ad,hqm,AZ,dm,r15.Ad,l11,zU];simp only[BJ,L.Ad,s12,aKJ,r17.Ad,s13,aKK,r18.Ad,BO,add,r19.Ad,s15];rw[hE];exact⟨_,rfl,rfl,u3,u1,z,Y,ÿ,(ŕ.trans (W.trans oD)).trans X⟩
   .rw[Ac (Ab:¬q<s'.2.2)] at U8;rw[U8] at L;simp only[abS,Nat.reduceLeDiff,↓reduceIte,AR,Fc,C.l0,Ŗ.Ad,E,A.Ad,hqm,AZ,r15.Ad,l11,zU];simp only[BJ,L.Ad,s12,aKJ,r17.Ad,s13,aKK,r18.Ad,BO,add,r19.Ad,s15];rw[hE];exact⟨_,rfl,rfl,u3,u1,z,Y,ÿ,(ŕ.trans (W.trans oD)).trans X⟩
 obtain⟨r,h',hr,rfl,o',c',G',w',KE,x'⟩:=Jc.ret;rw[e];exact⟨h',o',c',G',hr,w',KE,x'⟩
end
namespace BS
def FE(b:BS)(nm:Aq)(k:Nat):Option Int:=
 if nm=KZ then some (Jz (b.AY.take k))
 else if nm=jr then(if k=0 then some 7 else some 15)
 else if nm=js then(if k=0 then some 7 else some 15)
 else if nm=wTr then some 14
 else if nm=Th then some 13
 else if nm=Tj then some 13
 else if nm=Ti then some 13
 else if nm=Si then some 11
 else if nm=P6 then some 12
 else if nm=E9 then some 9
 else if nm=Bd then some (b.tm.getLast?.getD 7)
 else if nm=QC then(if k=0 then some 7 else some 4)
 else if nm=qU then some 7
 else if nm=P7 then some 20
 else if nm=Dy then some (if b.head=0 then 3 else 6)
 else if k=0 then some 7 else none
end BS
section
variable{h h':Ah}{bi a:Nat}{o c t:Aa}{G G' F:Nat->Prop}{b:BS}{x:Int}{m:Nat}
def ph{nd:Int}{nm:Aq}{u:Bool}{k:Nat}:b.Hd ⟨nd,1,nm,u⟩ k=b.FE nm k:=by
 unfold BS.Hd BS.FE;simp only[BT];by_cases s:nm=KZ;.subst s;cases k<;>rfl
 by_cases q:nm=jr;.subst q;cases k<;>rfl
 by_cases p:nm=js;.subst p;cases k<;>rfl
 by_cases n:nm=wTr;.subst n;cases k<;>rfl
 by_cases l:nm=Th;.subst l;cases k<;>rfl
 by_cases j:nm=Tj;.subst j;cases k<;>rfl
 by_cases i:nm=Ti;.subst i;cases k<;>rfl
 by_cases g:nm=Si;.subst g;cases k<;>rfl
 by_cases f:nm=P6;.subst f;cases k<;>rfl
 by_cases d:nm=E9;.subst d;cases k<;>rfl
 by_cases dH:nm=Bd;.subst dH;cases k<;>rfl
 by_cases jT:nm=QC;.subst jT;cases k<;>rfl
 by_cases jU:nm=qU;.subst jU;cases k<;>rfl
 by_cases br:nm=P7;.subst br;cases k<;>rfl
 by_cases ċ:nm=Dy;.subst ċ;cases k<;>rfl
 have hf:(Jq.find? λr=>decide (r.1=nm))=none:=by
  rw[Jh];intro r hr;simp only[Jq,AS,SK,aK8] at hr;rcases hr with rfl|rfl|rfl|rfl|rfl|rfl|rfl|rfl|rfl<;>simp only[CX]<;>intro e
  .exact n e.symm
  .exact l e.symm
  .exact j e.symm
  .exact i e.symm
  .exact g e.symm
  .exact f e.symm
  .exact d e.symm
  .exact jU e.symm
  .exact br e.symm
 rw[hf];simp only[s,q,p,n,l,j,i,g,f,d,dH,jT,jU,br,ċ,Eb,or_self,Ya]
def pj{i:Item}{k:Nat}(h:¬i.A9=1):b.Hd i k=if k=0 then some 7 else none:=by unfold BS.Hd;rw[Ac h]
def aKL(w:RX h bi a o c t G b)(rm:B9 b m){k:Nat}(hk:k<=b.AY.length):BZ cx 358 [Pt bi 0,I (k:Int)] h (I (BS.Jz (b.AY.take k))) h:=by
 have ho:=rm.AY;have ld:Bg h none (Pt bi 2)=some o:=w.ld 2;rw[Af,Ä,aIc];simp only[BJ,C6 (Ab: -9223372036854775808<=(k:Int)-1) (Ab:(k:Int)-1<9223372036854775808)];refine Bj (λn:Nat=>[I 0,I ((n:Int)-1)]) (λn h1=>n<=k/\((b.AY.take k).reverse.find? λi=>BD [Bd] i||BD [E9] i)=((b.AY.take n).reverse.find? λi=>BD [Bd] i||BD [E9] i)/\h1=h) (λn=>n) k rfl ⟨Ag _,rfl,rfl⟩ ?_;rintro n h1 ⟨hn,ha,rfl⟩;cases n with
 |zero=>simp only[abS,↓reduceIte,(Ab:¬(0:Int)<=((0:Nat):Int)-1)];unfold BS.Jz;rw[ha];rfl
 |succ n=>
  have hlt:n<b.AY.length:=Ab;have i1:((n+1:Nat):Int)-1=(n:Int):=Ab;have g:=AV.BN (k:= .i64) w.o hlt;have e:AB (.BI 1) [S Bd]=some (.sl 1 ([Bd].map CH)):=D7 (ws:=[Bd]) rfl A5;have zP:AB (.BI 1) [S E9]=some (.sl 1 ([E9].map CH)):=D7 (ws:=[E9]) rfl A5;have r2:=f167 (h:=h1) b.AY[n] (Da (ws:=[Bd])) A5;have f:=f167 (h:=h1) b.AY[n] (Da (ws:=[E9])) A5;rw[Su hlt,GH] at ha;generalize b.AY[n]=i at*;simp only[abS,Nat.reduceLeDiff,↓reduceIte,Fc,i1,(Ab:(0:Int)<=(n:Int)),ld,g,e,r2.Ad,zP,f.Ad,C6 (Ab: -9223372036854775808<=(n:Int)-1) (Ab:(n:Int)-1<9223372036854775808)];rw[CQ];refine⟨λh2=>?_,λh2=>?_⟩;.simp only[h2,TF] at ha;unfold BS.Jz;rw[ha];simp only[h2,BT]
  .simp only[h2,Hi] at ha;rw[CQ];refine⟨λd=>?_,λd=>?_⟩;.rw[d] at ha;unfold BS.Jz;rw[ha];simp only[h2,Cy,Eb]
   .rw[d] at ha;exact AM.next n rfl ⟨Ab,ha,rfl⟩ Ab
def aKM(w:RX h bi a o c t G b)(rm:B9 b m)(i:Item){k:Nat}(hk:k<=b.AY.length):BZ cx 225 [Pt bi 0,.agg i.row,I (k:Int),.bool (decide (k=0))] h (.tuple [I ((b.Hd i k).getD 7),.bool (b.Hd i k).isSome]) h:=by
 have A:=rm.tm;have l6:=w.l6;have l7:=w.l7;have lt:=AV.CN w.t;obtain⟨nd,sp,nm,C⟩:=i;by_cases hs:sp=1;rotate_left
 .rw[pj (by exact hs),Af,sN,aCr];by_cases u:k=0;.simp only[abS,Item.row,hs,u,DV,Hl,dO]
  .simp only[abS,Item.row,hs,u,Ec,Option.getD_none,aQb]
 subst hs;rw[ph,Af,sN,aCr];by_cases d:nm=KZ
 .have e:b.FE nm k=some (BS.Jz (b.AY.take k)):=by unfold BS.FE;rw[Ae d]
  rw[e];simp only[BJ,Jd,Item.row,A0 d,(aKL w rm hk).Ad]
 by_cases f:nm=jr
 .have e:b.FE nm k=(if k=0 then some 7 else some 15):=by unfold BS.FE;rw[Ac d,Ae f]
  rw[e];by_cases u:k=0;.simp only[abS,Jd,Item.row,d,A0 f,u]
  .simp only[abS,Jd,Item.row,d,A0 f,u]
 by_cases g:nm=js
 .have e:b.FE nm k=(if k=0 then some 7 else some 15):=by unfold BS.FE;rw[Ac d,Ac f,Ae g]
  rw[e];by_cases u:k=0;.simp only[abS,Jd,Item.row,d,f,A0 g,u]
  .simp only[abS,Jd,Item.row,d,f,A0 g,u]
 by_cases j:nm=wTr
 .have e:b.FE nm k=some 14:=by unfold BS.FE;rw[Ac d,Ac f,Ac g,Ae j]
  rw[e];simp only[BJ,Jd,Item.row,d,f,g,A0 j]
 by_cases l:nm=Th
 .have e:b.FE nm k=some 13:=by unfold BS.FE;rw[Ac d,Ac f,Ac g,Ac j,Ae l]
  rw[e];simp only[BJ,Jd,Item.row,d,f,g,j,A0 l]
 by_cases n:nm=Tj
 .have e:b.FE nm k=some 13:=by unfold BS.FE;rw[Ac d,Ac f,Ac g,Ac j,Ac l,Ae n]
  rw[e];simp only[BJ,Jd,Item.row,d,f,g,j,l,A0 n]
 by_cases p:nm=Ti
 .have e:b.FE nm k=some 13:=by unfold BS.FE;rw[Ac d,Ac f,Ac g,Ac j,Ac l,Ac n,Ae p]
  rw[e];simp only[BJ,Jd,Item.row,d,f,g,j,l,n,A0 p]
 by_cases q:nm=Si
 .have e:b.FE nm k=some 11:=by unfold BS.FE;rw[Ac d,Ac f,Ac g,Ac j,Ac l,Ac n,Ac p,Ae q]
  rw[e];simp only[BJ,Jd,Item.row,d,f,g,j,l,n,p,A0 q]
 by_cases r:nm=P6
 .have e:b.FE nm k=some 12:=by unfold BS.FE;rw[Ac d,Ac f,Ac g,Ac j,Ac l,Ac n,Ac p,Ac q,Ae r]
  rw[e];simp only[BJ,Jd,Item.row,d,f,g,j,l,n,p,q,A0 r]
 by_cases s:nm=E9
 .have e:b.FE nm k=some 9:=by unfold BS.FE;rw[Ac d,Ac f,Ac g,Ac j,Ac l,Ac n,Ac p,Ac q,Ac r,Ae s]
  rw[e];simp only[BJ,Jd,Item.row,d,f,g,j,l,n,p,q,r,A0 s]
 by_cases dH:nm=Bd
 .have e:b.FE nm k=some (b.tm.getLast?.getD 7):=by unfold BS.FE;rw[Ac d,Ac f,Ac g,Ac j,Ac l,Ac n,Ac p,Ac q,Ac r,Ac s,Ae dH]
  rw[e];by_cases ht:b.tm=[]
  .have v:AB (.len false) [t]=some (I 0):=by rw[lt,ht];rfl
   simp only[BJ,Jd,Item.row,d,f,g,j,l,n,p,q,r,s,A0 dH,l6,v,ht,jL]
  .have hpos:=EG.2 ht;have z:=AV.BN (k:= .i64) w.t (Ab:b.tm.length-1<b.tm.length);have B:b.tm.getLast?.getD 7=b.tm[b.tm.length-1]:=by rw[KA,Ai Ab];rfl
   rw[Cp] at z;simp only[BJ,Jd,Item.row,d,f,g,j,l,n,p,q,r,s,A0 dH,l6,lt,(Ab:(0:Int)<(b.tm.length:Int)),If hpos (Ab:b.tm.length<9223372036854775807),z,B]
 by_cases jT:nm=QC
 .have e:b.FE nm k=(if k=0 then some 7 else some 4):=by unfold BS.FE;rw[Ac d,Ac f,Ac g,Ac j,Ac l,Ac n,Ac p,Ac q,Ac r,Ac s,Ac dH,Ae jT]
  rw[e];by_cases u:k=0;.simp only[abS,Jd,Item.row,d,f,g,j,l,n,p,q,r,s,dH,A0 jT,u]
  .simp only[abS,Jd,Item.row,d,f,g,j,l,n,p,q,r,s,dH,A0 jT,u]
 by_cases jU:nm=qU
 .have e:b.FE nm k=some 7:=by unfold BS.FE;rw[Ac d,Ac f,Ac g,Ac j,Ac l,Ac n,Ac p,Ac q,Ac r,Ac s,Ac dH,Ac jT,Ae jU]
  rw[e];simp only[BJ,Jd,Item.row,d,f,g,j,l,n,p,q,r,s,dH,jT,A0 jU]
 by_cases br:nm=P7
 .have e:b.FE nm k=some 20:=by unfold BS.FE;rw[Ac d,Ac f,Ac g,Ac j,Ac l,Ac n,Ac p,Ac q,Ac r,Ac s,Ac dH,Ac jT,Ac jU,Ae br]
  rw[e];simp only[BJ,Jd,Item.row,d,f,g,j,l,n,p,q,r,s,dH,jT,jU,A0 br]
 by_cases ċ:nm=Dy
 .have e:b.FE nm k=some (if b.head=0 then 3 else 6):=by unfold BS.FE;rw[Ac d,Ac f,Ac g,Ac j,Ac l,Ac n,Ac p,Ac q,Ac r,Ac s,Ac dH,Ac jT,Ac jU,Ac br,Ae ċ]
  rw[e];by_cases y:b.head=0;.simp only[BJ,Jd,Item.row,d,f,g,j,l,n,p,q,r,s,dH,jT,jU,br,A0 ċ,l7,y]
  .simp only[BJ,Jd,Item.row,d,f,g,j,l,n,p,q,r,s,dH,jT,jU,br,A0 ċ,l7,y]
 have e:b.FE nm k=if k=0 then some 7 else none:=by unfold BS.FE;rw[Ac d,Ac f,Ac g,Ac j,Ac l,Ac n,Ac p,Ac q,Ac r,Ac s,Ac dH,Ac jT,Ac jU,Ac br,Ac ċ]
 rw[e];by_cases u:k=0;.simp only[abS,Jd,Item.row,d,f,g,j,l,n,p,q,r,s,dH,jT,jU,br,ċ,u]
 .simp only[abS,Jd,Item.row,d,f,g,j,l,n,p,q,r,s,dH,jT,jU,br,ċ,u]
def Č(w:RX h bi a o c t G b)(rm:B9 b m):
  ∃h',BZ cx 96 [Pt bi 0] h (.tuple []) h'/\RX h' bi a o c t G b.IF/\DE h (Bw bi G) h' (Bw bi G):=by
 have ho:=rm.AY;have ld:Bg h none (Pt bi 2)=some o:=w.ld 2;have lo:=AV.CN w.o;have Rn:=w.l9;have hlc:=w.ò;have Jc:Ev cx 96 [Pt bi 0] h λr h'=>r= .tuple []/\RX h' bi a o c t G b.IF/\DE h (Bw bi G) h' (Bw bi G):=by
  unfold Ev;rw[aBL,t96];simp only[BJ,ld,lo,C6 (Ab: -9223372036854775808<=(b.AY.length:Int)-1) (Ab:(b.AY.length:Int)-1<9223372036854775808)];have HT:∀v,Cw h 1 (Pt bi 4) (I v)=some (Am.put h bi 4 (I v)):=λv=>w.st (k:=4) rfl rfl;refine Bj (λn:Nat=>[I ((n:Int)-1)]) (λn h1=>n<=b.AY.length/\b.LA b.AY.length=b.LA n/\h1=h) (λn=>n) b.AY.length rfl ⟨Ag _,rfl,rfl⟩ ?_;rintro n h1 ⟨hn,ha,rfl⟩;cases n with
  |zero=>
   have e:b.IF={b with mode:=7}:=by unfold BS.IF;rw[ha];rfl
   simp only[abS,↓reduceIte,(Ab:¬(0:Int)<=((0:Nat):Int)-1),HT];exact⟨_,rfl,rfl,by rw[e];exact w.iV 7,Bq⟩
  |succ n=>
   have hlt:n<b.AY.length:=Ab;have i1:((n+1:Nat):Int)-1=(n:Int):=Ab;have g:=AV.BN (k:= .i64) w.o hlt;have d:=aKM w rm (b.EC n) (k:=n) Ab;have e:b.LA (n+1)=match b.Hd (b.EC n) n with|some m=>m|none=>b.LA n:=rfl
   rw[e] at ha;have OQ:=C6 (Ab: -9223372036854775808<=(n:Int)-1) (Ab:(n:Int)-1<9223372036854775808);have i:∀(h0:n≠0\/b.LS=false),b.EC n=b.AY[n]:=λh0=>by unfold BS.EC;rw[Ac (by rintro⟨h1,h2⟩;rcases h0 with h0|h0;exact h0 h1;rw[h0] at h2;exact absurd h2 A5),AL,Ai hlt];rfl
   have j:n=0->b.LS=true->b.EC n=b.ctx:=λh0 hf=>by unfold BS.EC;rw[Ae ⟨h0,hf⟩]
   have HC:∀v,b.Hd (b.EC n) n=some v->RX (Am.put h1 bi 4 (I v)) bi a o c t G b.IF:=λv hm=>by
    rw[hm] at ha;have e:b.IF={b with mode:=v}:=by unfold BS.IF;rw[ha]
    rw[e];exact w.iV v
   have f:b.Hd (b.EC n) n=none->b.LA b.AY.length=b.LA n:=λhm=>by rw[hm] at ha;exact ha
   generalize hx:b.AY[n]=x at*;by_cases h0:n=0
   .have Yk:((n:Int)=0)=True:=A0 Ab;rw[AI h0] at d;cases hf:b.LS with
    |true=>
     rw[j h0 hf] at d HC f;rw[hf] at Rn;cases hm:b.Hd b.ctx n with
     |none=>rw[hm] at d;simp only[BJ,Nat.reduceLeDiff,↓reduceIte,Fc,i1,(Ab:(0:Int)<=(n:Int)),ld,g,Yk,Rn,hlc,d.Ad,OQ,Jd];exact AM.next n rfl ⟨Ab,f hm,rfl⟩ Ab
     |some v=>rw[hm] at d;simp only[BJ,Nat.reduceLeDiff,↓reduceIte,Fc,i1,(Ab:(0:Int)<=(n:Int)),ld,g,Yk,Rn,hlc,d.Ad,HT,Jd];exact⟨_,rfl,rfl,HC v hm,Bq⟩
    |false=>
     rw[i (.inr hf)] at d HC f;rw[hf] at Rn;cases hm:b.Hd x n with
     |none=>rw[hm] at d;simp only[BJ,Nat.reduceLeDiff,↓reduceIte,Fc,i1,(Ab:(0:Int)<=(n:Int)),ld,g,Yk,Rn,d.Ad,OQ,Jd];exact AM.next n rfl ⟨Ab,f hm,rfl⟩ Ab
     |some v=>rw[hm] at d;simp only[BJ,Nat.reduceLeDiff,↓reduceIte,Fc,i1,(Ab:(0:Int)<=(n:Int)),ld,g,Yk,Rn,d.Ad,HT,Jd];exact⟨_,rfl,rfl,HC v hm,Bq⟩
   .have Yk:¬(n:Int)=0:=by omega
    rw[AG h0] at d;rw[i (.inl h0)] at d HC f;cases hm:b.Hd x n with
    |none=>rw[hm] at d;simp only[BJ,Nat.reduceLeDiff,↓reduceIte,Fc,i1,(Ab:(0:Int)<=(n:Int)),ld,g,Yk,d.Ad,OQ,Jd];exact AM.next n rfl ⟨Ab,f hm,rfl⟩ Ab
    |some v=>rw[hm] at d;simp only[BJ,Nat.reduceLeDiff,↓reduceIte,Fc,i1,(Ab:(0:Int)<=(n:Int)),ld,g,Yk,d.Ad,HT,Jd];exact⟨_,rfl,rfl,HC v hm,Bq⟩
 obtain⟨r,h',hr,rfl,w',x'⟩:=Jc.ret;exact⟨h',hr,w',x'⟩
def aPK(w:RX h bi a o c t G b)(hc:B7 b.Bb c)(rm:B9 b m):
  ∃h' o' c' t',BZ cx 98 [Pt bi 0] h (.tuple []) h'/\RX h' bi a o' c' t' G b.Du/\B7 b.Du.Bb c'/\DE h (Bw bi G) h' (Bw bi G):=by
 have dT:AX=140737488355328:=rfl;have ho:=rm.AY;have SQ:=rm.Bb;have Y:=rm.tm;have UI:∀i∈b.AY,i.name.length<9223372036854775807:=λi hi=>by have:=rm.X8 i hi;omega
 have ld:Bg h none (Pt bi 2)=some o:=w.ld 2;have E:=aDC (h:=h) w.o Ab Bd;by_cases FW:AP (BD [Bd]) b.AY<0;.refine⟨h,o,c,t,?_,by unfold BS.Du;rw[Ae FW];exact w,by unfold BS.Du;rw[Ae FW];exact hc,.refl⟩;rw[Af,nG,t98];simp only[abS,ld,E.Ad,FW]
 obtain⟨z,D,r2,OO⟩:=f165 (h:=h) w.o Ab UI [] true;have HT:ET [] true=CO:=by funext a;rfl
 rw[HT] at OO;have w0:=w.Iq (u:=D);have M:=w0.st (k:=2) (v0:=o) rfl (AV.cells OO);have w1:=w0.IH OO;have S:=w.C7.trans (Bq (bi:=bi) (G:=G) (h:=h++D) (k:=2) (v:=z));have l1:(DR CO C0 b.AY).length<=b.AY.length:=P2;generalize put (h++D) bi 2 z=h1 at*;have VE:Bg h1 none (Pt bi 2)=some z:=w1.ld 2;obtain⟨g,t2,O,Jj⟩:=f85 (h:=h1) OO Ab (Da (ws:=[Bd])) A5;rw[<-Of] at Jj;have f:=w1.Iq (u:=t2);have L:=f.st (k:=2) (v0:=z) rfl (AV.cells Jj);have C:=f.IH Jj;have R:=(S.trans w1.C7).trans (Bq (bi:=bi) (G:=G) (h:=h1++t2) (k:=2) (v:=g));generalize put (h1++t2) bi 2 g=h2 at*;have j:=C.l3;obtain⟨fs,Hh,hcs⟩:=hc;have Hn:fs.length=b.Bb.length:=by rw[<-Hh,Al]
 obtain⟨d,N,ô⟩:=f84 (h:=h2) hcs Ab;have K:=C.st (k:=3) (v0:=c) rfl (AV.cells ô);have y:=C.Lj (u:=d) (l:=Gv b.Bb);have J:=R.trans (Bq (bi:=bi) (G:=G) (h:=h2) (k:=3) (v:=d));have Nc:B7 (Gv b.Bb) d:=⟨_,by rw[VB,Hh],ô⟩;generalize put h2 bi 3 d=h3 at*;have lt:=AV.CN w.t;have l6:=y.l6;have e:b.Du=BS.IF {b with AY:=DR C0 (BD [Bd]) (DR CO C0 b.AY),Bb:=Gv b.Bb,tm:=b.tm.dropLast}:=by unfold BS.Du;rw[Ac FW]
 have sO:(DR C0 (BD [Bd]) (DR CO C0 b.AY)).Sublist b.AY:=(Fi (p:=C0) (q:=BD [Bd]) (l:=DR CO C0 b.AY)).trans Fi;by_cases h0:b.tm=[]
 .have B:RX h3 bi a g d t G {b with AY:=DR C0 (BD [Bd]) (DR CO C0 b.AY),Bb:=Gv b.Bb,tm:=b.tm.dropLast}:=by
   have:b.tm.dropLast=b.tm:=by rw[h0];rfl
   rw[this];exact y
  obtain⟨h4,X,A,Q⟩:=Č B (rm.sub (b':={b with AY:=DR C0 (BD [Bd]) (DR CO C0 b.AY),Bb:=Gv b.Bb,tm:=b.tm.dropLast}) rfl sO (DN _ _) AK);refine⟨h4,g,d,t,?_,by rw[e];exact A,by rw[e];exact Nc,J.trans Q⟩;have H:AB (.len false) [t]=some (I 0):=by rw[lt,h0];rfl
  rw[Af,nG,t98];simp only[BJ,ld,E.Ad,FW,r2.Ad,M,VE,iW,O.Ad,L,j,N.Ad,K,l6,H,X.Ad,Jd]
 .have hpos:=EG.2 h0;obtain⟨u4,e4,s⟩:=AV.Mh w.t (k:= .i64) (n:=b.tm.length-1) Ab;rw[<-aE7] at s;obtain⟨U,e5,r⟩:=AV.Gu (b:=8) s Eg;have V:=y.st (k:=6) (v0:=t) rfl (AV.cells r);have A:=y.nY r;obtain⟨Z,W,T,P⟩:=Č A (rm.sub (b':={b with AY:=DR C0 (BD [Bd]) (DR CO C0 b.AY),Bb:=Gv b.Bb,tm:=b.tm.dropLast}) rfl sO (DN _ _) AK);refine⟨Z,g,d,U,?_,by rw[e];exact T,by rw[e];exact Nc,(J.trans Bq).trans P⟩;rw[Af,nG,t98];simp only[BJ,ld,E.Ad,FW,r2.Ad,M,VE,iW,O.Ad,L,j,N.Ad,K,l6,lt,(Ab:(0:Int)<(b.tm.length:Int)),If hpos (Ab:b.tm.length<9223372036854775807),e4,e5,V,W.Ad,Jd]
def aPL(w:RX h bi a o c t G b)(hc:B7 b.Bb c)(ok:Ez b)(rm:B9 b (m+8*(4*(b.AY.length+8)+10)))(hnm:Nm b.a)(nm:Aq):
  ∃h' o' c' G',BZ cx 95 [Pt bi 0,.str nm] h (.tuple []) h'/\RX h' bi a o' c' t G' (b.Ih nm)/\B7 (b.Ih nm).Bb c'/\DE h (Bw bi G) h' (Bw bi G'):=by
 have ho:=rm.AY;have SQ:=rm.Bb;have ld:Bg h none (Pt bi 2)=some o:=w.ld 2;have A:=oz w rm;have em:AB (.BI 1) [.str nm]=some (.sl 1 ([nm].map CH)):=D7 (ws:=[nm]) rfl AK;have r2:BZ cx 218 [.agg (Fx b.AY).row,.sl 1 ([nm].map CH)] h (.bool (BD [nm] (Fx b.AY))) h:=f167 (Fx b.AY) (Da (ws:=[nm])) AK;have J:=hc.ix (n:=0) Ab (Fx b.AY).node h;have D:b.Ky.Bb=b.Bb:=by unfold BS.Ky;split<;>rfl
 have l3:=w.l3;by_cases h1:BD [nm] (Fx b.AY)=true/\Fh (Fx b.AY).node b.Bb<0
 .obtain⟨u,N,O,hu⟩:=aDE (h:=h) w.o Ab;have E:Kf b.AY ((b.AY.length:Int)-1)=b.Ky.AY:=by
   unfold BS.Ky;split;.unfold Kf;rw[AD Ab]
   .unfold Kf;congr 1;omega
  rw[E] at hu;have w1:=w.Iq (u:=N);have f:=w1.IH hu;have e:b.Ih nm=b.Ky:=by unfold BS.Ih;rw[Ae h1]
  have R:({b with AY:=b.Ky.AY}:BS)=b.Ky:=by unfold BS.Ky;split<;>rfl
  rw[R] at f;rw[e];refine⟨_,u,c,G,?_,f,by rw[D];exact hc,w.C7.trans Bq⟩;rw[h1.1] at r2;rw[Af,ls,t95];simp only[abS,Fc,A.Ad,em,r2.Ad,l3,BO,J.Ad,h1.2,ld,O.Ad,w1.st (k:=2) (v0:=o) rfl (AV.cells hu)]
 have e:b.Ih nm=BS.Ee 8 b nm:=by unfold BS.Ih;rw[Ac h1]
 rw[e];have Jc:Ev cx 95 [Pt bi 0,.str nm] h λr h'=>r= .tuple []/\∃o' c' G',RX h' bi a o' c' t G' (BS.Ee 8 b nm)/\B7 (BS.Ee 8 b nm).Bb c'/\DE h (Bw bi G) h' (Bw bi G'):=by
  unfold Ev;rw[ls,t95];have HC:∀(Q:HB) (k:Fp->List Aa->IT),(∀x vs h1,(x= .exit 0\/x= .ret)->(∃o' c' G',RX h1 bi a o' c' t G' (BS.Ee 8 b nm)/\B7 (BS.Ee 8 b nm).Bb c'/\DE h (Bw bi G) h1 (Bw bi G'))->W cx (k x vs) Q h1)->
    W cx (.loop 3 [I 1] (λd=> .op (.int .leq) [g d 0,I 8] λz=> .AE z (.call 224 [Pt bi 0,.str nm] λy=> .op (.un .not) [y] λv20=> .AE v20 (.ret .ret [g d 0]) (.op (.int .add) [g d 0,I 1] λv=> .ret .normal [v])) (.ret (.exit 0) [g d 0])) k) Q h:=by
   intro Q k hk;refine Bj (λn:Nat=>[I ((9 -n:Nat):Int)]) (λn h1=>n<=8/\∃B p q b1,RX h1 bi a B p t q b1/\B7 b1.Bb p/\Ez b1/\Nm b1.a/\B9 b1 (m+n*(4*(b.AY.length+8)+10))/\b1.AY.length<=b.AY.length+(8 -n)/\BS.Ee 8 b nm=BS.Ee n b1 nm/\DE h (Bw bi G) h1 (Bw bi q)) (λn=>n) 8 rfl ⟨Ag _,o,c,G,b,w,hc,ok,hnm,rm,Ab,rfl,.refl⟩ ?_;rintro n h1 ⟨hn,B,p,q,b1,w1,Rm,U4,nm1,nZ,Vr,j,s⟩;cases n with
   |zero=>simp only[abS,(A5:¬((9 -0:Nat):Int)<=8)];exact hk _ _ _ (.inl rfl) ⟨B,p,q,by rw[j];exact w1,by rw[j];exact Rm,s⟩
   |succ n=>
    have hsp:(n+1)*(4*(b.AY.length+8)+10)=n*(4*(b.AY.length+8)+10)+(4*(b.AY.length+8)+10):=by rw[BM,D5]
    rw[hsp] at nZ;have zY:B9 b1 (m+n*(4*(b.AY.length+8)+10)+4*b1.AY.length+10):=nZ.le Ab;obtain⟨h2,K,L,M,l,f,IS,H⟩:=aKI w1 Rm U4 zY nm1 nm;obtain⟨Uk,Y8⟩:=Ou zY nm;have nv:=(Xp (nm:=nm) U4).1;have C:=Nm.round (nm:=nm) nm1 zY;have hlt:((9 -(n+1):Nat):Int)<=8:=Ab;have inc:AB (.int .add) [I ((9 -(n+1):Nat):Int),I 1]=some (I ((9 -n:Nat):Int)):=by have:=BQ (n:=9 -(n+1)) Ab;rwa [(Ab:9 -(n+1)+1=9 -n)] at this
    have i:BS.Ee (n+1) b1 nm=if(b1.round nm).1 then BS.Ee n (b1.round nm).2 nm else(b1.round nm).2:=rfl
    cases hr:(b1.round nm).1 with
    |true=>rw[hr] at l i;simp only[abS,hlt,l.Ad,inc];exact AM.next n rfl ⟨Ab,K,L,M,_,f,IS,nv,C,Uk,Ab,j.trans i,s.trans H⟩ Ab
    |false=>rw[hr] at l i;simp only[abS,hlt,l.Ad];exact hk _ _ _ (.inr rfl) ⟨K,L,M,by rw[j,i];exact f,by rw[j,i];exact IS,s.trans H⟩
  by_cases h2:BD [nm] (Fx b.AY)=true
  .have P:¬Fh (Fx b.AY).node b.Bb<0:=λh=>h1 ⟨h2,h⟩;rw[h2] at r2;simp only[abS,Fc,A.Ad,em,r2.Ad,l3,BO,J.Ad,P];refine HC _ _ ?_;rintro x vs h1 (rfl|rfl) ⟨o',c',G',a1,a2,a3⟩;.simp only[BJ];exact⟨_,rfl,rfl,o',c',G',a1,a2,a3⟩
   .simp only[BJ];exact⟨_,rfl,rfl,o',c',G',a1,a2,a3⟩
  .have h2:BD [nm] (Fx b.AY)=false:=by simpa using h2
   rw[h2] at r2;simp only[BJ,A.Ad,em,r2.Ad];refine HC _ _ ?_;rintro x vs h1 (rfl|rfl) ⟨o',c',G',a1,a2,a3⟩;.simp only[BJ];exact⟨_,rfl,rfl,o',c',G',a1,a2,a3⟩
   .simp only[BJ];exact⟨_,rfl,rfl,o',c',G',a1,a2,a3⟩
 obtain⟨r,h',hr,rfl,o',c',G',w',KE,x'⟩:=Jc.ret;exact⟨h',o',c',G',hr,w',KE,x'⟩
end
def au{h:Ah}{fs:List Cl}{v:Aa}(hv:Dl fs v)(hne:fs≠[])(hl:fs.length<=1000000000):KB h 3 48 .slnil v=some (h++[.cells (fs.map Cl.row).flatten],.CD h.length 0 fs.length 3):=by have hm:AX=140737488355328:=rfl;have:=Lc (h:=h) (s:= .slnil) (z:=3) (b:=48) (.inl rfl) hv (by simpa using hne) (by rw[Al];omega);rwa [Al] at this
def oL{h:Ah}{v:Aa}(hv:Dl [] v):KB h 3 48 .slnil v=some (h,.slnil):=Pk (.inl rfl) hv
section
variable{h h':Ah}{bi a:Nat}{o c t:Aa}{G G' F:Nat->Prop}{b:BS}{x:Int}{m:Nat}
def aKN(w:RX h bi a o c t G b)(rm:B9 b m)(e:Cl):BZ cx 217 [Pt bi 0,.agg e.row] h (.bool (b.settled e.c)) h:=by
 have ho:=rm.AY;have ld:Bg h none (Pt bi 2)=some o:=w.ld 2;have d:=YA (h:=h) w.o Ab e.c.node;unfold BS.settled;rw[Af,yj,aG7,Cl.row];by_cases h0:e.c.node=0;.simp only[BJ,A0 h0,ld,d.Ad,true_or,DV]
 .simp only[abS,h0,ld,d.Ad,false_or]
structure dI(h:Ah)(bi a:Nat)(t c:Aa)(G0:Nat->Prop)(b:BS)(fs:List Cl)(id m k:Nat)(h1:Ah):Prop where
 le:k<=fs.length
 low:b.Lf<=k
 ex:∃(o:Aa) (G:Nat->Prop) (b1:BS) (HY:List Cl),RX h1 bi a o c t G b1/\Ez b1/\Nm b1.a/\B9 b1 (m+4*(fs.length-k))/\h1[id]?=some (.cells (HY.map Cl.row).flatten)/\HY.length=fs.length/\HY.drop k=fs.drop k/\
  BS.DT b={(BS.Jp (b.Bb.drop k) b1).2 with Bb:=(HY.take k).map (·.c)++(BS.Jp (b.Bb.drop k) b1).1}/\¬Bw bi G id/\DE h (Bw bi G0) h1 (Bw bi G)
def dI.init(w:RX h bi a o c t G b)(ok:Ez b)(hnm:Nm b.a)(rm:B9 b (m+4*b.Bb.length)){fs:List Cl}(Hh:fs.map (·.c)=b.Bb):
  dI h bi a t c G b fs h.length m b.Lf (h++[.cells (fs.map Cl.row).flatten]):=by
 have Hn:b.Bb.length=fs.length:=by rw[<-Hh,Al]
 have hk:=Sw (b:=b);have hne:h.length≠bi:=Nat.ne_of_gt w.lt;refine⟨Ab,Ag _,o,G,b,fs,w.Iq (u:=[.cells (fs.map Cl.row).flatten]),ok,hnm,rm.le Ab,?_,rfl,rfl,?_,?_,w.C7⟩;.simp
 .unfold BS.DT;simp only;rw[Ge,Hh]
 .rintro(rfl|hg);.exact hne rfl
  .exact absurd (w.w.lt hg) (Dr _)
def dI.step{fs:List Cl}{id k:Nat}{h1:Ah}(Hh:fs.map (·.c)=b.Bb)(Kv:∀e∈b.Bb,e.name.length<=1000/\D1 e.AA)(hi:h.length<=id)(hlt:k<fs.length)(i:dI h bi a t c G b fs id m k h1):
  ∃(h2:Ah) (n:Int),Bg h1 none (Pt id (k*3+1))=some (.str fs[k].c.name)/\Bg h1 none (Pt id (k*3+2))=some fs[k].v/\BZ cx 86 [Pt bi 0,.agg [I 2,.str fs[k].c.name,ff,S [],ff,S [],ff,ff,fs[k].v,ff,S [],.int .i32 0]] h1 (I n) h2/\
   Cw h2 1 (Pt id (k*3)) (I n)=some (Am.put h2 id (k*3) (I n))/\dI h bi a t c G b fs id m (k+1) (Am.put h2 id (k*3) (I n)):=by
 obtain⟨y,z,b1,HY,w1,U4,nm1,nZ,Rm,Vr,bH,zS,M2,f⟩:=i.ex;have Rf:k<HY.length:=Ab;have Hn:b.Bb.length=fs.length:=by rw[<-Hh,Al]
 have oe:k<b.Bb.length:=Ab;have r:HY[k]=fs[k]:=by have:=Ce (λl=>l[0]?) bH;simp only[Ct,Bv] at this;rw[Ai Rf,Ai hlt] at this;exact D3 this
 have q:b.Bb[k]=fs[k].c:=by simp only[<-Hh,CY]
 have hg:(HY.map Cl.row)[k]?=some fs[k].row:=by rw[Cn,Ai Rf,r];rfl
 have ld:∀j,j<3->Bg h1 none (Pt id (k*3+j))=fs[k].row[j]?:=λj hj=>by simp only[Bg,Rm,E8];exact Li (Og HY) hj hg
 have Kv:=Kv fs[k].c (by rw[<-q];exact AN oe);have hr:Oo fs[k].c.name fs[k].v [I 2,.str fs[k].c.name,ff,S [],ff,S [],ff,ff,fs[k].v,ff,S [],.int .i32 0]:=⟨I 2,ff,S [],ff,S [],ff,ff,ff,S [],.int .i32 0,rfl⟩;obtain⟨h2,w,s,r2,u,d⟩:=ć (m:=m+4*(fs.length-(k+1))) w1 U4.ba (nZ.le Ab) nm1 hr fs[k].ok Kv.2 Kv.1;have xN:id<h1.length:=(Ak.1 Rm).1;have IS:h2[id]?=some (.cells (HY.map Cl.row).flatten):=by rw[d.old id xN M2];exact Rm
 have SO:¬Bw bi s id:=λhg=>by
  rcases d.Bw id hg with hg|hg
  .exact M2 hg
  .omega
 have p:At h2 id (k*3) (I fs[k].c.node):=⟨_,IS,by have:=Li (k:=0) (Og HY) A5 hg;rw[Bv] at this;rw[this];rfl⟩
 let g:Cl:=⟨{fs[k].c with node:=b1.a.len+1},fs[k].v,fs[k].ok⟩
 have hrow:(HY.map Cl.row).flatten.set (k*3) (I (b1.a.len+1))=((HY.set k g).map Cl.row).flatten:=by have:=NJ (Az:=HY.map Cl.row) (i:=k) (k:=0) (v:= I (b1.a.len+1)) (Og HY) (by simpa using Rf) A5;rw[Bv] at this;rw[Eo,B2,Ae (by rw[FT (Og HY),Al];omega)];rw[AJ] at this;rw[show g.row=((HY.map Cl.row)[k]'(by simpa using Rf)).set 0 (I (b1.a.len+1)) by rw[CY,r];rfl];exact this
 refine⟨h2,b1.a.len+1,ld 1 A5,ld 2 A5,r2,p.store rfl,⟨hlt,by have:=i.low;omega,w,s,_,HY.set k g,u.Dj λj hj=>Cm λe=>SO (e▸hj),Rb U4,nm1.Nb Kv.1,Mm (m:=m+4*(fs.length-(k+1))) (nZ.le Ab) Kv.2 Kv.1,?_,by rw[Br];exact Vr,?_,?_,SO,⟨by rw[Jy];exact(f.trans d).len,λj hj hn=>(Cm Ab).trans ((f.trans d).old j hj hn),(f.trans d).Bw⟩⟩⟩;.rw[Ig IS,AQ (by have:=d.len;omega),hrow]
 .rw[YG (Na k)];have:=Ce (λl=>l.drop 1) bH;simpa[Ei] using this
 .rw[zS,AF oe,q,BS.Jp];simp only
  congr 1
  rw[Ay (by rw[Br];exact Rf),aE8,BL,OJ (Ag k),AJ];rfl
def aPM(w:RX h bi a o c t G b)(hc:B7 b.Bb c)(ok:Ez b)(rm:B9 b (m+4*b.Bb.length))(hnm:Nm b.a):
  ∃h' o' c' G',BZ cx 93 [Pt bi 0] h (.tuple []) h'/\RX h' bi a o' c' t G' b.DT/\B7 b.DT.Bb c'/\DE h (Bw bi G) h' (Bw bi G'):=by
 have ho:=rm.AY;have SQ:=rm.Bb;obtain⟨fs,Hh,hcs⟩:=hc;have Hn:b.Bb.length=fs.length:=by rw[<-Hh,Al]
 have Jc:Ev cx 93 [Pt bi 0] h λr h'=>r= .tuple []/\∃o' c' G',RX h' bi a o' c' t G' b.DT/\B7 b.DT.Bb c'/\DE h (Bw bi G) h' (Bw bi G'):=by
  unfold Ev;have l3:=w.l3;have lc:=AV.CN hcs;rw[aBJ,t93];simp only[BJ,l3,lc];refine DS (i:=0) (λn:Nat=>[I (n:Int)]) (λn h1=>n<=fs.length/\AP b.settled b.Bb=AP b.settled (b.Bb.take n)/\h1=h) (λn=>n) (λn h1=>n=b.Lf/\h1=h) fs.length rfl ⟨Ag _,by rw[<-Hn,By],rfl⟩ ?_ ?_
  .rintro n h1 ⟨hn,ha,rfl⟩;cases n with
   |zero=>simp only[abS,(A5:¬(0:Int)<((0:Nat):Int))];refine .HC 0 rfl ⟨?_,rfl⟩;unfold BS.Lf;rw[ha];rfl
   |succ n=>
    have hlt:n<b.Bb.length:=Ab;have Sp:n<fs.length:=Ab;rw[GQ hlt] at ha;have i1:=If (n:=n+1) (Ab:0<n+1) (Ab:n+1<9223372036854775807);rw[Fb] at i1;have d:=AV.BN (k:= .i64) hcs Sp;have en:fs[n].c=b.Bb[n]:=by simp only[<-Hh,CY]
    have z:=aKN w rm fs[n];rw[en] at z;have dS:fs[n].row.length=3:=rfl;have q:fs[n].row.take 3=fs[n].row:=rfl;simp only[abS,↓reduceIte,(Ab:(0:Int)<((n+1:Nat):Int)),l3,i1,d,dS,q,Ag,z.Ad];cases hs:b.settled b.Bb[n] with
    |true=>rw[hs,Ae rfl] at ha;simp only[abS];exact .HC (n+1) rfl ⟨by unfold BS.Lf;rw[ha];omega,rfl⟩
    |false=>rw[hs,Ac A5] at ha;simp only[abS];exact .next n rfl ⟨Ab,ha,rfl⟩ Ab
  .rintro n h1 ⟨rfl,M⟩;rw[M];by_cases hne:fs=[]
   .subst hne;have ha:b.Bb=[]:=Hh.symm;have L:b.Lf=0:=by have:=Sw (b:=b);rw[ha] at this;exact Nat.le_zero.1 this
    have hb:b.DT=b:=by unfold BS.DT;rw[ha];simp only[Ĕ,BS.Jp,ĕ,BV];rw[<-ha]
    have g0:=oL (h:=h) hcs;have f:=w.st (k:=3) (v:= .slnil) (v0:=c) rfl rfl;have w1:RX (put h bi 3 .slnil) bi a o .slnil t G b:=w.Lj (l:=b.Bb);have d:=Pz w1.vP (vU (l:=[]) (.inr ⟨rfl,rfl⟩)) rfl;have hz:(b.Lf:Int)=((0:Nat):Int):=by rw[L]
    simp only[BJ,↓reduceIte,l3,g0];refine DS (i:=2) (λn:Nat=>[I (n:Int)]) (λn h1=>n=0/\h1=h) (λn=>n) (λn h1=>n=0/\h1=h) 0 (by rw[hz]) ⟨rfl,rfl⟩ ?_ ?_;.rintro n h1 ⟨rfl,rfl⟩;simp only[BJ,Nat.reduceLeDiff,↓reduceIte,AR,gC,show AB (.len false) [.slnil]=some (I 0) from rfl,(A5:¬((0:Nat):Int)<0)];exact .HC 0 rfl ⟨rfl,rfl⟩
    .rintro n h1 ⟨rfl,rfl⟩;simp only[BJ,↓reduceIte,f,d];refine⟨_,rfl,rfl,o,.slnil,G,?_,⟨[],by rw[hb,ha];rfl,.inr ⟨rfl,rfl⟩⟩,Bq.trans Bq⟩;rw[hb];exact w1.Lj (l:=b.Bb)
   .have i0:=dI.init (m:=m) w ok hnm rm Hh;have g1:=au (h:=h) hcs hne Ab;have B:AB (.len false) [.CD h.length 0 fs.length 3]=some (I (fs.length:Int)):=rfl;simp only[BJ,↓reduceIte,l3,g1];refine DS (i:=2) (λn:Nat=>[I (n:Int)]) (λk h1=>dI h bi a t c G b fs h.length m k h1) (λk=>fs.length-k) (λk h1=>k=fs.length/\dI h bi a t c G b fs h.length m k h1) b.Lf rfl i0 ?_ ?_
    .intro k h1 i;have En:=i.le;rcases AO k fs.length with hlt|Ef
     .obtain⟨h2,n,f,K,J,H,E⟩:=dI.step Hh rm.DD (Ag _) hlt i;have d:AB (.FC 3) [.CD h.length 0 fs.length 3,I (k:Int)]=some (Pt h.length (k*3)):=E0 hlt;have zU:fs[k].v.cells=[fs[k].v]:=AV.cells fs[k].ok;simp only[abS,Nat.reduceLeDiff,↓reduceIte,AR,B,(Ab:(k:Int)<(fs.length:Int)),d,f,K,zU,J.Ad,H,BQ (Ab:k<9223372036854775807)];exact .next (k+1) rfl E Ab
     .simp only[abS,Nat.reduceLeDiff,↓reduceIte,AR,B,(Ab:¬(k:Int)<(fs.length:Int))];exact .HC k rfl ⟨Ab,i⟩
    .rintro k h1 ⟨rfl,i⟩;obtain⟨A,s,b1,HY,w1,U4,nm1,nZ,Rm,Vr,bH,zS,M2,C⟩:=i.ex;have g:h.length≠bi:=λe=>M2 (.inl e);have f:=w1.st (k:=3) (v:= .CD h.length 0 fs.length 3) (v0:=c) rfl rfl;have y:=w1.Lj (u:= .CD h.length 0 fs.length 3) (l:=b1.Bb);have IS:(put h1 bi 3 (.CD h.length 0 fs.length 3))[h.length]?=_:=(Cm g).trans Rm;have hf:=JU (Og HY) IS;rw[Al,Vr] at hf;have d:=Pz y.vP hf (by rw[Ao g]);have D:RX ((put h1 bi 3 (.CD h.length 0 fs.length 3)).set h.length .CT) bi a A _ t s {b1 with Bb:=b1.Bb}:=y.Dj λj hj=>Ao λe=>M2 (by rw[e];exact hj);simp only[BJ,↓reduceIte,f,d];have hb:b.DT={b1 with Bb:=HY.map (·.c)}:=by rw[zS,AW Ab,AD Ab];simp only[BS.Jp,BK]
     refine⟨_,rfl,rfl,A,_,s,by rw[hb];exact D.Lj,⟨HY,by rw[hb],.mk⟩,?_⟩;have p:=C.trans (Bq (bi:=bi) (G:=s) (k:=3) (v:= .CD h.length 0 fs.length 3));refine DE.trans ⟨by rw[Br];exact p.len,λj hj hn=>?_,p.Bw⟩ Bq;rw[Ao Ab];exact p.old j hj hn
 obtain⟨r,h',hr,rfl,o',c',G',w',KE,x'⟩:=Jc.ret;exact⟨h',o',c',G',hr,w',KE,x'⟩
end
section
variable{h h':Ah}{bi a:Nat}{o c t:Aa}{G G' F:Nat->Prop}{b:BS}{x:Int}{m j:Nat}{q:jB}
variable{nm:Aq}{av:Aa}{l:List A6}{r:List Aa}{sp p:Int}
def aPN(w:RX h bi a o c t G b)(hc:B7 b.Bb c)(ok:Ez b)(sz:Sz b (j+1))(hnm:Nm b.a)(hq:zZ q)(hv:Bz q.AA av):
  ∃h' o' c' t' G',BZ cx 25 [Pt bi 0,.agg (LC q av)] h (.agg (XN b q).2.row) h'/\RX h' bi a o' c' t' G' (XN b q).1/\B7 (XN b q).1.Bb c'/\DE h (Bw bi G) h' (Bw bi G'):=by
 unfold XN LC;by_cases d:q.k=1;.rw[Ae d];dsimp only;obtain⟨r,ZI,D,hr,DG⟩:=U9 (q:=q) hv hq.AA.1 h;rw[LC] at D;obtain⟨h',o',G',r2,w',x'⟩:=ć (m:=5000000*j) w ok sz.XQ hnm hr DG hq.AA hq.name;refine⟨h',o',c,t,G',?_,w',by rw[Gx];exact hc,x'⟩;rw[Af,FI,Ui];simp only[abS,Nat.reduceLeDiff,↓reduceIte,AR,A0 d,D.Ad,r2.Ad];try rfl
 rw[Ac d];by_cases f:q.k=2;.rw[Ae f];dsimp only;obtain⟨r,ZI,D,hr,DG⟩:=U9 (q:=q) hv hq.AA.1 h;rw[LC] at D;obtain⟨h',o',G',r2,w',x'⟩:=aKz (m:=5000000*j) w ok sz.XQ hnm hr DG hq.AA hq.name q.A9;refine⟨h',o',c,t,G',?_,w',by rw[Gx];exact hc,x'⟩;rw[Af,FI,Ui];simp only[abS,Nat.reduceLeDiff,↓reduceIte,AR,d,A0 f,D.Ad,r2.Ad];try rfl
 rw[Ac f];by_cases g:q.k=3;.rw[Ae g];dsimp only;obtain⟨r,ZI,D,hr,DG⟩:=U9 (q:=q) hv hq.AA.1 h;rw[LC] at D;obtain⟨h',o',c',G',r2,w',KE,x'⟩:=aPG (m:=5000000*j) w hc ok sz.XQ hnm hr DG hq.AA hq.name;refine⟨h',o',c',t,G',?_,w',KE,x'⟩;rw[Af,FI,Ui];simp only[abS,Nat.reduceLeDiff,↓reduceIte,AR,d,f,A0 g,D.Ad,r2.Ad];try rfl
 rw[Ac g];by_cases i:q.k=4;.rw[Ae i];dsimp only;obtain⟨h',G',r2,w',x'⟩:=aKD (m:=5000000*j) w ok sz.XQ hnm q.r;refine⟨h',o,c,t,G',?_,w',hc,x'⟩;rw[Af,FI,Ui];simp only[abS,↓reduceIte,AR,d,f,g,A0 i,r2.Ad];try rfl
 rw[Ac i];by_cases y:q.k=5;.rw[Ae y];dsimp only;obtain⟨h',G',r2,w',x'⟩:=aPH (m:=5000000*j) w ok sz.XQ hnm q.s (by have:=hq.s;omega) q.a;refine⟨h',o,c,t,G',?_,w',hc,x'⟩;rw[Af,FI,Ui];simp only[abS,↓reduceIte,AR,d,f,g,i,A0 y,r2.Ad];try rfl
 rw[Ac y];by_cases z:q.k=6;.rw[Ae z];dsimp only;obtain⟨r,ZI,D,hr,DG⟩:=U9 (q:=q) hv hq.AA.1 h;rw[LC] at D;obtain⟨h',o',G',r2,w',x'⟩:=aPE (m:=5000000*j) w ok sz.XQ hnm hr DG hq.AA hq.name q.n;refine⟨h',o',c,t,G',?_,w',by show B7 (b.Fa q.name q.AA 1).Bb c;rw[Gx];exact hc,x'⟩;rw[Af,FI,Ui];simp only[abS,↓reduceIte,AR,d,f,g,i,y,A0 z,D.Ad,r2.Ad];try rfl
 rw[Ac z];by_cases A:q.k=7;.rw[Ae A];dsimp only;obtain⟨h',o',r2,w',x'⟩:=aPD w sz.rm;refine⟨h',o',c,t,G,?_,w',by have e:b.JJ.Bb=b.Bb:=(by unfold BS.JJ;split<;>rfl);rw[e];exact hc,x'⟩;rw[Af,FI,Ui];simp only[abS,↓reduceIte,AR,d,f,g,i,y,z,A0 A,r2.Ad];try rfl
 rw[Ac A];by_cases B:q.k=8;.rw[Ae B];dsimp only;obtain⟨h',o',c',G',r2,w',KE,x'⟩:=aPM (m:=5000000*j) w hc ok (sz.rm.le (by have:=sz.Bb;omega)) hnm;refine⟨h',o',c',t,G',?_,w',KE,x'⟩;rw[Af,FI,Ui];simp only[abS,↓reduceIte,AR,d,f,g,i,y,z,A,A0 B,r2.Ad];try rfl
 rw[Ac B];by_cases C:q.k=9;.rw[Ae C];dsimp only;obtain⟨h',o',r2,w',x'⟩:=aKA w sz.rm q.name;refine⟨h',o',c,t,G,?_,w',by have e:(b.Dm q.name).Bb=b.Bb:=(by unfold BS.Dm;split;split<;>rfl;rfl);rw[e];exact hc,x'⟩;rw[Af,FI,Ui];simp only[abS,↓reduceIte,AR,d,f,g,i,y,z,A,B,A0 C,r2.Ad];try rfl
 rw[Ac C];by_cases OT:q.k=10;.rw[Ae OT];dsimp only;obtain⟨h',o',c',G',r2,w',KE,x'⟩:=aPL (m:=5000000*j) w hc ok (sz.rm.le (by have:=sz.AY;omega)) hnm q.name;refine⟨h',o',c',t,G',?_,w',KE,x'⟩;rw[Af,FI,Ui];simp only[abS,↓reduceIte,AR,d,f,g,i,y,z,A,B,C,A0 OT,r2.Ad];try rfl
 rw[Ac OT];by_cases PE:q.k=11;.rw[Ae PE];dsimp only;obtain⟨h',r2,w',x'⟩:=Č w sz.rm;refine⟨h',o,c,t,G,?_,w',hc,x'⟩;rw[Af,FI,Ui];simp only[abS,↓reduceIte,AR,d,f,g,i,y,z,A,B,C,OT,A0 PE,r2.Ad];try rfl
 rw[Ac PE];by_cases Qi:q.k=12;.rw[Ae Qi];dsimp only;obtain⟨r,ZI,D,hr,DG⟩:=U9 (q:=q) hv hq.AA.1 h;rw[LC] at D;obtain⟨h',G',r2,w',x'⟩:=aPC (m:=5000000*j) w ok sz.XQ hr DG hq.AA q.a;refine⟨h',o,c,t,G',?_,w',by have e:(b.Hw q.AA q.a).Bb=b.Bb:=(by unfold BS.Hw;split<;>rfl);rw[e];exact hc,x'⟩;rw[Af,FI,Ui];simp only[abS,↓reduceIte,AR,d,f,g,i,y,z,A,B,C,OT,PE,A0 Qi,D.Ad,r2.Ad];try rfl
 rw[Ac Qi];by_cases Rg:q.k=13;.rw[Ae Rg];dsimp only;obtain⟨h',o',c',t',r2,w',KE,x'⟩:=aPK w hc sz.rm;refine⟨h',o',c',t',G,?_,w',KE,x'⟩;rw[Af,FI,Ui];simp only[abS,↓reduceIte,AR,d,f,g,i,y,z,A,B,C,OT,PE,Qi,A0 Rg,r2.Ad];try rfl
 rw[Ac Rg];by_cases SB:q.k=14;.rw[Ae SB];dsimp only;obtain⟨h',r2,w',x'⟩:=aPB w;refine⟨h',o,c,t,G,?_,w',hc,x'⟩;rw[Af,FI,Ui];simp only[abS,↓reduceIte,AR,d,f,g,i,y,z,A,B,C,OT,PE,Qi,Rg,A0 SB,r2.Ad];try rfl
 rw[Ac SB];by_cases Tw:q.k=15;.rw[Ae Tw];dsimp only;have w':RX (put h bi 15 (.bool q.b)) bi a o c t G {b with EW:=q.b}:=w.put rfl rfl w.o w.t;refine⟨put h bi 15 (.bool q.b),o,c,t,G,?_,w',hc,Bq⟩;rw[Af,FI,Ui];simp only[abS,↓reduceIte,AR,d,f,g,i,y,z,A,B,C,OT,PE,Qi,Rg,SB,A0 Tw,w.st (k:=15) (v:= .bool q.b) rfl rfl];try rfl
 rw[Ac Tw];by_cases Va:q.k=16;.rw[Ae Va];dsimp only;have K:=sz.rm.tm;have dT:AX=140737488355328:=rfl;obtain⟨u,M,hu⟩:=AV.Gu (b:=8) w.t Ab;have L:=AV.Ke (b:=8) (a:=q.n) hu Ab;have em:AB (.BI 1) [I q.n]=some (.sl 1 [Cp q.n]):=rfl;have Jj:D2 (b.tm++[q.n]) (.sl 1 ((b.tm++[q.n]).map Cp)):= .mk;have w':=w.nY Jj;refine⟨put h bi 6 (.sl 1 ((b.tm++[q.n]).map Cp)),o,c,_,G,?_,w',hc,Bq⟩;rw[Af,FI,Ui];simp only[abS,↓reduceIte,AR,d,f,g,i,y,z,A,B,C,OT,PE,Qi,Rg,SB,Tw,A0 Va,w.l6,M,em,L,w.st (k:=6) (v0:=t) rfl (AV.cells Jj)];try rfl
 rw[Ac Va];by_cases XR:q.k=17
 .rw[Ae XR];dsimp only;have SQ:=sz.rm.Bb;obtain⟨u,r2,KE,H⟩:=hc.wi Ab (e:=Cu.zero) (v:= .slnil) (.inr ⟨rfl,rfl⟩) A5 (b.Bb.length:Int) h;rw[Uq (Ag _),By,Ep] at KE;have w':=w.Lj (u:=u) (l:=b.Bb++[Cu.zero]);have lc:AB (.len false) [c]=some (I (b.Bb.length:Int)):=by obtain⟨fs,Hh,Wb⟩:=hc;rw[AV.CN Wb,<-Hh,Al]
  have E:BZ cx 100 [c,.agg [I 0,S [],.slnil],I (b.Bb.length:Int)] h u h:=r2;refine⟨put h bi 3 u,o,u,t,G,?_,w',KE,Bq⟩;rw[Af,FI,Ui];simp only[abS,↓reduceIte,AR,d,f,g,i,y,z,A,B,C,OT,PE,Qi,Rg,SB,Tw,Va,A0 XR,w.l3,lc,E.Ad,w.st (k:=3) (v0:=c) rfl H];try rfl
 rw[Ac XR];by_cases YE:q.k=18;.rw[Ae YE];dsimp only;obtain⟨h',o',r2,w',x'⟩:=aPF w sz.rm;refine⟨h',o',c,t,G,?_,w',by have e:b.Ky.Bb=b.Bb:=(by unfold BS.Ky;split<;>rfl);rw[e];exact hc,x'⟩;rw[Af,FI,Ui];simp only[abS,↓reduceIte,AR,Fc,d,f,g,i,y,z,A,B,C,OT,PE,Qi,Rg,SB,Tw,Va,XR,A0 YE,r2.Ad];try rfl
 rw[Ac YE];by_cases dD:q.k=19;.rw[Ae dD];dsimp only;have w':RX (put h bi 7 (I q.a)) bi a o c t G {b with head:=q.a}:=w.put rfl rfl w.o w.t;refine⟨put h bi 7 (I q.a),o,c,t,G,?_,w',hc,Bq⟩;rw[Af,FI,Ui];simp only[abS,↓reduceIte,AR,d,f,g,i,y,z,A,B,C,OT,PE,Qi,Rg,SB,Tw,Va,XR,YE,A0 dD,w.st (k:=7) (v:= I q.a) rfl rfl];try rfl
 rw[Ac dD];by_cases jD:q.k=20;.rw[Ae jD];dsimp only;have w':=w.iV q.n;refine⟨put h bi 4 (I q.n),o,c,t,G,?_,w',hc,Bq⟩;rw[Af,FI,Ui];simp only[abS,↓reduceIte,AR,d,f,g,i,y,z,A,B,C,OT,PE,Qi,Rg,SB,Tw,Va,XR,YE,dD,A0 jD,w.st (k:=4) (v:= I q.n) rfl rfl];try rfl
 rw[Ac jD];by_cases oG:q.k=21;.rw[Ae oG];dsimp only;have SQ:=sz.rm.Bb;obtain⟨fs,Hh,Wb⟩:=hc;obtain⟨u,r2,hu⟩:=f84 (h:=h) Wb (by rw[<-Hh,Al] at SQ;omega);have w':=w.Lj (u:=u) (l:=Gv b.Bb);have KE:B7 (Gv b.Bb) u:=⟨_,by rw[VB,Hh],hu⟩;refine⟨put h bi 3 u,o,u,t,G,?_,w',KE,Bq⟩;rw[Af,FI,Ui];simp only[abS,↓reduceIte,AR,d,f,g,i,y,z,A,B,C,OT,PE,Qi,Rg,SB,Tw,Va,XR,YE,dD,jD,A0 oG,w.l3,r2.Ad,w.st (k:=3) (v0:=c) rfl (AV.cells hu)];try rfl
 rw[Ac oG];by_cases ae:q.k=22;.rw[Ae ae];dsimp only;have ho:=sz.rm.AY;have ld:Bg h none (Pt bi 2)=some o:=w.ld 2;have em:AB (.BI 1) [.str q.name]=some (.sl 1 ([q.name].map CH)):=D7 (ws:=[q.name]) rfl AK;obtain⟨u,J,r2,hu⟩:=f85 (h:=h) w.o Ab (Da (ws:=[q.name])) AK;rw[<-Of] at hu;have w1:=w.Iq (u:=J);have w':=w1.IH hu;refine⟨put (h++J) bi 2 u,u,c,t,G,?_,w',hc,w.C7.trans Bq⟩;rw[Af,FI,Ui];simp only[abS,↓reduceIte,AR,d,f,g,i,y,z,A,B,C,OT,PE,Qi,Rg,SB,Tw,Va,XR,YE,dD,jD,oG,A0 ae,ld,em,r2.Ad,w1.st (k:=2) (v0:=o) rfl (AV.cells hu)];try rfl
 rw[Ac ae];by_cases oh:q.k=23;.rw[Ae oh];dsimp only;have w':RX (put h bi 8 (I q.a)) bi a o c t G {b with NF:=q.a}:=w.put rfl rfl w.o w.t;refine⟨put h bi 8 (I q.a),o,c,t,G,?_,w',hc,Bq⟩;rw[Af,FI,Ui];simp only[abS,↓reduceIte,AR,d,f,g,i,y,z,A,B,C,OT,PE,Qi,Rg,SB,Tw,Va,XR,YE,dD,jD,oG,ae,A0 oh,w.st (k:=8) (v:= I q.a) rfl rfl];try rfl
 rw[Ac oh];by_cases ā:q.k=24;.rw[Ae ā];dsimp only;obtain⟨r,ZI,D,hr,DG⟩:=U9 (q:=q) hv hq.AA.1 h;rw[LC] at D;obtain⟨h',G',r2,w',x'⟩:=Ć (m:=5000000*j) w ok sz.XQ hnm hr DG hq.AA hq.name q.a q.A9;refine⟨h',o,c,t,G',?_,w',by have e:(b.EB q.name q.AA q.A9 q.a).Bb=b.Bb:=(by unfold BS.EB;split<;>rfl);rw[e];exact hc,x'⟩;rw[Af,FI,Ui];simp only[abS,↓reduceIte,AR,Fc,d,f,g,i,y,z,A,B,C,OT,PE,Qi,Rg,SB,Tw,Va,XR,YE,dD,jD,oG,ae,oh,A0 ā,D.Ad,r2.Ad];try rfl
 rw[Ac ā];refine⟨h,o,c,t,G,?_,w,hc,.refl⟩;rw[Af,FI,Ui];simp only[abS,↓reduceIte,AR,d,f,g,i,y,z,A,B,C,OT,PE,Qi,Rg,SB,Tw,Va,XR,YE,dD,jD,oG,ae,oh,ā];try rfl
end
section
variable{h h':Ah}{bi a:Nat}{o c t:Aa}{G G' F:Nat->Prop}{b:BS}{x:Int}{m j:Nat}{q:jB}
variable{nm:Aq}{av:Aa}{l:List A6}{r:List Aa}{sp p:Int}
def oM(h:Ah):Vp h []=some (h++[.CT,.cells RN.z.row,.cells [I 0],.cells [.CD (h.length+1) 0 1 13,.CD (h.length+2) 0 1 1]],.ptr (some (h.length+3,0))):=by unfold Vp;simp only[AJ,CK,BV];rfl
def aPO(h:Ah):BZ cx 61 [] h (.ptr (some (h.length+3,0))) (h++[.CT,.cells RN.z.row,.cells [I 0],.cells [.CD (h.length+1) 0 1 13,.CD (h.length+2) 0 1 1]]):=by have d:E5 (.QL Vp) h []=some (h++[.CT,.cells RN.z.row,.cells [I 0],.cells [.CD (h.length+1) 0 1 13,.CD (h.length+2) 0 1 1]],.ptr (some (h.length+3,0))):=oM h;rw[Af,show Cd cx 61 []=Vq [] from rfl,Vq];simp only[BJ,d]
def č(h:Ah):RA (h++[.CT,.cells RN.z.row,.cells [I 0],.cells [.CD (h.length+1) 0 1 13,.CD (h.length+2) 0 1 1]]) (h.length+3) (h.length+1) (h.length+2) [] ⟨[],[]⟩:=by
 refine⟨rfl,rfl,?_,?_,?_,Ab,Ab,Ab⟩;.rw[Bm Ab,(Ab:h.length+3 -h.length=3)];rfl
 .rw[Bm Ab,(Ab:h.length+1 -h.length=1)];rfl
 .rw[Bm Ab,(Ab:h.length+2 -h.length=2)];rfl
def aKO(h:Ah)(q:Bool):∃h1 h2 h' a bi G,BZ cx 61 [] h (Pt a 0) h1/\BZ cx 62 [Pt a 0,.bool q] h1 (I 1) h2/\BZ cx 64 [Pt a 0,I 1] h2 (Pt bi 0) h'/\RX h' bi a .slnil .slnil .slnil G (Dt q)/\DE h (λ_=>False) h' (Bw bi G):=by
 obtain⟨h2,f,g,nQ,r2,d,e⟩:=aKq (č h) (by show(0:Int)<=1000000000;decide) q;have d:RA h2 (h.length+3) f g nQ (bq q):=d;have hx:(bq q).has 1:=⟨Gy 1,Gy 1⟩;have hk:((bq q).nd 1).kind=1:=by rw[show(bq q).nd 1=(Dt q).a.nd 1 from rfl,Ow,Ae rfl]
 have i:=wB d hx hk;have En:h.length+4<=h2.length:=by have:=e.len;simpa using this
 refine⟨_,h2,h2++[.cells (Je (h.length+3) (Dt q) .slnil .slnil .slnil)],h.length+3,h2.length,Ju (h.length+3) f g,aPO h,r2,?_,⟨AK,.inr ⟨rfl,rfl⟩,.inr ⟨rfl,rfl⟩,⟨f,g,nQ,d.Dj λj hj=>Aj (d.lt hj),rfl⟩,λhj=>absurd (d.lt hj) (Dr _)⟩,⟨?_,λj hj _=>?_,λj hj=> .inr ?_⟩⟩;.rw[Af,aBD,t64];simp only[abS,Nat.reduceLeDiff,↓reduceIte,AR,i.Ad,Ca];rfl
 .simp;omega
 .rw[Aj Ab,e.old j Eg (by unfold Ju;omega),Aj hj]
 .rcases hj with rfl|hj
  .omega
  .rcases e.Bw j hj with hj|hj
   .unfold Ju at hj;omega
   .simp at hj;omega
def RX.om(w:RX h bi a o c t G b)(i:Item):∃h',Cw h 4 (Pt bi 10) (.agg i.row)=some h'/\RX h' bi a o c t G {b with ctx:=i}/\DE h (Bw bi G) h' (Bw bi G):=by refine⟨h.set bi (.cells (Je a {b with ctx:=i} o c t)),?_,⟨AQ w.lt,w.o,w.t,w.w.Dj λj hj=>Ao λe=>w.nb (by rw[e];exact hj),w.nb⟩,⟨by rw[Br];exact Ag _,λj _ hn=>Ao λe=>hn (.inl e.symm),λ_ h=> .inl h⟩⟩;simp only[Cw,w.hb];rfl
def aPP(h:Ah)(sp:Int)(nm:Aq)(hv:Bz l av)(hl:D1 l)(hn:nm.length<=1000)(q f q':Bool):∃h1 h2 h' a bi o t G,BZ cx 61 [] h (Pt a 0) h1/\BZ cx 62 [Pt a 0,.bool q] h1 (I 1) h2/\BZ cx 63 [Pt a 0,I 1,.agg [I sp,.str nm,av,.bool q',.bool f]] h2 (Pt bi 0) h'/\RX h' bi a o .slnil t G (Tx sp nm l q f)/\DE h (λ_=>False) h' (Bw bi G):=by
 obtain⟨h1,h2,h3,a,bi,G,r1,r2,C,w,x⟩:=aKO h q;have ok0:=Ov q;have OR:(Dt q).a.has 1:=⟨Gy 1,Gy 1⟩;have Yb:((Dt q).a.nd 1).kind=1:=by rw[Ow,Ae rfl]
 have N:(Dt q).ID 1=1:=by unfold BS.ID;rw[Ow,Ae rfl];rfl
 have ķ:(Dt q).EB Dy [] 1 1={Dt q with a:=(Dt q).a.elem 1 1 Dy []}:=by unfold BS.EB;rw[Ae JQ,N];rfl
 have E:(Dt q).Gw Dy [] 1=⟨2,1,Dy,false⟩:=by unfold BS.Gw;rw[Ae JQ];rfl
 obtain⟨h4,G4,B,X,x4⟩:=w.step (A':=(Dt q).a.elem 1 1 Dy []) (R:=λh'=>BZ cx 165 [Pt a 0,I 1,I 1,.str Dy,.slnil] h3 (.tuple [I ((Dt q).a.len+1),I 0]) h') (λn i ps wa=>š (l:=[]) wa (by show(1:Int)+3<=1000000000;decide) OR Yb JQ (.inr ⟨rfl,rfl⟩) A5 (λy hy=>(nomatch hy)));rw[<-ķ] at X;obtain⟨bn,f4,le4⟩:=Px (nm:=Dy) (at_:=[]) (p:=1) (Ov q) JQ;have M:=I1 (m:=1000) (nm:=Dy) (l:=[]) (sp:=1) (p:=1) ((Ox q).rm.le Ab) ⟨A5,λa ha=>(nomatch ha)⟩;obtain⟨J,d,u,W,x5⟩:=wE X bn.ba M 1 ((Dt q).Gw Dy [] 1).node 0;have ho:((Dt q).EB Dy [] 1 1).AY=[]:=by rw[ķ];rfl
 have D:B4 (((Dt q).EB Dy [] 1 1).AY++[(Dt q).Gw Dy [] 1]) (.sl 4 [((Dt q).Gw Dy [] 1).row]):=by rw[ho];exact .mk
 have g:=W.st (k:=2) (v:= .sl 4 [((Dt q).Gw Dy [] 1).row]) (v0:= .slnil) rfl rfl;have L:=W.IH D;have e:Cw (put J bi 2 (.sl 4 [((Dt q).Gw Dy [] 1).row])) 1 (Pt bi 9) tt=some (put (put J bi 2 (.sl 4 [((Dt q).Gw Dy [] 1).row])) bi 9 tt):=L.st (k:=9) (v:=tt) (v0:= .bool ((Dt q).EB Dy [] 1 1).LS) rfl rfl;have V:RX (put (put J bi 2 (.sl 4 [((Dt q).Gw Dy [] 1).row])) bi 9 tt) bi a _ .slnil .slnil d _:=L.put (k:=9) (v:=tt) (b':={{{(Dt q).EB Dy [] 1 1 with a:=((Dt q).EB Dy [] 1 1).a.Ey ((Dt q).Gw Dy [] 1).node 1 0} with AY:=((Dt q).EB Dy [] 1 1).AY++[(Dt q).Gw Dy [] 1]} with LS:=true}) rfl rfl D L.t;have T:DE h (λ_=>False) (put (put J bi 2 (.sl 4 [((Dt q).Gw Dy [] 1).row])) bi 9 tt) (Bw bi d):=((((x.trans x4).trans x5).trans Bq).trans Bq);have XI:((Dt q).Gw Dy [] 1).node=(Dt q).a.len+1:=by rw[E];rfl
 rw[XI] at u;have aKP:((Dt q).Gw Dy [] 1).row=[I ((Dt q).a.len+1),I 1,S Dy,ff]:=by rw[E];rfl
 rw[aKP] at g e V T;generalize put J bi 2 (.sl 4 [[I ((Dt q).a.len+1),I 1,S Dy,ff]])=h6 at*;generalize put h6 bi 9 tt=Z at*;have A:=aIH (h:=Z) hv (λa ha=>by have:=(hl.2 a ha).2;have:AX=140737488355328:=rfl;omega) (by have:=hl.1;omega) sp nm Ab;obtain⟨z,s8,U,x8⟩:=V.om ⟨0,sp,nm,Fm sp nm l⟩;have Ř:RX z bi a _ .slnil .slnil d (I9 sp nm l q):=U;have ŕ:=T.trans x8;clear U;have oq:Cw Z 4 (Pt bi 10) (.agg [I 0,I sp,.str nm,.bool (Fm sp nm l)])=some z:=s8;have aD9:(I9 sp nm l q).ctx=⟨0,sp,nm,Fm sp nm l⟩:=rfl;obtain⟨aPo,ă⟩:=XS sp nm l q;have key:∃H t9,RX H bi a (.sl 4 [[I ((Dt q).a.len+1),I 1,S Dy,ff]]) .slnil t9 d (LH sp nm l q)/\DE z (Bw bi d) H (Bw bi d)/\((sp=1/\nm=Bd)->Cw z 1 (Pt bi 6) (.sl 1 [[I 18]])=some H)/\(¬(sp=1/\nm=Bd)->H=z):=by
  by_cases K:sp=1/\nm=Bd;.have hu:D2 [18] (.sl 1 [[I 18]]):= .mk;refine⟨put z bi 6 (.sl 1 [[I 18]]),.sl 1 [[I 18]],?_,Bq,λ_=>Ř.st (k:=6) (v0:= .slnil) rfl rfl,λh=>absurd K h⟩;unfold LH;rw[Ae (by rw[Qb,aD9];exact AI K)];exact Ř.nY hu
  .refine⟨z,.slnil,?_,.refl,λh=>absurd h K,λ_=>rfl⟩;unfold LH;rw[Ac (by rw[Qb,aD9];exact λh=>K (J0 h))];exact Ř
 obtain⟨H,t9,w9,x9,k1,Y⟩:=key;obtain⟨UZ,vX,Tv,oD⟩:=Č w9 ă.rm;have em:AB (.BI 1) [I 18]=some (.sl 1 [[I 18]]):=rfl;have Ċ:AB (.BI 4) [.agg [I ((Dt q).a.len+1),I 1,S Dy,ff]]=some (.sl 4 [[I ((Dt q).a.len+1),I 1,S Dy,ff]]):=rfl;have Q:DE h (λ_=>False) UZ (Bw bi d):=(ŕ.trans x9).trans oD;have s:=Tv.st (k:=8) (v:=I (-1)) rfl rfl;have hw:Dy=aWh:=rfl;have HC:∃h',RX h' bi a (.sl 4 [[I ((Dt q).a.len+1),I 1,S Dy,ff]]) .slnil t9 d (Tx sp nm l q f)/\DE h (λ_=>False) h' (Bw bi d)/\(f=true->h'=put UZ bi 8 (I (-1)))/\(f=false->h'=UZ):=by
  cases f with
  |true=>exact⟨_,by unfold Tx;rw[Ae rfl];exact Tv.put (k:=8) rfl rfl Tv.o Tv.t,Q.trans Bq,λ_=>rfl,λh=>absurd h A5⟩
  |false=>exact⟨UZ,Tv,Q,λh=>absurd h A5,λ_=>rfl⟩
 obtain⟨h',w',x',P,O⟩:=HC;refine⟨h1,h2,h',a,bi,_,t9,d,r1,r2,?_,w',x'⟩;rw[Af,aBC,t63];by_cases hsp:sp=1
 .by_cases ĩ:nm=Bd
  .have ř:=k1 ⟨hsp,ĩ⟩;cases f with
   |true=>rw[P rfl];simp only[abS,Nat.reduceLeDiff,↓reduceIte,AR,Jd,C.Ad,B.Ad,u.Ad,Ċ,g,e,A.Ad,oq,A0 hsp,A0 ĩ,em,ř,vX.Ad,s]
   |false=>rw[O rfl];simp only[abS,Nat.reduceLeDiff,↓reduceIte,AR,Jd,C.Ad,B.Ad,u.Ad,Ċ,g,e,A.Ad,oq,A0 hsp,A0 ĩ,em,ř,vX.Ad]
  .have Ś:=Y λh=>ĩ h.2;subst Ś;cases f with
   |true=>rw[P rfl];simp only[abS,Nat.reduceLeDiff,↓reduceIte,AR,Jd,C.Ad,B.Ad,u.Ad,Ċ,g,e,A.Ad,oq,A0 hsp,ĩ,vX.Ad,s]
   |false=>rw[O rfl];simp only[abS,Nat.reduceLeDiff,↓reduceIte,AR,Jd,C.Ad,B.Ad,u.Ad,Ċ,g,e,A.Ad,oq,A0 hsp,ĩ,vX.Ad]
 .have Ś:=Y λh=>hsp h.1;subst Ś;cases f with
  |true=>rw[P rfl];simp only[abS,Nat.reduceLeDiff,↓reduceIte,AR,Jd,C.Ad,B.Ad,u.Ad,Ċ,g,e,A.Ad,oq,hsp,vX.Ad,s]
  |false=>rw[O rfl];simp only[abS,Nat.reduceLeDiff,↓reduceIte,AR,Jd,C.Ad,B.Ad,u.Ad,Ċ,g,e,A.Ad,oq,hsp,vX.Ad]
def aPQ(h:Ah)(s:EY)(hv:Bz s.AA av)(hl:D1 s.AA)(hn:s.name.length<=1000):∃h' bi a o c t G,BZ cx 23 [.agg (Mq s av)] h (Pt bi 0) h'/\RX h' bi a o c t G s.b/\B7 s.b.Bb c/\DE h (λ_=>False) h' (Bw bi G):=by
 have lN:(I9 s.A9 s.name s.AA s.CI).Bb=[]:=by unfold I9;simp only;unfold BS.EB;rw[Ae JQ];rfl
 have X2:av.cells=[av]:=AV.cells hv;cases hf:s.LS with
 |true=>
  obtain⟨h1,h2,h',a,bi,o,t,G,f,r2,d,w,x⟩:=aPP h s.A9 s.name hv hl hn s.CI s.NF s.CI;refine⟨h',bi,a,o,.slnil,t,G,?_,by unfold EY.b;rw[Ae hf];exact w,?_,x⟩;.rw[Af,ka,t23,Mq,hf];simp only[BJ,f.Ad,r2.Ad,d.Ad]
  .have e:s.b.Bb=[]:=by unfold EY.b Tx LH;rw[Ae hf];split<;>split<;>exact lN
   rw[e];exact⟨[],rfl,.inr ⟨rfl,rfl⟩⟩
 |false=>
  obtain⟨h1,h2,h',a,bi,G,f,r2,d,w,x⟩:=aKO h s.CI;have e:s.b=Dt s.CI:=by unfold EY.b;rw[Ac (by rw[hf];decide)]
  refine⟨h',bi,a,.slnil,.slnil,.slnil,G,?_,by rw[e];exact w,by rw[e];exact⟨[],rfl,.inr ⟨rfl,rfl⟩⟩,x⟩;rw[Af,ka,t23,Mq,hf];simp only[BJ,f.Ad,r2.Ad,d.Ad]
end
section
variable{h h':Ah}{bi a lo:Nat}{o c t:Aa}{G G' F:Nat->Prop}{b:BS}{x:Int}{m:Nat}
def aPR(w:RX h bi a o c t G b)(hc:B7 b.Bb c)(rm:B9 b m):∃t' o' c' u,BZ cx 49 [Pt bi 0] h (.agg (Uo b.VN t' o' c')) (h++u)/\SC (h++u) h.length b.VN t' o' c':=by
 have dT:AX=140737488355328:=rfl;have ho:=rm.AY;have SQ:=rm.Bb;have L:=rm.tm;obtain⟨t',e0,Gg⟩:=AV.Gu (b:=8) w.t Ab;have E:t'.cells=[t']:=AV.cells Gg;obtain⟨fs,Hh,hv⟩:=hc;have Hn:b.Bb.length=fs.length:=by rw[<-Hh,Al]
 have Jc:Ev cx 49 [Pt bi 0] h λr h'=>∃t' o' c' u,r= .agg (Uo b.VN t' o' c')/\h'=h++u/\SC (h++u) h.length b.VN t' o' c':=by
  unfold Ev;rw[aBw,t49];simp only[abS,Nat.reduceLeDiff,↓reduceIte,AR,w.ld,Je,e0,E];refine DS (i:=0) (λz:Aa×Nat=>[.agg [I b.mode,I b.Jn,t',z.1,.slnil,I b.head,I b.NF,.bool b.fs,.bool b.EW,.str b.gY,.bool b.skip,I b.sw,.bool b.stop],I (z.2:Int)]) (λz h1=>z.2<=b.AY.length/\∃u,h1=h++u/\MU (h++u) h.length z.1 ((b.AY.take z.2).map Item.node)) (λz=>b.AY.length-z.2) (λz h1=>∃u,h1=h++u/\MU (h++u) h.length z.1 (b.AY.map Item.node)) (.slnil,0) rfl ⟨AU _,[],AK,.inl ⟨rfl,AK⟩⟩ ?_ ?_
  .rintro⟨V,n⟩ h1 ⟨hn,u,rfl,d⟩;simp only at hn d;have w1:=w.Iq (u:=u);have VE:Bg (h++u) none (Pt bi 2)=some o:=w1.ld 2;have p:=AV.CN w.o;have y:=d.cells;rcases AO n b.AY.length with hlt|Ef
   .have B:=AV.BN (k:= .i64) w.o hlt;rw[Item.row] at B;obtain⟨D,H,g1,e⟩:=ś d (by rw[Al,As];omega) b.AY[n].node;have f:=e.cells;have em:AB (.BI 1) [I b.AY[n].node]=some (.sl 1 [[I b.AY[n].node]]):=rfl;simp only[abS,↓reduceIte,VE,p,(Ab:(n:Int)<(b.AY.length:Int)),B,em,g1,f,BQ (Ab:n<9223372036854775807)];exact .next (H,n+1) rfl ⟨hlt,D,rfl,by rw[Ay hlt,BL];exact e⟩ Dp
   .rw[AD Ef] at d;simp only[abS,↓reduceIte,VE,p,(Ab:¬(n:Int)<(b.AY.length:Int))];exact .HC (V,n) rfl ⟨u,rfl,d⟩
  .rintro⟨O,N⟩ h1 ⟨u,rfl,C⟩;simp only at C;have M:=C.cells;simp only[BJ,↓reduceIte];have J:=w.Iq (u:=u);have s:h.length<=(h++u).length:=AK;obtain⟨l,j⟩:∃l,l=h++u:=⟨_,rfl⟩;rw[<-j] at C J s⊢;refine DS (i:=2) (λz:Aa×Nat=>[.agg [I b.mode,I b.Jn,t',O,z.1,I b.head,I b.NF,.bool b.fs,.bool b.EW,.str b.gY,.bool b.skip,I b.sw,.bool b.stop],I (z.2:Int)]) (λz h1=>z.2<=fs.length/\∃g,h1=l++g/\Mr (l++g) l.length z.1 ((b.Bb.take z.2))) (λz=>fs.length-z.2) (λz h1=>∃g,h1=l++g/\Mr (l++g) l.length z.1 b.Bb) (.slnil,0) rfl ⟨AU _,[],AK,.inl ⟨rfl,AK⟩⟩ ?_ ?_
   .rintro⟨V,n⟩ h1 ⟨hn,g,rfl,d⟩;simp only at hn d;have w1:=J.Iq (u:=g);have q:=w1.l3;have lc:=AV.CN hv;have y:=d.cells;rcases AO n fs.length with hlt|Ef
    .have B:=AV.BN (k:= .i64) hv hlt;rw[Cl.row] at B;have A:fs[n].c=b.Bb[n]:=by simp only[<-Hh,CY]
     have Vi:=(rm.DD fs[n].c (by rw[A];exact AN _)).2.1;obtain⟨av,ea,X2⟩:=AV.Gu (b:=40) fs[n].ok Ab;have K:fs[n].v.cells=[fs[n].v]:=AV.cells fs[n].ok;have aEa:av.cells=[av]:=AV.cells X2;obtain⟨D,H,g1,e⟩:=aJ8 d (by rw[As];omega) ⟨fs[n].c,av,X2⟩;rw[Cl.row] at g1;simp only at g1 e;have f:=e.cells;have em:AB (.BI 3) [.agg [I fs[n].c.node,.str fs[n].c.name,av]]=some (.sl 3 [[I fs[n].c.node,.str fs[n].c.name,av]]):=L0 rfl;simp only[abS,Nat.reduceLeDiff,↓reduceIte,AR,q,lc,(Ab:(n:Int)<(fs.length:Int)),B,ea,aEa,em];simp only[BJ,↓reduceIte,g1,f,BQ (Ab:n<9223372036854775807)];exact .next (H,n+1) rfl ⟨hlt,D,rfl,by rw[Ay Ab,<-A];exact e⟩ Dp
    .rw[AD Ab] at d;simp only[abS,Nat.reduceLeDiff,↓reduceIte,AR,q,lc,(Ab:¬(n:Int)<(fs.length:Int)),aaS];exact .HC (V,n) rfl ⟨g,rfl,d⟩
   .rintro⟨V,n⟩ h1 ⟨g,rfl,d⟩;simp only at d;have y:=d.cells;simp only[BJ,↓reduceIte];refine⟨_,rfl,t',O,V,u++g,rfl,by rw[j,AJ],.inl Gg,?_,?_⟩;.rw[<-AJ,<-j];exact C.Dj λi _ hi=>Aj hi
    .rw[<-AJ,<-j];exact d.low s
 obtain⟨r,h',hr,t',o',c',u,rfl,rfl,hs⟩:=Jc.ret;exact⟨t',o',c',u,hr,hs⟩
end
section
variable{h h':Ah}{a n i:Nat}{ps:List RN}{A:Ar}{x:Int}
def aPS(w:RA h a n i ps A)(hb:A.n.length<=900000000):BZ cx 149 [Pt a 0] h (I A.len) h:=by
 have hl:=w.len;have e:((ps.length+1:Nat):Int)-1=A.len:=by unfold Ar.len;omega
 have hs:=C6 (a:=((ps.length+1:Nat):Int)) (b:=1) Ab Ab;rw[e] at hs;rw[Af,xg,aGS];simp only[BJ,gC,w.nodes,show AB (.len false) [.CD n 0 (ps.length+1) 13]=some (I ((ps.length+1:Nat):Int)) from rfl,hs]
def aKR(p:RN)(h1:p.x.A8.length<=1000000000)(h2:p.x.AA.length<=1000000000)(h:Ah):∃r,BZ cx 297 [.agg p.row] h (.agg r) h/\∀h',Ŝ h' p.x r:=by have dT:AX=140737488355328:=rfl;obtain⟨K,j,d⟩:=AV.Gu (b:=8) p.okk Ab;obtain⟨V,g,c⟩:=AV.Gu (b:=40) p.oka Ab;have kc:p.kv.cells=[p.kv]:=AV.cells p.okk;have vc:p.av.cells=[p.av]:=AV.cells p.oka;have f:K.cells=[K]:=AV.cells d;have e:V.cells=[V]:=AV.cells c;refine⟨_,?_,λh'=>⟨K,V,rfl,D2.Re d,XB c,f,e⟩⟩;rw[Af,O_,aHY,RN.row];simp only[BJ,j,f,g,e]
def aPT(w:RA h a n i ps A)(hk:∀x,(A.nd x).A8.length<=1000000000)(ha:∀x,(A.nd x).AA.length<=1000000000)(hb:A.n.length<=900000000):∃v,BZ cx 152 [Pt a 0] h v h/\∀h',XU h' v A.n:=by
 have dT:AX=140737488355328:=rfl;have dP:=w.len;have Jc:Ev cx 152 [Pt a 0] h λr h'=>h'=h/\∀h',XU h' r A.n:=by
  unfold Ev;rw[xj,aGV];refine Bj (λz:Aa×Nat=>[z.1,I ((z.2+1:Nat):Int)]) (λz h1=>z.2<=ps.length/\h1=h/\∃Az:List (List Aa),AV 13 Az z.1/\Az.length=z.2/\∀h' k (h1:k<Az.length) (h2:k<A.n.length),Ŝ h' A.n[k] Az[k]) (λz=>ps.length-z.2) (.slnil,0) rfl ⟨AU _,rfl,[],.nil,rfl,λh' k h1=>by simp at h1⟩ ?_;rintro⟨V,k⟩ h1 ⟨Yb,rfl,Az,d,e,f⟩;simp only at Yb d e;have g:AB (.len false) [.CD n 0 (ps.length+1) 13]=some (I ((ps.length+1:Nat):Int)):=rfl;rcases AO k ps.length with hlt|Ef
  .obtain⟨hx,ex⟩:=oJ (A:=A) (k:=k) Ab;have c:=(w.pn hx).2;have ld:=w.Š hx;have ea:=w.addr hx;obtain⟨r,l,hr⟩:=aKR (pR ps ((k:Int)+1)) (by rw[c];exact hk _) (by rw[c];exact ha _) h1;rw[c,ex] at hr;have em:AB (.BI 13) [.agg r]=some (.sl 13 [r]):=by obtain⟨K,W,o,_⟩:=hr [];exact Me (a:= .agg r) (by rw[o];rfl) A5
   have s:=AV.jb (b:=168) (row:=r) d Ab;have p:((k+1:Nat):Int)=(k:Int)+1:=Ab;have inc:AB (.int .add) [I ((k:Int)+1),I 1]=some (I ((k:Int)+1+1)):=Od Ab Ab;simp only[abS,w.nodes,g,p,(Ab:(k:Int)+1<(ps.length:Int)+1),Int.natCast_add,Int.natCast_one,ea,ld,l.Ad,em,s,inc];refine AM.next (_,k+1) rfl ⟨hlt,rfl,Az++[r],.mk,by simp[e],λh' j h1 h2=>?_⟩ Dp;by_cases hj:j<Az.length;.rw[Gf hj];exact f h' j hj h2
   .have q:j=k:=by simp at h1;omega
    subst q;rw[qv Ab];simp only[e,C9,aEu];exact hr h'
  .simp only[abS,w.nodes,g,(Ab:¬((k+1:Nat):Int)<((ps.length+1:Nat):Int))];exact⟨_,rfl,λh'=>⟨Az,d,Ab,λj a b=>f h' j a b⟩⟩
 obtain⟨r,h',hr,rfl,m⟩:=Jc.ret;exact⟨r,hr,m⟩
end
def RB(h:Ah)(bi:Nat)(b:BS)(F:Nat->Prop):Prop:=∃a o c t G,RX h bi a o c t G b/\B7 b.Bb c/\F=Bw bi G
structure TA(h:Ah)(bi wi:Nat)(b:BS)(F F2:Nat->Prop):Prop where
 p:PB h bi b F
 r:RB h wi b F2
 d:∀i,F i->¬F2 i
structure Qk(b:BS)(j:Nat):Prop where
 ok:Ez b
 sz:Sz b j
 nm:Nm b.a
section
variable{h h':Ah}{bi wi:Nat}{b:BS}{F F2:Nat->Prop}{q:jB}{av:Aa}{j:Nat}
def RB.lt(w:RB h bi b F){i:Nat}(hi:F i):i<h.length:=by
 obtain⟨a,o,c,t,G,w,_,rfl⟩:=w;rcases hi with rfl|hi
 .exact w.lt
 .exact w.w.lt hi
def RB.Dj(w:RB h bi b F)(hf:∀i,F i->h'[i]?=h[i]?):RB h' bi b F:=by obtain⟨a,o,c,t,G,w,hc,rfl⟩:=w;exact⟨a,o,c,t,G,w.Dj hf,hc,rfl⟩
def RB.Iq(w:RB h bi b F){u:Ah}:RB (h++u) bi b F:=w.Dj λi hi=>Aj (w.lt hi)
def TA.Iq(w:TA h bi wi b F F2){u:Ah}:TA (h++u) bi wi b F F2:=⟨w.p.Iq,w.r.Iq,w.d⟩
def Qk.le{k:Nat}(f:Qk b j)(hk:k<=j):Qk b k:=⟨f.ok,⟨f.sz.rm.le Ab,by have:=f.sz.AY;omega,by have:=f.sz.Bb;omega⟩,f.nm⟩
def Qk.HC(f:Qk b j):Fin b j:=⟨f.ok,f.sz⟩
def Qk.do(f:Qk b (j+1))(hq:zZ q):Qk (XN b q).1 j:=⟨aD6 f.ok,aD7 f.sz hq,aEc f.nm f.sz hq⟩
def EY.oN(s:EY):Qk s.b 100:=⟨s.ok.1,s.ok.2,pc s⟩
def TA.prog{b':BS}{F':Nat->Prop}(w:TA h bi wi b F F2)(p:PB h' bi b' F')(x:DE h F h' F'):RB h' wi b F2/\∀i,F' i->¬F2 i:=
 ⟨w.r.Dj λi hi=>x.old i (w.r.lt hi) λhp=>w.d i hp hi,λi h1 h2=>by
  rcases x.Bw i h1 with a|a
  .exact w.d i a h2
  .have:=w.r.lt h2;omega⟩
def aPV(w:RB h bi b F)(f:Qk b (j+1))(hq:zZ q)(hv:Bz q.AA av):∃h' F',BZ cx 25 [Pt bi 0,.agg (LC q av)] h (.agg (XN b q).2.row) h'/\RB h' bi (XN b q).1 F'/\DE h F h' F':=by obtain⟨a,o,c,t,G,w,hc,rfl⟩:=w;obtain⟨h',o',c',t',G',r,w',KE,x⟩:=aPN w hc f.ok f.sz f.nm hq hv;exact⟨h',_,r,⟨a,o',c',t',G',w',KE,rfl⟩,x⟩
def Ď(w:TA h bi wi b F F2)(f:Qk b (j+1))(hq:zZ q)(hv:Bz q.AA av):∃h1 h2 F' a,BZ cx 24 [Pt bi 0,.agg (LC q av)] h (.agg (XN b q).2.row) h1/\BZ cx 25 [Pt wi 0,.agg (LC q av)] h1 (.agg (XN b q).2.row) h2/\TA h2 bi wi (XN b q).1 F' a:=by
 obtain⟨h1,F',n,w1,k⟩:=aPr w.p f.HC hq hv;obtain⟨m,g⟩:=w.prog w1 k;obtain⟨h2,a,r2,l,c⟩:=aPV m f hq hv;refine⟨h1,h2,F',a,n,r2,w1.Dj λi hi=>c.old i (w1.lt hi) (g i hi),l,λi e o=>?_⟩;rcases c.Bw i o with d|d
 .exact g i e d
 .have:=w1.lt e;omega
def aPW(s:EY)(hv:Bz s.AA av)(hl:D1 s.AA)(hn:s.name.length<=1000)(h:Ah):∃h' bi F,BZ cx 23 [.agg (Mq s av)] h (Pt bi 0) h'/\RB h' bi s.b F/\DE h (λ_=>False) h' F:=by obtain⟨h',bi,a,o,c,t,G,r,w,hc,x⟩:=aPQ h s hv hl hn;exact⟨h',bi,_,r,⟨a,o,c,t,G,w,hc,rfl⟩,x⟩
def oO(s:EY)(hv:Bz s.AA av)(hl:D1 s.AA)(hn:s.name.length<=1000)(h:Ah):∃h1 h2 bi wi F F2,BZ cx 22 [.agg (Mq s av)] h (Pt bi 0) h1/\BZ cx 23 [.agg (Mq s av)] h1 (Pt wi 0) h2/\TA h2 bi wi s.b F F2:=by
 obtain⟨h1,bi,F,e,w1,k⟩:=aPs s hv hl h;obtain⟨h2,wi,F2,r2,d,a⟩:=aPW s hv hl hn h1;refine⟨h1,h2,bi,wi,F,F2,e,r2,w1.Dj λi hi=>a.old i (w1.lt hi) (λh=>h),d,λi g f=>?_⟩;rcases a.Bw i f with c|c
 .exact c
 .have:=w1.lt g;omega
end
def TB:∀{l:List QO} {b:BS} {j:Nat},Qk b (j+l.length)->(∀x∈l,zZ x.q)->Qk (Lm b l) j
 |[],_,_,f,_=>f
 |x::l,b,j,f,hq=>by rw[Lm];exact TB (Qk.do (j:=j+l.length) (f.le (by simp only[Be];omega)) (hq x AK)) λy hy=>hq y (by simp[hy])
def aPX(i:Item):AB (.geq true [.i,.i,.s,.b]) [.agg i.row,.agg i.row]=some (.bool false):=by rw[Q3];simp[Item.row,D6,Lr]
section
variable{h h':Ah}{bi wi:Nat}{b:BS}{F F2:Nat->Prop}{q:jB}{av:Aa}{j:Nat}
def f7w(s:EY)(hv:Bz s.AA av)(hl:D1 s.AA)(hn:s.name.length<=1000){l:List QO}{v:Aa}(ho:ZJ l v)(hb:l.length<=60)(hq:∀x∈l,zZ x.q)(h:Ah):
  ∃h' bi wi F F2,BZ cx 16 [.agg (Mq s av),v] h (.tuple [Pt bi 0,Pt wi 0,tt]) h'/\TA h' bi wi (Lm s.b l) F F2:=by
 obtain⟨h1,h2,bi,wi,F,F2,f,r2,w0⟩:=oO s hv hl hn h;have Jc:Ev cx 16 [.agg (Mq s av),v] h λr h'=>r= .tuple [Pt bi 0,Pt wi 0,tt]/\∃F F2,TA h' bi wi (Lm s.b l) F F2:=by
  unfold Ev;have X2:av.cells=[av]:=AV.cells hv;have g:=AV.CN ho;rw[aBf,t16];rw[Mq] at f r2⊢;simp only[abS,f.Ad,r2.Ad];refine Bj (λn:Nat=>[.ptr none,.ptr none,ff,I (n:Int)]) (λn h1=>n<=l.length/\∃F F2,TA h1 bi wi (Lm s.b (l.take n)) F F2) (λn=>l.length-n) 0 rfl ⟨AU _,F,F2,w0⟩ ?_;rintro n z ⟨M2,u,t,a⟩;rcases AO n l.length with hlt|Ef
  .have m:=AV.BN (k:= .i64) ho hlt;have oN:Qk (Lm s.b (l.take n)) (39+1):=(TB (j:=40) (l:=l.take n) (s.oN.le (by rw[As];omega)) λx hx=>hq x (Bn hx));obtain⟨y,w,p,o,e,d,i⟩:=Ď a oN (hq _ (AN hlt)) l[n].ok;have hr:LC l[n].q l[n].v=l[n].row:=rfl;rw[hr] at e d;simp only[abS,g,(Ab:(n:Int)<(l.length:Int)),m,QO.CL,QO.HW,Ag,e.Ad,BO,d.Ad,aPX,BQ (Ab:n<9223372036854775807)];exact AM.next (n+1) rfl ⟨hlt,p,o,by rw[Ay hlt,XT];exact i⟩ Ab
  .rw[AD Ef] at a;simp only[abS,g,(Ab:¬(n:Int)<(l.length:Int))];exact⟨_,rfl,rfl,u,t,a⟩
 obtain⟨r,h',hr,rfl,F',c,w'⟩:=Jc.ret;exact⟨h',bi,wi,F',c,hr,w'⟩
def f8g{m:Nat}(w:TA h bi wi b F F2)(rm:B9 b m)(ok:EK b.a 0):∃u,BZ cx 19 [Pt bi 0,Pt wi 0] h tt (h++u):=by
 obtain⟨a,o,c,t,G,wp,hc,e1⟩:=w.p;obtain⟨T,V,c1,f,N,E⟩:=aPq wp hc rm;have w1:=w.Iq (u:=f);obtain⟨a',o',c',t',G',wr,KE,e2⟩:=w1.r;obtain⟨t2,U,c2,d,r2,D⟩:=aPR wr KE rm;have R:=w1.Iq (u:=d);have Z:=rm.tm;have Y:=rm.AY;have X:=rm.Bb;have W:=rm.n;have M:=f22 (E.Dj (h':=h++f++d) λi _ hi=>Aj hi) D (Ab:b.tm.length<=1000000000) (show(b.AY.map Item.node).length<=1000000000 by rw[Al];omega) (Ab:b.Bb.length<=1000000000) (λe he=>by have:=(rm.DD e he).2.1;omega);have v:=(wp.Iq (u:=f)).Iq (u:=d);have s:=wr.Iq (u:=d);have l0:=v.l0;have A:=s.l0;have B:∀x,(b.a.nd x).A8.length<=1000000000:=λx=>rm.X9.A8 ok x;have ab:∀x,(b.a.nd x).AA.length<=1000000000:=λx=>by have:=rm.at_ x;omega
 obtain⟨n,m',ps,C⟩:=v.w.pa;obtain⟨n',Q,Jt,g,_⟩:=s.w;obtain⟨S,l,K,P⟩:=aPw C rm.X9 B Ab;have L:=aOn C;have z:=aPS g Ab;have y:RA (h++f++d++l) a' n' Q Jt b.a:=g.Dj λj hj=>Aj (g.lt hj);obtain⟨v2,J,O⟩:=aPT y B ab Ab;have I:=f90 P.rd (O (h++f++d++l)) Ab (λx hx=>by obtain⟨k,hk,rfl⟩:=List.getElem_of_mem hx;have:=(oJ hk).2;rw[<-this];exact⟨ab _,B _⟩)
 have H:BZ cx 50 [Pt a 0,Pt a' 0] (h++f++d) tt (h++f++d++l):=by rw[Af,aBx,t50];simp only[BJ,L.Ad,z.Ad,CE,DV,K.Ad,J.Ad,I.Ad]
 refine⟨f++d++l,?_⟩;rw[Af,aBi,t19];rw[show h++(f++d++l)=h++f++d++l by simp only[AJ]];simp only[abS,N.Ad,r2.Ad,M.Ad,l0,A,H.Ad]
end
structure MD where
 k:Int
 name:Aq
 hn:Bool
 bk:Aq
 hp:Bool
 sys:Aq
 hs:Bool
 q:Bool
 AA:List A6
 sc:Bool
 data:Aq
 r:Int
namespace MD
def ok(t:MD):Prop:=1<=t.k/\t.k<=6
instance(t:MD):Decidable t.ok:=by unfold ok;infer_instance
def st(t:MD)(ws:List Aq):Prop:=t.k=2/\t.name∈ws
instance(t:MD)(ws:List Aq):Decidable (t.st ws):=by unfold st;infer_instance
def en(t:MD)(ws:List Aq):Prop:=t.k=3/\t.name∈ws
instance(t:MD)(ws:List Aq):Decidable (t.en ws):=by unfold en;infer_instance
def odd(t:MD)(ws:List Aq):Prop:=t.k=3/\t.name∉ws
instance(t:MD)(ws:List Aq):Decidable (t.odd ws):=by unfold odd;infer_instance
end MD
def ť(r:Int):Prop:=(9<=r/\r<=10)\/(12<=r/\r<=13)\/r=32
instance(r:Int):Decidable (ť r):=by unfold ť;infer_instance
namespace MD
def Ŧ(t:MD):Prop:=t.k=5/\ť t.r
instance(t:MD):Decidable t.Ŧ:=by unfold Ŧ;infer_instance
end MD
namespace BS
def again(b:BS)(m:Int):BS×Bool:=({b with mode:=m},true)
def bm(b:BS):Prop:=0<=AP (BD [Bd]) b.AY
instance(b:BS):Decidable b.bm:=by unfold bm;infer_instance
noncomputable def JK(b:BS)(t:MD):BS×Bool:=
 if¬t.ok then(b,false)
 else if t.k=5 then(b.Sg t.r,false)
 else if t.k=6 then b.Ky.again b.Jn
 else if t.k=3 then({b.Ky with mode:=b.Jn},false)
 else(b,false)
end BS
structure Gz(b:BS)(n o a:Nat):Prop where
 ok:Ez b
 rm:B9 b n
 AY:b.AY.length<=o
 Bb:b.Bb.length<=a
structure MD.Sm(t:MD):Prop where
 name:t.name.length<=1000
 AA:D1 t.AA
 data:t.data.length<=1000
 r: -2147483648<=t.r/\t.r<=2147483647
section
variable{b b':BS}{n n' o o' a a':Nat}{nm:Aq}{l:List A6}{t:MD}{sp:Int}
def Gz.le(g:Gz b n o a)(h1:n'<=n)(h2:o<=o')(c:a<=a'):Gz b n' o' a':=⟨g.ok,g.rm.le h1,Bu g.AY h2,Bu g.Bb c⟩
def Gz.ite{c:Prop}[Decidable c]{x y:BS×Bool}(h1:Gz x.1 n o a)(h2:Gz y.1 n o a):Gz (if c then x else y).1 n o a:=by split;exact h1;exact h2
def Gz.dn(g:Gz b n o a)(h:n'<=n):Gz b n' o a:=g.le h (Ag _) (Ag _)
def Gz.eq{c:BS}(g:Gz b n o a)(h1:c.a=b.a)(h2:c.CM=b.CM)(e:c.AY=b.AY)(d:c.Bb=b.Bb)(f:c.tm=b.tm):Gz c n o a:=
 ⟨g.ok.of_eq h1 h2 e d,g.rm.eq h1 e d f,by rw[e];exact g.AY,by rw[d];exact g.Bb⟩
def Gz.sub(g:Gz b n o a){lo:List Item}{lc:List Cu}{lt:List Int}(h1:lo.Sublist b.AY)(h2:lc.Sublist b.Bb)(c:lt.length<=b.tm.length):Gz {b with AY:=lo,Bb:=lc,tm:=lt} n o a:=
 ⟨((g.ok.UP h1).iC (by exact h2)).of_eq rfl rfl rfl rfl,g.rm.sub rfl h1 h2 c,Bu h1.length_le g.AY,Bu h2.length_le g.Bb⟩
def Gz.UP(g:Gz b n o a){lo:List Item}(h1:lo.Sublist b.AY):Gz {b with AY:=lo} n o a:=g.sub h1 (A4 _) (Ag _)
def Gz.Sg(g:Gz b (n+5) o a){r:Int}:Gz (b.Sg r) n o a:=⟨qY g.ok,Un g.rm (Ss _),g.AY,g.Bb⟩
def Gz.Ky(g:Gz b n o a):Gz b.Ky n o a:=by
 unfold BS.Ky;split;.exact g
 .exact g.UP (DN _ _)
def Gz.JK(g:Gz b (n+5) o a):Gz (b.JK t).1 n o a:=by have g0:Gz b n o a:=g.le Ab Ab Ab;unfold BS.JK;exact .ite g0 (.ite g.Sg (.ite (g0.Ky.eq (c:={b.Ky with mode:=b.Jn}) rfl rfl rfl rfl rfl) (.ite (g0.Ky.eq (c:={b.Ky with mode:=b.Jn}) rfl rfl rfl rfl rfl) g0)))
end
def Did(h:Ah)(F:Nat->Prop)(f:FuncId)(args:List Aa)(r:Aa)(bi:Nat)(b':BS):Prop:=∃h' F',BZ cx f args h r h'/\PB h' bi b' F'/\DE h F h' F'
abbrev I4(t:MD)(av:Aa):List Aa:=[I t.k,.str t.name,.bool t.hn,.str t.bk,.bool t.hp,.str t.sys,.bool t.hs,.bool t.q,av,.bool t.sc,.str t.data,.int .i32 t.r]
section
variable{h h':Ah}{bi:Nat}{b b':BS}{F:Nat->Prop}{n o a:Nat}{t:MD}{av:Aa}
def aEe(w:PB h bi b F)(g:Gz b (n+5) o a){r:Int}(hr: -2147483648<=r/\r<=2147483647):Did h F 69 [Pt bi 0,.int .i32 r] (.tuple []) bi (b.Sg r):=by obtain⟨e,d,c,tt,G,w,hc,rfl⟩:=w;obtain⟨h',G',r,w',x⟩:=aJA (m:=n) w g.ok g.rm r hr;exact⟨h',_,r,⟨e,d,c,tt,G',w',hc,rfl⟩,x⟩
def ŧ(w:PB h bi b F)(g:Gz b n o a):Did h F 82 [Pt bi 2] (.agg b.gZ.row) bi b.Ky:=by obtain⟨d,f,c,tt,G,w,hc,rfl⟩:=w;obtain⟨h',o',r,w',x⟩:=aDS w g.rm;exact⟨h',_,r,⟨d,o',c,tt,G,w',by have e:b.Ky.Bb=b.Bb:=(by unfold BS.Ky;split<;>rfl);rw[e];exact hc,rfl⟩,x⟩
def PB.L7(w:PB h bi b F):∃x,Bg h none (Pt bi 0)=some (Pt x 0):=by obtain⟨d,e,c,tt,G,w,hc,rfl⟩:=w;exact⟨d,w.l0⟩
def PB.lds(w:PB h bi b F):Bg h none (Pt bi 1)=some (I b.CM)/\Bg h none (Pt bi 4)=some (I b.mode)/\Bg h none (Pt bi 5)=some (I b.Jn)/\Bg h none (Pt bi 7)=some (I b.head)/\Bg h none (Pt bi 8)=some (I b.NF)/\Bg h none (Pt bi 14)=some (.bool b.fs)/\Bg h none (Pt bi 18)=some (I b.sw)/\Bg h none (Pt bi 19)=some (.bool b.stop):=by obtain⟨e,d,c,tt,G,w,hc,rfl⟩:=w;exact⟨w.ld 1,w.ld 4,w.ld 5,w.ld 7,w.ld 8,w.ld 14,w.ld 18,w.ld 19⟩
def Wr(h:Ah)(F:Nat->Prop)(bi k:Nat)(v:Aa)(b':BS):Prop:=Cw h 1 (Pt bi k) v=some (put h bi k v)/\PB (put h bi k v) bi b' F/\DE h F (put h bi k v) F
def pk(w:PB h bi b F)(v:Int):Wr h F bi 4 (I v) {b with mode:=v}:=by obtain⟨e,d,c,tt,G,w,hc,rfl⟩:=w;exact⟨w.st (k:=4) rfl rfl,⟨e,d,c,tt,G,w.put rfl rfl w.o w.t,hc,rfl⟩,Bq⟩
end
def NO(c:UInt8):Bool:=decide ((9<=c.toNat/\c.toNat<=13)\/c.toNat=32)
def wf:Aq->Aq->List Aq
 |cur,[]=>if cur=[] then[] else[cur]
 |cur,c::r=>if NO c then(if cur=[] then wf [] r else cur::wf [] r) else wf (cur++[c]) r
def dJ:Bool->Aq->Nat
 |_,[]=>0
 |w,c::r=>(if w&& !NO c then 1 else 0)+dJ (NO c) r
def wH(b:Bool):Int:=if b then 1 else 0
def TC:∀{s cur:Aq},(wf cur s).length=(if cur=[] then 0 else 1)+dJ (decide (cur=[])) s
 |[],cur=>by unfold wf dJ;split<;>simp_all
 |c::r,cur=>by
  unfold wf dJ;by_cases hc:NO c=true
  .by_cases h0:cur=[];.simp[hc,h0,TC (s:=r) (cur:=[])]
   .simp[hc,h0,TC (s:=r) (cur:=[])];omega
  .have KE:NO c=false:=by simpa using hc
   by_cases h0:cur=[];.simp[KE,h0,TC (s:=r) (cur:=[c])]
   .simp[KE,h0,TC (s:=r) (cur:=cur++[c])]
def wI:∀{s cur:Aq},(wf cur s).length<=s.length+1
 |[],cur=>by unfold wf;split<;>simp
 |c::r,cur=>by
  unfold wf;have h1:=wI (s:=r) (cur:=[]);have h2:=wI (s:=r) (cur:=cur++[c]);split;.split<;>simp only[Be]<;>omega
  .simp only[Be];omega
def wJ{c:UInt8}(k:Option Nat)(hk:k=none){h:Ah}:∃v,AB (.TG 256 1) [.Cq Hc,.int .u8 (c.toNat:Int)]=some v/\Bg h k v=some (.int .u8 (wH (NO c))):=by
 subst hk;have key:∀n:Nat,n<256->Hc[n]?=some (.int .u8 (wH (decide ((9<=n/\n<=13)\/n=32)))):=by intro n hn;have h1:∀n,n<256->Ns[n]?=some (wH (decide ((9<=n/\n<=13)\/n=32))):=GB;rw[Hc,Cn,h1 n hn];rfl
 have hc:=c.toNat_lt;have hi:L3 (c.toNat:Int) 256=some c.toNat:=by unfold L3;rw[Ae Ab];rfl
 refine⟨.Cq (Hc.drop (c.toNat*1)),by simp[AB,hi,VF],?_⟩;rw[WN,E8,Ct,FF,Bv,key _ hc];rfl
def aEg{s c:Nat}(hs:s<128)(hc:c<128):∃n:Nat,n<128/\AB (.int .or) [.int .u8 (s:Int),.int .u8 (c:Int)]=some (.int .u8 (n:Int)):=by
 have key:∀s:Nat,s<128->∀c:Nat,c<128->(match AB (.int .or) [.int .u8 (s:Int),.int .u8 (c:Int)] with|some (.int .u8 n)=>decide (0<=n/\n<128)|_=>false)=true:=GB;have h1:=key s hs c hc;split at h1;.rename_i n hv;have:=J0 h1;exact⟨n.toNat,Ab,by rw[hv,GV this.1]⟩
 .cases h1
def aEh(w i:Bool):∃v,AB (.un .xor) [I (wH i)]=some v/\AB (.int .and) [I (wH w),v]=some (I (if w&& !i then 1 else 0)):=by cases w<;>cases i<;>exact⟨_,rfl,rfl⟩
def aEi(i:Bool):IntKind.i64.wrap (wH i)=wH i:=by cases i<;>rfl
def wK{U:Type}(l:List U)(x y:U)(r:List U){k:Nat}(hk:k=l.length):(l++y::r).take k++[x]++(l++y::r).drop (k+1)=l++x::r:=by subst hk;simp
def aKS(s:Aq)(hs:s.length<=1000000)(ha:∀c∈s,c.toNat<128)(h:Ah):BZ cx 410 [.str s] h (.sl 1 ((wf [] s).map CH)) (h++[.CT]):=by
 have dT:AX=140737488355328:=rfl;have O:=wI (s:=s) (cur:=[]);obtain⟨N,hNe⟩:∃N,N=(wf [] s).length:=⟨_,rfl⟩;rw[Af,uX,aDo];refine DS (i:=0) (λz:Nat×Bool×Nat×Nat=>[I (z.1:Int),I (wH z.2.1),.int .u8 (z.2.2.1:Int),I (z.2.2.2:Int)]) (λz h1=>h1=h/\z.2.2.2<=s.length/\z.2.2.1<128/\z.1+dJ z.2.1 (s.drop z.2.2.2)=dJ true s) (λz=>s.length-z.2.2.2) (λz h1=>h1=h/\z.2.2.1<128/\z.1=N) (0,true,0,0) rfl ⟨rfl,AU _,A5,AK⟩ ?_ ?_
 .rintro⟨n,w,bits,i⟩ h1 ⟨rfl,hi,hb,hn⟩;simp only at hi hb hn;rcases AO i s.length with hlt|Ef
  .obtain⟨bits',QQ,y⟩:=aEg hb (ha _ (AN hlt));obtain⟨v,J,H⟩:=wJ (c:=s[i]) none rfl (h:=h1);obtain⟨v2,p,d⟩:=aEh w (NO s[i]);have M:dJ true s<=s.length+1:=by have:=TC (s:=s) (cur:=[]);simp at this;omega
   rw[AF hlt,dJ] at hn;have u:=Od (a:=(n:Int)) (b:=if w&& !NO s[i] then 1 else 0) (by split<;>omega) (by split<;>omega);have t:((n:Int)+if(w&& !NO s[i])=true then 1 else 0)=((n+if(w&& !NO s[i])=true then 1 else 0:Nat):Int):=by split<;>simp
   simp only[abS,(Ab:(i:Int)<(s.length:Int)),Fw hlt,y,J,H,RU,aEi,p,d,u,t,BQ (Ab:i<9223372036854775807)];exact .next (_,NO s[i],bits',i+1) rfl ⟨rfl,hlt,QQ,Dp⟩ Dp
  .simp only[abS,(Ab:¬(i:Int)<(s.length:Int))];refine .HC (n,w,bits,i) rfl ⟨rfl,hb,?_⟩;rw[AW Ef,dJ] at hn;have:=TC (s:=s) (cur:=[]);simp at this;simp only;omega
 rintro⟨n,w,bits,i⟩ h1 ⟨rfl,hb,hn⟩;simp only at hb hn;subst hn;have y:Rr h1 1 16 [S []] (I (n:Int)) (I (n:Int))=some (h1++[.cells (List.replicate n [S []]).flatten],.CD h1.length 0 n 1):=by simp only[Rr];rw[Ae ⟨Ab,Ab,Eg,rfl⟩];simp
 have J:(List.replicate n [S []]).flatten=List.replicate n (S []):=by
  clear y hNe O;induction n with
  |zero=>rfl
  |succ n ih=>rw[KN,CW,ih];rfl
 rw[J] at y;have H:¬(128:Int)<=(bits:Int):=Ab;simp only[abS,H];refine kD y ?_;refine DS (i:=2) (λi:Nat=>[I (i:Int)]) (λi h2=>h2=h1++[.cells (List.replicate n (S []))]/\i<=s.length/\wf [] s=wf [] (s.drop i)) (λi=>s.length-i) (λi h2=>h2=h1++[.cells (List.replicate n (S []))]/\i<=s.length/\wf [] s=wf [] (s.drop i)/\∀hi:i<s.length,NO s[i]=false) 0 rfl ⟨rfl,AU _,rfl⟩ ?_ ?_
 .rintro i h2 ⟨rfl,hi,hw⟩;rcases AO i s.length with hlt|Ef
  .obtain⟨v,p,d⟩:=wJ (c:=s[i]) none rfl (h:=h1++[.cells (List.replicate n (S []))]);cases hsp:NO s[i] with
   |true=>rw[hsp] at d;simp only[abS,(Ab:(i:Int)<(s.length:Int)),Fw hlt,p,d,wH,↓reduceIte,(A5:(1:Int)≠0),Ca,BQ (Ab:i<9223372036854775807)];rw[AF hlt,wf,hsp] at hw;exact .next (i+1) rfl ⟨rfl,hlt,by simpa using hw⟩ Ab
   |false=>rw[hsp] at d;simp only[abS,(Ab:(i:Int)<(s.length:Int)),Fw hlt,p,d,wH,Cy,↓reduceIte,Ca];exact .HC i rfl ⟨rfl,hi,hw,λ_=>hsp⟩
  .simp only[abS,(Ab:¬(i:Int)<(s.length:Int))];exact .HC i rfl ⟨rfl,hi,hw,λh=>absurd h Ab⟩
 rintro i0 h2 ⟨rfl,nO,C,bc⟩;simp only[BJ];refine DS (i:=4) (λz:List Aq×Nat×Nat=>[I (z.1.length:Int),I (z.2.1:Int),I (z.2.2:Int)]) (λz h2=>h2=h1++[.cells (z.1.map Aa.str++List.replicate (n-z.1.length) (S []))]/\z.2.1<=z.2.2/\z.2.2<=s.length/\z.1++wf ((s.take z.2.2).drop z.2.1) (s.drop z.2.2)=wf [] s/\(z.2.1=z.2.2->∀hi:z.2.2<s.length,NO s[z.2.2]=false)) (λz=>s.length-z.2.2)
  (λz h2=>h2=h1++[.cells (z.1.map Aa.str++List.replicate (n-z.1.length) (S []))]/\z.2.1<=s.length/\z.1++wf (s.drop z.2.1) []=wf [] s) ([],i0,i0) rfl ⟨AK,Ag _,nO,by simp[C,OK],λ_=>bc⟩ ?_ ?_
 .rintro⟨dn,f,i⟩ h2 ⟨rfl,hf,hi,hw,hz⟩;simp only at hf hi hw hz;have jR:dn.length<=n:=by rw[hNe,<-hw,Au];omega
  rcases AO i s.length with hlt|Ef
  .obtain⟨v,p,d⟩:=wJ (c:=s[i]) none rfl (h:=h1++[.cells (dn.map Aa.str++List.replicate (n-dn.length) (S []))]);rw[AF hlt] at hw;cases hsp:NO s[i] with
   |false=>
    rw[hsp] at d;simp only[abS,(Ab:(i:Int)<(s.length:Int)),Fw hlt,p,d,wH,Cy,↓reduceIte,BQ (Ab:i<9223372036854775807)];rw[wf,hsp] at hw;refine .next (dn,f,i+1) rfl ⟨rfl,Dp,hlt,?_,λe=>by simp only at e;omega⟩ Dp
    simp only
    rw[WT hf hlt];simpa using hw
   |true=>
    rw[hsp] at d;have æ:f<i:=by
     rcases AO f i with h|h
     .exact h
     .have:=hz Ab hlt;rw[hsp] at this;cases this
    have aPZ:(s.take i).drop f≠[]:=by intro e;have:=Ce List.length e;simp at this;omega
    rw[wf,hsp] at hw;simp only[BT,aPZ,Eb] at hw;have m:dn.length<n:=by rw[hNe,<-hw];simp
    have u:AB (.FC 1) [.CD h1.length 0 n 1,I (dn.length:Int)]=some (Pt h1.length dn.length):=by have:=E0 (id:=h1.length) (z:=1) (n:=n) (k:= .i64) m;rwa [FF] at this
    have hcl:(dn.map Aa.str++List.replicate (n-dn.length) (S [])).length=n:=Eg;have t:Cw (h1++[.cells (dn.map Aa.str++List.replicate (n-dn.length) (S []))]) 1 (Pt h1.length dn.length) (.str ((s.take i).drop f))=some (h1++[.cells ((dn++[(s.take i).drop f]).map Aa.str++List.replicate (n-(dn++[(s.take i).drop f]).length) (S []))]):=by have F:(h1++[Dx.cells (dn.map Aa.str++List.replicate (n-dn.length) (S []))])[h1.length]?=some (.cells (dn.map Aa.str++List.replicate (n-dn.length) (S []))):=AK;simp only[Cw,F,PZ,Bp];rw[Ae ⟨trivial,by rw[hcl];omega⟩,BP _ _ (Ag _),C9];have E:n-dn.length=(n-(dn.length+1))+1:=Ab;have D:(dn.map Aa.str).length=dn.length:=Al ..;simp only[PI,BL,Bs,Df,Au,Bp];rw[E,KN,wK _ _ _ _ D.symm];simp
    simp only[abS,(Ab:(i:Int)<(s.length:Int)),Fw hlt,p,d,wH,↓reduceIte,(A5:¬(1:Int)=0),Md (z:=0) (k:= .i64) (l:= .i64) (Ab:f<=i) hi,u,t,BQ (Ab:dn.length<9223372036854775807),BQ (Ab:i<9223372036854775807)];refine DS (i:=6) (λj:Nat=>[I (j:Int)]) (λj h2=>h2=h1++[.cells ((dn++[(s.take i).drop f]).map Aa.str++List.replicate (n-(dn++[(s.take i).drop f]).length) (S []))]/\i<j/\j<=s.length/\wf [] (s.drop (i+1))=wf [] (s.drop j)) (λj=>s.length-j) (λj h2=>h2=h1++[.cells ((dn++[(s.take i).drop f]).map Aa.str++List.replicate (n-(dn++[(s.take i).drop f]).length) (S []))]/\i<j/\j<=s.length/\wf [] (s.drop (i+1))=wf [] (s.drop j)/\∀hj:j<s.length,NO s[j]=false) (i+1) rfl ⟨rfl,Ab,hlt,rfl⟩ ?_ ?_
    .rintro j h2 ⟨rfl,o,hj,lH⟩;rcases AO j s.length with YX|L
     .obtain⟨v,K,A⟩:=wJ (c:=s[j]) none rfl (h:=h1++[.cells ((dn++[(s.take i).drop f]).map Aa.str++List.replicate (n-(dn++[(s.take i).drop f]).length) (S []))]);cases g:NO s[j] with
      |true=>rw[g] at A;simp only[abS,(Ab:(j:Int)<(s.length:Int)),Fw YX,K,A,wH,↓reduceIte,(A5:(1:Int)≠0),Ca,BQ (Ab:j<9223372036854775807)];rw[AF YX,wf,g] at lH;exact .next (j+1) rfl ⟨rfl,Ab,YX,by simpa using lH⟩ Ab
      |false=>rw[g] at A;simp only[abS,(Ab:(j:Int)<(s.length:Int)),Fw YX,K,A,wH,Cy,↓reduceIte,Ca];exact .HC j rfl ⟨rfl,o,hj,lH,λ_=>g⟩
     .simp only[abS,(Ab:¬(j:Int)<(s.length:Int))];exact .HC j rfl ⟨rfl,o,hj,lH,λh=>absurd h Ab⟩
    .rintro j h2 ⟨rfl,o,hj,lH,B⟩;simp only[BJ,↓reduceIte];refine .next (dn++[(s.take i).drop f],j,j) AK ⟨rfl,Ag _,hj,?_,λ_=>B⟩ Dp
     simp only[OK];rw[<-lH,AJ];exact hw
  .simp only[abS,(Ab:¬(i:Int)<(s.length:Int))];have hie:i=s.length:=Ab;refine .HC (dn,f,i) rfl ⟨rfl,Dp,?_⟩;simp only
   rw[AW Ef,hie,By] at hw;exact hw
 .rintro⟨dn,f,i⟩ h2 ⟨rfl,hf,hw⟩;simp only at hf hw;have fz:∀l:List Aq,l=wf [] s->Kq (h1++[.cells (l.map Aa.str)]) (.CD h1.length 0 n 1)=some (h1++[.CT],.sl 1 ((wf [] s).map CH)):=by
   rintro l rfl;have hr:∀r∈(wf [] s).map CH,r.length=1:=λr hr=>by obtain⟨w,_,rfl⟩:=Bl.1 hr;rfl
   have P:((wf [] s).map CH).flatten=(wf [] s).map Aa.str:=by
    generalize wf [] s=q;induction q with
    |nil=>rfl
    |cons x q ih=>simp[CH,ih]
   have:=JU (h:=h1++[.cells ((wf [] s).map Aa.str)]) (id:=h1.length) hr (by rw[P];simp);rw[Al,<-hNe] at this;rw[this,BP _ _ (Ag _),C9];rfl
  rcases AO f s.length with hlt|Ef
  .have hne:s.drop f≠[]:=by intro e;have:=Ce List.length e;simp at this;omega
   rw[wf,Ac hne] at hw;have m:n=dn.length+1:=by rw[hNe,<-hw];simp
   have u:AB (.FC 1) [.CD h1.length 0 n 1,I (dn.length:Int)]=some (Pt h1.length dn.length):=by have:=E0 (id:=h1.length) (z:=1) (n:=n) (k:= .i64) (Ab:dn.length<n);rwa [FF] at this
   have t:Cw (h1++[.cells (dn.map Aa.str++List.replicate (n-dn.length) (S []))]) 1 (Pt h1.length dn.length) (.str (s.drop f))=some (h1++[.cells ((dn++[s.drop f]).map Aa.str)]):=by have F:(h1++[Dx.cells (dn.map Aa.str++List.replicate (n-dn.length) (S []))])[h1.length]?=some (.cells (dn.map Aa.str++List.replicate (n-dn.length) (S []))):=AK;have E:n-dn.length=1:=Ab;have D:(dn.map Aa.str).length=dn.length:=Al ..;simp only[Cw,F,PZ,Bp];rw[Ae ⟨trivial,Eg⟩,BP _ _ (Ag _),C9,E,show List.replicate 1 (S [])=S []::[] from rfl,wK _ _ _ _ D.symm];simp
   simp only[abS,(Ab:(f:Int)<(s.length:Int)),Ta (z:=0) (k:= .i64) (Ab:f<=s.length),u,t,fz _ hw]
  .rw[AW Ef,wf] at hw;simp only[BT,BK] at hw;have m:n-dn.length=0:=by rw[hNe,<-hw];omega
   have G:=fz _ hw;rw[m,List.replicate_zero,BK];simp only[abS,(Ab:¬(f:Int)<(s.length:Int)),G]
section
variable{h h':Ah}{bi:Nat}{b b':BS}{F:Nat->Prop}{n o a:Nat}{t:MD}{av:Aa}
def aKT(lo hi r:Int)(h:Ah):BZ cx 414 [.int .i32 r,.Cq [.int .i32 lo],.Cq [.int .i32 hi]] h (.bool (decide (lo<=r/\r<=hi))) h:=by rw[Af,cM,Þ];simp only[BJ];refine⟨λh1=>by simp[h1],λh1=>by simp[h1]⟩
def ZL(p:Int×Int):List Aa:=[.func (.func 414) [] [.Cq [.int .i32 p.1],.Cq [.int .i32 p.2]]]
def aP1{L:List (Int×Int)}(g:L.length<=1000)(r:Int)(h:Ah):BZ cx 413 [.int .i32 r,.Cq [.sl 1 (L.map ZL)]] h (.bool (L.any λp=>decide (p.1<=r/\r<=p.2))) h:=by
 have hv:AV 1 (L.map ZL) (.sl 1 (L.map ZL)):= .mk;have e:=AV.CN hv;rw[Af,uY,aDp];simp only[BJ,e];refine Bj (λn:Nat=>[ff,I (n:Int)]) (λn h1=>n<=L.length/\h1=h/\L.any (λp=>decide (p.1<=r/\r<=p.2))=(L.drop n).any λp=>decide (p.1<=r/\r<=p.2)) (λn=>L.length-n) 0 rfl ⟨AU _,rfl,rfl⟩ ?_;rintro n h1 ⟨hn,rfl,ha⟩;rcases AO n L.length with hlt|Ef
 .have c:=AV.BN (k:= .i64) hv hlt;have f:∀x y:Int,DC (.func (.func 414) [] [.Cq [.int .i32 x],.Cq [.int .i32 y]]) [.int .i32 r]=some (414,[.int .i32 r,.Cq [.int .i32 x],.Cq [.int .i32 y]]):=λ_ _=>rfl;have d:=aKT L[n].1 L[n].2 r h1;rw[AF hlt,Rk] at ha;rw[ZL] at c;simp only[abS,(Ab:(n:Int)<(L.length:Int)),c,f,d.Ad,BQ (Ab:n<9223372036854775807)];refine⟨λh2=>?_,λh2=>?_⟩;.rw[ha];simp[h2]
  .rw[AG h2,Hi] at ha;exact AM.next (n+1) rfl ⟨hlt,rfl,ha⟩ Ab
 .rw[AW Ef] at ha;simp only[abS,(Ab:¬(n:Int)<(L.length:Int)),ha,jK]
structure Wds(l:Aq)(ws:List Aq):Prop where
 len:l.length<=1000000
 asc:∀c∈l,c.toNat<128
 wf:wf [] l=ws
def Wds.few{l:Aq}{ws:List Aq}(w:Wds l ws):ws.length<=1000001:=by have:=wI (s:=l) (cur:=[]);have:=w.len;rw[<-w.wf];omega
def aKV{l:Aq}{ws:List Aq}(w:Wds l ws)(h:Ah):BZ cx 368 [.str l] h (.sl 1 (ws.map CH)) (h++[.CT]):=by have c:=aKS l w.len w.asc h;rw[w.wf] at c;rw[Af,uM,aDd];simp only[BJ,c.Ad]
def aKW(w:PB h bi b F)(t:MD)(av:Aa):BZ cx 105 [Pt bi 0,.agg (I4 t av)] h (.bool (decide t.ok)) h:=by
 obtain⟨x,l0⟩:=w.L7;rw[Af,q8,aBP];simp only[abS,l0];refine⟨λh1=>?_,λh1=>?_⟩;.congr 2;unfold MD.ok;simp[h1]
 .unfold MD.ok;simp[h1]
def aP2(w:PB h bi b F)(m:Int):Did h F 109 [Pt bi 0,I m] tt bi (b.again m).1:=by obtain⟨d,w1,c⟩:=pk w m;refine⟨_,_,?_,w1,c⟩;rw[Af,q9,t109];simp only[BJ,d]
def aP3(w:PB h bi b F)(g:Gz b (n+5) o a)(ht:t.Sm)(hv:Bz t.AA av):Did h F 35 [Pt bi 0,.agg (I4 t av)] (.bool (b.JK t).2) bi (b.JK t).1:=by
 have lds:=w.lds;unfold BS.JK;by_cases l:¬t.ok;.rw[Ae l];have c:=aKW w t av;rw[AG l] at c;refine⟨_,_,?_,w,.refl⟩;rw[Af,Tm,t35];simp only[abS,↓reduceIte,c.Ad]
 rw[Ac l];have c:=aKW w t av;rw[AI (Decidable.not_not.1 l)] at c;by_cases d:t.k=5;.rw[Ae d];obtain⟨h1,s,f,w1,e⟩:=aEe w (g.dn (n':=n+5) Ab) ht.r;refine⟨_,_,?_,w1,e⟩;rw[Af,Tm,t35];simp only[abS,↓reduceIte,c.Ad,A0 d,f.Ad]
 rw[Ac d];by_cases i:t.k=6
 .rw[Ae i];obtain⟨h1,s,f,w1,e⟩:=ŧ w (g.dn (n':=n) Ab);have q:b.Ky.Jn=b.Jn:=by unfold BS.Ky;split<;>rfl
  have VE:=w1.lds;rw[q] at VE;obtain⟨h2,F2,r2,p,m⟩:=aP2 w1 b.Jn;refine⟨_,_,?_,p,e.trans m⟩;rw[Af,Tm,t35];simp only[abS,↓reduceIte,c.Ad,d,A0 i,f.Ad,VE,r2.Ad,BS.again]
 rw[Ac i];by_cases j:t.k=3
 .rw[Ae j];obtain⟨h1,s,f,w1,e⟩:=ŧ w (g.dn (n':=n) Ab);have q:b.Ky.Jn=b.Jn:=by unfold BS.Ky;split<;>rfl
  have VE:=w1.lds;rw[q] at VE;obtain⟨u,p,m⟩:=pk w1 b.Jn;refine⟨_,_,?_,p,e.trans m⟩;rw[Af,Tm,t35];simp only[abS,↓reduceIte,c.Ad,d,i,A0 j,f.Ad,VE,u]
 rw[Ac j];refine⟨_,_,?_,w,.refl⟩;rw[Af,Tm,t35];simp only[abS,↓reduceIte,c.Ad,d,i,j]
end
def pq(h:Ah)(F:Nat->Prop)(f:FuncId)(args:List Aa)(r:Aa)(bi:Nat)(b':BS):Prop:=∃h' F',BZ cx f args h r h'/\RB h' bi b' F'/\DE h F h' F'
def WrR(h:Ah)(F:Nat->Prop)(bi k:Nat)(v:Aa)(b':BS):Prop:=Cw h 1 (.ptr (some (bi,k))) v=some (put h bi k v)/\RB (put h bi k v) bi b' F/\DE h F (put h bi k v) F
section
variable{h h':Ah}{bi:Nat}{b b':BS}{F:Nat->Prop}{n o a:Nat}{t:MD}{av:Aa}
def aEj(w:RB h bi b F)(g:Gz b (n+5) o a)(hm:Nm b.a)(r:Int):pq h F 89 [.ptr (some (bi,0)),.int .i32 r] (.tuple []) bi (b.Sg r):=by obtain⟨e,d,c,tt,G,w,hc,rfl⟩:=w;obtain⟨h',G',r,w',x⟩:=aKD (m:=n) w g.ok g.rm hm r;exact⟨h',_,r,⟨e,d,c,tt,G',w',hc,rfl⟩,x⟩
def Ũ(w:RB h bi b F)(g:Gz b n o a):pq h F 136 [.ptr (some (bi,0))] (.tuple []) bi b.Ky:=by
 obtain⟨l,d,c,tt,G,w,hc,rfl⟩:=w;have ho:=g.rm.AY;have ld:Bg h none (.ptr (some (bi,2)))=some d:=w.ld 2;obtain⟨u,i,j,hu⟩:=aDE (h:=h) w.o Ab;have e:b.Ky={b with AY:=Kf b.AY ((b.AY.length:Int)-1)}:=by
  unfold BS.Ky Kf;split
  .have h1:max 1 ((b.AY.length:Int)-1).toNat=1:=by omega
   rw[h1,AD Ab]
  .have h1:max 1 ((b.AY.length:Int)-1).toNat=b.AY.length-1:=by omega
   rw[h1]
 have w1:=w.Iq (u:=i);have f:=w1.IH hu;refine⟨_,_,?_,⟨l,u,c,tt,G,by rw[e];exact f,by rw[e];exact hc,rfl⟩,w.C7.trans Bq⟩;rw[Af,wv,aGM];simp only[abS,↓reduceIte,ld,j.Ad,w1.st (k:=2) (v0:=d) rfl (AV.cells hu)]
def pv(w:RB h bi b F)(v:Int):WrR h F bi 4 (.int .i64 v) {b with mode:=v}:=by obtain⟨e,d,c,tt,G,w,hc,rfl⟩:=w;exact⟨w.st (k:=4) rfl rfl,⟨e,d,c,tt,G,w.put rfl rfl w.o w.t,hc,rfl⟩,Bq⟩
def RB.lds(w:RB h bi b F):Bg h none (.ptr (some (bi,1)))=some (.int .i64 b.CM)/\Bg h none (.ptr (some (bi,4)))=some (.int .i64 b.mode)/\Bg h none (.ptr (some (bi,5)))=some (.int .i64 b.Jn)/\Bg h none (.ptr (some (bi,7)))=some (.int .i64 b.head):=by obtain⟨e,d,c,tt,G,w,hc,rfl⟩:=w;exact⟨w.ld 1,w.ld 4,w.ld 5,w.ld 7⟩
def aP4(w:RB h bi b F)(g:Gz b (n+5) o a)(hm:Nm b.a)(ht:t.Sm)(hv:Bz t.AA av):pq h F 45 [.ptr (some (bi,0)),.agg (I4 t av)] (.bool (b.JK t).2) bi (b.JK t).1:=by
 unfold BS.JK;by_cases c:t.k=5
 .have j:¬¬t.ok:=by unfold MD.ok;omega
  rw[Ac j,Ae c];obtain⟨h1,u,f,w1,d⟩:=aEj w (g.dn (n':=n+5) Ab) hm t.r;refine⟨_,_,?_,w1,d⟩;rw[Af,bL,t45];simp only[abS,↓reduceIte,I4,c,f.Ad,(Ab:¬(5:Int)=6)];try rfl
 by_cases i:t.k=6
 .have j:¬¬t.ok:=by unfold MD.ok;omega
  rw[Ac j,Ac c,Ae i];obtain⟨h1,u,f,w1,d⟩:=Ũ w g;have s:b.Ky.Jn=b.Jn:=by unfold BS.Ky;split<;>rfl
  have VE:=w1.lds;rw[s] at VE;obtain⟨q,p,m⟩:=pv w1 b.Jn;refine⟨_,_,?_,p,d.trans m⟩;rw[Af,bL,t45];simp only[abS,↓reduceIte,I4,i,f.Ad,VE.2.2.1,q,(Ab:¬(6:Int)=5)];try rfl
 by_cases l:t.k=3
 .have j:¬¬t.ok:=by unfold MD.ok;omega
  rw[Ac j,Ac c,Ac i,Ae l];obtain⟨h1,u,f,w1,d⟩:=Ũ w g;have s:b.Ky.Jn=b.Jn:=by unfold BS.Ky;split<;>rfl
  have VE:=w1.lds;rw[s] at VE;obtain⟨q,p,m⟩:=pv w1 b.Jn;refine⟨_,_,?_,p,d.trans m⟩;rw[Af,bL,t45];simp only[abS,↓reduceIte,I4,l,f.Ad,VE.2.2.1,q,(Ab:¬(3:Int)=5),(Ab:¬(3:Int)=6)];try rfl
 have e:(if¬t.ok then(b,false) else if t.k=5 then(b.Sg t.r,false) else if t.k=6 then b.Ky.again b.Jn else if t.k=3 then({b.Ky with mode:=b.Jn},false) else(b,false))=(b,false):=by
  by_cases h0:¬t.ok;.rw[Ae h0]
  .rw[Ac h0,Ac c,Ac i,Ac l]
 rw[e];refine⟨_,_,?_,w,.refl⟩;rw[Af,bL,t45];simp only[abS,↓reduceIte,I4,l,c,i];try rfl
end
end Go.Am
end
section
end
