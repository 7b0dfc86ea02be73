/- Lemmas -/
import Derived.Test.YtjjnhgoknielgaaGreatDoorW24
set_option linter.all false
set_option maxRecDepth 100000
section
namespace Go.Am
open Go
section
variable{h h':Ai}{bi a ai:Nat}{o c t:Ab}{G G' F:Nat->Prop}{b b':BS}{x:Int}{m:Nat}
variable{nm:Ah}{av:Ab}{l:List Bj}{r:List Ab}{sp p:Int}{e:DH}{at_ mk last:Int}{anc far:Item}
def EH.find(hc:EH b.A3 c)(w:BX h bi a o c t G b)(rm:CH b m)(nm:Ah):CD cx 212 [Pt bi 3,.str nm] h (I (DT nm b.A3)) h:=by obtain⟨fs,MM,hv⟩:=hc;have ha:=rm.A3;have:=aKg w.ud hv (by rw[<-MM,Aw] at ha;omega) nm;rwa [kx,MM] at this
def Zo(Ÿ:h.length<=ai)(x:FC h (NO ai bi G) h' (NO ai bi G')):FC h (BU bi G) h' (BU bi G'):=
 ⟨x.len,λi hi hn=>x.old i hi λhg=>by
  rcases hg with rfl|hg
  .omega
  .exact hn hg,λi hi=>by
  rcases x.BU i (.inr hi) with(rfl|h)|h
  .exact .inr Ÿ
  .exact .inl h
  .exact .inr h⟩
def Zp{nm:Ah}{l:List Cn}(h:0<=DT nm l):∃p:Nat,∃hp:p<l.length,DT nm l=(p:Int):=by
 have key:∀r:List Cn,PJ nm r<r.length:=by
  intro r;induction r with
  |nil=>show(-1:Int)<0;decide
  |cons x r ih=>rw[PJ];simp only[AJ];split<;>(try split)<;>omega
 have:=key l.reverse;rw[LR] at this;refine⟨(DT nm l).toNat,?_,Ac⟩;unfold DT at h⊢;omega
def aBV{l:List Cn}{f:Nat}(hn:((l.map Cn.node).filter λn=>decide (n≠0)).Nodup)(hf:f<l.length)(h0:l[f].node≠0):FU l[f].node l=(f:Int):=by
 unfold FU;rw[Aa h0];refine Nt hf (by simp[VZ]) λj hj h=>?_;by_cases he:l[j].node=l[f].node
 .exfalso;have:l=l.take j++l[j]::l.drop (j+1):=by rw[<-AA hj,Br]
  rw[this,B3,AV,Be,HQ,Ae (by simpa[he] using h0),BY] at hn;have hm:l[f]∈l.take j:=CZ.2 ⟨f,Ac,rfl⟩;exact hn.2.2 l[f].node (BE.2 ⟨cA hm,by simpa using h0⟩) l[j].node AB he.symm
 .simp[VZ,he]
def qM{v:GX}:FC h (Am.NO ai bi G) (h.set ai v) (Am.NO ai bi G):=⟨by rw[Ci];exact Ad _,λi _ hn=>Aq λe=>hn (.inl e.symm),λ_ h=> .inl h⟩
def aHf(hc:h[ai]?=some (.cells (Gd e at_ mk anc far last)))(i:Item):Dd h 4 (Pt ai 5) (.agg i.row)=some (h.set ai (.cells (Gd e at_ mk i far last))):=by simp only[Dd,hc];rfl
def aHg(hc:h[ai]?=some (.cells (Gd e at_ mk anc far last)))(i:Item):Dd h 4 (Pt ai 9) (.agg i.row)=some (h.set ai (.cells (Gd e at_ mk anc i last))):=by simp only[Dd,hc];rfl
def aHh(hc:h[ai]?=some (.cells (Gd e at_ mk anc far last))):Bp h (some 3) (Pt ai 0)=some (.agg e.row):=by simp only[Bp,hc];rfl
def bC{A:Ar}{n x:Int}{l:List Int}:BS.DA A n (l++[x])=(BS.DA A n l).F9 n x 0:=by unfold BS.DA;rw[List.foldl_append];rfl
def aP0(w:BX h bi a o c t G b)(hc:EH b.A3 c)(ok:EC b)(rm:CH b (m+4*b.Au.length+10))(nm:Ah):
  ∃h' o' c' G',CD cx 216 [Pt bi 0,.str nm] h (.bool (b.round nm).1) h'/\BX h' bi a o' c' t G' (b.round nm).2/\EH (b.round nm).2.A3 c'/\FC h (BU bi G) h' (BU bi G'):=by
 have ho:=rm.Au;have pR:=rm.A3;have r1:=hc.find w rm nm;by_cases hf:DT nm b.A3<0
 .obtain⟨h2,o2,r2,U,x2⟩:=aK2 w rm nm;have e:b.round nm=(false,b.C1 nm):=by unfold BS.round;simp only;rw[Ae hf]
  have ea:(b.C1 nm).A3=b.A3:=by
   unfold BS.C1;split;.split<;>rfl
   .rfl
  rw[e];refine⟨h2,o2,c,G,?_,U,by rw[ea];exact hc,x2⟩;rw[Ag,PT,pV];simp only[abS,Nat.reduceLeDiff,↓reduceIte,Cl,r1.Af,hf,r2.Af]
 obtain⟨f,Jz,ef⟩:=Zp (Vu.1 hf);have ů:¬(f:Int)<0:=Ac;rw[ef] at r1;have Wt:=hc;obtain⟨fs,MM,hv⟩:=Wt;have aVI:b.A3.length=fs.length:=by rw[<-MM,Aw]
 have P:fs[f].c=b.A3[f]:=by simp only[<-MM,Ei]
 have l3:=w.l3;have e1:=Bx.DN (k:= .i64) hv (Ac:f<fs.length);generalize hfe:fs[f]=fe at*;have ı:b.A3.getD f Cn.zero=fe.c:=by rw[AL,Av Jz];exact P.symm
 have hv3:fe.v.cells=[fe.v]:=Bx.cells fe.ok;have w1:=w.L1 (u:=[.cells (Gd fe (f:Int) (f:Int) Item.zero Item.zero 0)]);have B:(h++[GX.cells (Gd fe (f:Int) (f:Int) Item.zero Item.zero 0)])[h.length]?=some (.cells (Gd fe (f:Int) (f:Int) Item.zero Item.zero 0)):=AB;have x1:FC h (BU bi G) (h++[GX.cells (Gd fe (f:Int) (f:Int) Item.zero Item.zero 0)]) (BU bi G):=w.EF;have Tx:¬BU bi G h.length:=by
  rintro(e|hg);.exact absurd w.lt Ac
  .exact absurd (w.w.lt hg) (DI _)
 obtain⟨H1,A⟩:∃H1,H1=h++[GX.cells (Gd fe (f:Int) (f:Int) Item.zero Item.zero 0)]:=⟨_,rfl⟩;rw[<-A] at w1 B x1;have l0:Bp H1 none (Pt h.length 0)=some (I fe.c.node):=At.load ⟨_,B,rfl⟩;have r2:=aZ w1.sA Ac fe.c.node;have WV:Gd fe (f:Int) (f:Int) Item.zero Item.zero 0=[I fe.c.node,.str fe.c.name,fe.v,I (f:Int),I (f:Int),I 0,I 0,S [],ff,I 0,I 0,S [],ff,I 0]:=rfl;rw[WV] at A;rw[DH.row] at e1;by_cases hk:AD (Bt fe.c.node) b.Au<0
 .obtain⟨h2,c2,r3,U,Mx,_,x2⟩:=lg w1 hc rm B Tx Jz ⟨Ac,Ac⟩ ⟨Ac,Ac⟩;have e:b.round nm=(false,{b with A3:=BA b.A3 f}):=by unfold BS.round;simp only;rw[Aa hf,ef,BH,ı,Ae hk]
  rw[e];refine⟨h2,o,c2,G,?_,U,Mx,Zo (Ad _) ((E7 x1 h.length).trans x2)⟩;rw[Ag,PT,pV];simp only[abS,Nat.reduceLeDiff,↓reduceIte,Cl,r1.Af,ů,l3,e1,<-A,l0,r2.Af,hk,r3.Af]
 obtain⟨k,ek⟩:∃k:Nat,AD (Bt fe.c.node) b.Au=(k:Int):=⟨_,(I7 (Vu.1 hk)).symm⟩;obtain⟨XX,hkq,_⟩:=Mk ek;have M:¬(k:Int)<0:=Ac;rw[ek] at r2;by_cases hkz:k=0
 .have e:b.round nm=(false,b):=by unfold BS.round;simp only;rw[Aa hf,ef,BH,ı,Aa hk,Ae (.inl (by rw[ek,hkz];rfl))]
  rw[e];refine⟨H1,o,c,G,?_,w1,hc,x1⟩;rw[Ag,PT,pV];simp only[abS,Nat.reduceLeDiff,↓reduceIte,Cl,r1.Af,ů,l3,e1,<-A,l0,r2.Af,M,BI (Ac:(k:Int)=0)]
 have aBW:¬(k:Int)=0:=Ac;have r3:=aKc w1.sA Ac 1 fe.c.node;by_cases zh:IC (Bt fe.c.node) (Im 1) b.Au.reverse=false
 .have e:b.round nm=(false,b):=by unfold BS.round;simp only;rw[Aa hf,ef,BH,ı,Aa hk,Ae (.inr zh)]
  rw[e];refine⟨H1,o,c,G,?_,w1,hc,x1⟩;rw[zh] at r3;rw[Ag,PT,pV];simp only[abS,Nat.reduceLeDiff,↓reduceIte,Cl,r1.Af,ů,l3,e1,<-A,l0,r2.Af,M,aBW,r3.Af]
 have aP1:IC (Bt fe.c.node) (Im 1) b.Au.reverse=true:=by simpa using zh
 rw[aP1] at r3;have r4:=aO5 w1.sA Ac fe.c.node;have hor:¬(AD (Bt fe.c.node) b.Au=0\/IC (Bt fe.c.node) (Im 1) b.Au.reverse=false):=by rw[ek];rintro(h|h);exact aBW h;exact zh h
 by_cases hfa:Ec fe.c.node b.Au<0
 .have e:b.round nm=(false,{b with Au:=Hq fe.c.node b.Au,A3:=BA b.A3 f}):=by unfold BS.round;simp only;rw[Aa hf,ef,BH,ı,Aa hk,Aa hor,Ae hfa]
  obtain⟨u,r5,hu⟩:=aKf w1.sO Ac fe.c.node;have U:=w1.PX hu;have Ĳ:(put H1 bi 2 u)[h.length]?=_:=(Da (λe=>Tx (.inl e))).trans B;obtain⟨h3,c3,r6,w3,cY,_,x3⟩:=lg U hc ((rm.le (m':=0) Ac).sub rfl Jm (BR _) (Ad _)) Ĳ Tx Jz ⟨Ac,Ac⟩ ⟨Ac,Ac⟩;rw[e];refine⟨h3,u,c3,G,?_,w3,cY,Zo (Ad _) ((E7 (x1.trans Cz) h.length).trans x3)⟩;rw[Ag,PT,pV];simp only[abS,Nat.reduceLeDiff,↓reduceIte,Cl,r1.Af,ů,l3,e1,<-A,l0,r2.Af,M,aBW,r3.Af,r4.Af,hfa,r5.Af,r6.Af]
 obtain⟨N,hN,eN⟩:∃N:Nat,k+1+N<b.Au.length/\Ec fe.c.node b.Au=((k+1+N:Nat):Int):=by
  have aHi:=hfa;rw[Me,Aa hk,ek,BH] at aHi⊢;unfold Gy at aHi⊢;split at aHi;.rename_i j hj;have:=(LS.1 hj).1;rw[A4] at this;exact⟨j,Ac,Ac⟩
  .omega
 obtain⟨d,hfb⟩:∃d,d=b.Au[k+1+N]:=⟨_,rfl⟩;obtain⟨an,han⟩:∃an,an=b.Au[k-1]'(by omega):=⟨_,rfl⟩;have hgf:b.Au.getD (k+1+N) Item.zero=d:=by rw[AL,Av hN,hfb];rfl
 have hga:b.Au.getD (k-1) Item.zero=an:=by rw[AL,Av Ac,han];rfl
 have e:b.round nm=(true,BS.IX fe.c d.node an.node (BS.Np d.node an.node (k+1+N) k N (b,d.node,f))):=by
  unfold BS.round;simp only
  rw[Aa hf,ef,BH,ı,Aa hk,Aa hor,Aa hfa,ek,eN,BH,BH,hgf,hga,(Ac:k+1+N-1 -k=N)]
 have aBX:=ok.op d (by rw[hfb];exact AG _);have aP2:b.Au[k].node=fe.c.node:=by simpa[Bt] using hkq
 have aLk:b.a.has fe.c.node:=by rw[<-aP2];exact(ok.op _ (AG _)).1
 have aP3:b.A3[f].node≠0:=by rw[<-P];have:=aLk.1;omega
 have uz:=aBV ok.xt Jz aP3;rw[<-P] at uz;have RI:=rm.Es _ (AG Jz);rw[<-P] at RI;have uC:=Ol (n:=k) Ac Ac;have r5:=WD w1.sA ((k-1:Nat):Int);rw[IK Ac,<-han] at r5;have r6:=WD w1.sA ((k+1+N:Nat):Int);rw[IK hN,<-hfb] at r6;have s5:=aHf B an;have qw:h.length<H1.length:=(Aj.1 B).1;have hbn:h.length≠bi:=λe=>Tx (.inl e);have Ĳ:(H1.set h.length (.cells (Gd fe f f an Item.zero 0)))[h.length]?=_:=AI qw;have U:BX (H1.set h.length (.cells (Gd fe f f an Item.zero 0))) bi a o c t G b:=w1.FV λj hj=>Aq λe=>Tx (by rw[e];exact hj);have x2:=(E7 x1 h.length).trans (qM (v:= .cells (Gd fe f f an Item.zero 0)));generalize H1.set h.length (.cells (Gd fe f f an Item.zero 0))=H2 at*;have s6:=aHg Ĳ d;have uB:h.length<H2.length:=(Aj.1 Ĳ).1;have Z:(H2.set h.length (.cells (Gd fe f f an d 0)))[h.length]?=_:=AI uB;have w3:BX (H2.set h.length (.cells (Gd fe f f an d 0))) bi a o c t G b:=U.FV λj hj=>Aq λe=>Tx (by rw[e];exact hj);have x3:=x2.trans (qM (v:= .cells (Gd fe f f an d 0)));generalize H2.set h.length (.cells (Gd fe f f an d 0))=H3 at*;have l9:Bp H3 none (Pt h.length 9)=some (I d.node):=At.load ⟨_,Z,rfl⟩;have t13:At H3 h.length 13 (I 0):=⟨_,Z,rfl⟩;have s7:=t13.store (u:= I d.node) rfl;have st4:=KC (k:=13) (v:= I d.node) Z;have w4:BX (put H3 h.length 13 (I d.node)) bi a o c t G b:=w3.FV λj hj=>Da λe=>Tx (by rw[<-e];exact hj);have x4:=x3.trans (Q3 (k:=13) (v:= I d.node));generalize put H3 h.length 13 (I d.node)=H4 at*;have i0:qL H4 bi a h.length t G fe an d k N (m+10) (b,d.node,f) N H4 o c G (b,d.node,f):=
  ⟨Ad _,w4,hc,ok,rm.le Ac,aBX.1,by rw[uz];exact st4,Tx,.refl,by rw[uz];omega,by show f<=1000000000;omega,rfl,FY,rfl,aLk⟩
 have le0:=(iP (blk:=d.node) (anc:=an.node) (far:=k+1+N) (k:=k) (c:=N) (s:=(b,d.node,f)) ok aBX.1).2.2;obtain⟨h5,o5,c5,G5,s',r7,es,i⟩:=aLf i0 Ac ek hN;rw[<-es] at le0 e;obtain⟨q,hq,Ĥ,hq0,hq2,hq3⟩:=KW i.xl;have L:=i.st;rw[Ĥ] at L;have hmk:=i.mkb;have Ê:h.length≠bi:=hbn;have l5:Bp h5 none (Pt h.length 5)=some (I an.node):=At.load ⟨_,L,rfl⟩;obtain⟨u6,r8⟩:=aBM i.w i.ok i.rm an.node;have w6:=i.w.L1 (u:=u6);have w6':=i.w.EF (u:=u6);have hl5:h.length<h5.length:=(Aj.1 L).1;have st6:(h5++u6)[h.length]?=_:=(Al hl5).trans L;have l13:Bp (h5++u6) none (Pt h.length 13)=some (I s'.2.1):=At.load ⟨_,st6,rfl⟩;have hl6:h.length<(h5++u6).length:=by rw[An];omega
 obtain⟨h7,G7,r9,w7,x7⟩:=wJ (x:=s'.2.1) (p:=(s'.1.place an.node).1) (bf:=(s'.1.place an.node).2) w6 i.ok i.rm;have hn7:¬BU bi G7 h.length:=λhg=>by
  rcases x7.BU h.length hg with hg|hg
  .exact i.hn hg
  .omega
 have K:h7[h.length]?=_:=(x7.old h.length hl6 i.hn).trans st6;have l3b:Bp h7 (some 3) (Pt h.length 0)=some (.agg fe.row):=aHh K;have l9b:Bp h7 none (Pt h.length 9)=some (I d.node):=At.load ⟨_,K,rfl⟩;obtain⟨r,r10,hr⟩:=į fe h7;have le7:Le s'.1.a (s'.1.a.Et s'.2.1 (s'.1.place an.node).1 (s'.1.place an.node).2):=JK;have ok7:=i.ok.I5 (PM (n:=s'.2.1) (p:=(s'.1.place an.node).1) (b:=(s'.1.place an.node).2) i.ok.ok) le7;have rm7:=i.rm.I5 (O0 (x:=s'.2.1) (p:=(s'.1.place an.node).1) (bf:=(s'.1.place an.node).2));obtain⟨b2,Qq⟩:∃b2,b2={s'.1 with a:=s'.1.a.Et s'.2.1 (s'.1.place an.node).1 (s'.1.place an.node).2}:=⟨_,rfl⟩;have y5:b2.Au=s'.1.Au:=by rw[Qq]
 have Mx:b2.A3=s'.1.A3:=by rw[Qq]
 have le2:Le s'.1.a b2.a:=by rw[Qq];exact le7
 rw[<-Qq] at w7 ok7 rm7;obtain⟨T,G8,r11,w8,x8⟩:=aG9 (m:=m+7) w7 ok7 (rm7.le Ac) hr fe.ok RI.2 RI.1 d.node 1;obtain⟨C,fr,le8⟩:=Qf (nm:=fe.c.name) (at_:=fe.c.As) (p:=d.node) ok7 KG;have H:=RJ (m:=m+7) (nm:=fe.c.name) (l:=fe.c.As) (sp:=1) (p:=d.node) (rm7.le Ac) RI.2;obtain⟨g,hnw⟩:∃g,g=b2.HA fe.c.name fe.c.As 1:=⟨_,rfl⟩;obtain⟨b3,O⟩:∃b3,b3=b2.Gf fe.c.name fe.c.As 1 d.node:=⟨_,rfl⟩;have ho3:b3.Au=s'.1.Au:=by rw[O,<-y5];unfold BS.Gf;rw[Ae KG]
 have cY:b3.A3=s'.1.A3:=by rw[O,<-Mx];unfold BS.Gf;rw[Ae KG]
 rw[<-hnw] at r11 fr;rw[<-O] at w8 C fr le8 H;have hl7:h.length<h7.length:=(Aj.1 K).1;have hn8:¬BU bi G8 h.length:=λhg=>by
  rcases x8.BU h.length hg with hg|hg
  .exact hn7 hg
  .omega
 have Y:T[h.length]?=_:=(x8.old h.length hl7 hn7).trans K;have l9c:Bp T none (Pt h.length 9)=some (I d.node):=At.load ⟨_,Y,rfl⟩;obtain⟨kv,r12,hkv⟩:∃v,CD cx 12 [Pt a 0,I d.node] T v T/\IY (b3.a.nd d.node).Bi v:=by obtain⟨n',m',ps,wa⟩:=w8.w.pa;exact ki wa H.WA (H.WA.Bi C.ok d.node)
 have aVQ:(b3.a.nd d.node).Bi.length<=1000000000:=H.WA.Bi C.ok d.node;have WW:g.row=[I g.node,I g.Bd,.str g.name,.bool g.QT]:=rfl;rw[DH.row] at r10 l3b;have Ql:Ev cx 216 [Pt bi 0,.str nm] h λr h'=>r= .bool true/\∃o' c' G',BX h' bi a o' c' t G' (BS.IX fe.c d.node an.node s')/\EH (BS.IX fe.c d.node an.node s').A3 c'/\FC h (BU bi G) h' (BU bi G'):=by
  unfold Ev;rw[PT,pV];simp only[abS,Nat.reduceLeDiff,↓reduceIte,Cl,r1.Af,ů,l3,e1,<-A,l0,r2.Af,M,aBW,r3.Af,r4.Af,eN,(Ac:¬((k+1+N:Nat):Int)<0),uC,r5.Af,r6.Af,s5,s6,l9,s7];simp only[abS,r7.Af,l5,r8.Af];simp only[abS,l13,r9.Af];simp only[Cy,l3b,l9b];simp only[abS,↓reduceIte,Ly,r10.Af,DJ,r11.Af,l9b];simp only[Cy,w8.l0,l9c,r12.Af,Bx.GN hkv];have x8':FC h (NO h.length bi G) T (NO h.length bi G8):=(((x4.trans i.x).trans (E7 w6' h.length)).trans (E7 x7 h.length)).trans (E7 x8 h.length);refine Gc (i:=0) (λj:Nat=>[I (j:Int)]) (λj J=>j<=(b3.a.nd d.node).Bi.length/\∃Q,BX J bi a o5 c5 t Q {b3 with a:=BS.DA b3.a g.node ((b3.a.nd d.node).Bi.take j)}/\EC {b3 with a:=BS.DA b3.a g.node ((b3.a.nd d.node).Bi.take j)}/\CH {b3 with a:=BS.DA b3.a g.node ((b3.a.nd d.node).Bi.take j)} (m+7)/\FC T (BU bi G8) J (BU bi Q)) (λj=>(b3.a.nd d.node).Bi.length-j)
   (λj J=>j=(b3.a.nd d.node).Bi.length/\∃Q,BX J bi a o5 c5 t Q {b3 with a:=BS.DA b3.a g.node ((b3.a.nd d.node).Bi.take j)}/\EC {b3 with a:=BS.DA b3.a g.node ((b3.a.nd d.node).Bi.take j)}/\CH {b3 with a:=BS.DA b3.a g.node ((b3.a.nd d.node).Bi.take j)} (m+7)/\FC T (BU bi G8) J (BU bi Q)) 0 rfl ⟨Bn _,G8,w8,C,H,.refl⟩ ?_ ?_
  .rintro j J ⟨hj,Q,w9,z,y,x9⟩;rcases Bm j (b3.a.nd d.node).Bi.length with hlt|JA
   .have e9:=Bx.DN (k:= .i64) hkv hlt;obtain⟨eA,R,r13,E,D⟩:=wJ (x:=(b3.a.nd d.node).Bi[j]) (p:=g.node) (bf:=0) w9 z y;have lej:=(KB (n:=g.node) (l:=(b3.a.nd d.node).Bi.take j) C.ok).2;rw[Vk (by show((BS.DA b3.a g.node ((b3.a.nd d.node).Bi.take j)).nd g.node).kind=4;rw[lej.kind _ fr.has];exact fr.kind)] at E;have hs:BS.DA b3.a g.node ((b3.a.nd d.node).Bi.take (j+1))=(BS.DA b3.a g.node ((b3.a.nd d.node).Bi.take j)).F9 g.node (b3.a.nd d.node).Bi[j] 0:=by rw[Bb hlt,bC]
    rw[Di] at e9;simp only[abS,(Ac:(j:Int)<((b3.a.nd d.node).Bi.length:Int)),e9,r13.Af,DB (Ac:j<9223372036854775807)];refine .next (j+1) rfl ⟨hlt,R,by rw[hs];exact E,?_,?_,x9.trans D⟩ Ac
    .have:=z.I5 (N5 (p:=g.node) (n:=(b3.a.nd d.node).Bi[j]) (b:=0) z.ok) Hs;rw[hs];exact this
    .have:=y.I5 (LH (p:=g.node) (x:=(b3.a.nd d.node).Bi[j]) (bf:=0));rw[hs];exact this
   .simp only[abS,(Ac:¬(j:Int)<((b3.a.nd d.node).Bi.length:Int))];exact .If j rfl ⟨Ac,Q,w9,z,y,x9⟩
  .rintro j J ⟨rfl,Q,w9,z,y,x9⟩;rw[Bl] at w9 z y;have hl8:h.length<T.length:=(Aj.1 Y).1;have hn9:¬BU bi Q h.length:=λhg=>by
    rcases x9.BU h.length hg with hg|hg
    .exact hn8 hg
    .omega
   have X:J[h.length]?=_:=(x9.old h.length hl8 hn8).trans Y;have l9d:Bp J none (Pt h.length 9)=some (I d.node):=At.load ⟨_,X,rfl⟩;have le9:=(KB (n:=g.node) (l:=(b3.a.nd d.node).Bi) C.ok).2;have lef:Le b.a (BS.DA b3.a g.node (b3.a.nd d.node).Bi):=((le0.trans le2).trans le8).trans le9;obtain⟨eA,R,r13,E,D⟩:=wJ (x:=g.node) (p:=d.node) (bf:=0) w9 z y;rw[Vk (by show((BS.DA b3.a g.node (b3.a.nd d.node).Bi).nd d.node).kind=4;rw[lef.kind _ aBX.1];exact aBX.2.1)] at E;have hl9:h.length<J.length:=(Aj.1 X).1;have aP8:¬BU bi R h.length:=λhg=>by
    rcases D.BU h.length hg with hg|hg
    .exact hn9 hg
    .omega
   have aLq:eA[h.length]?=_:=(D.old h.length hl9 hn9).trans X;have l3c:Bp eA none (Pt h.length 3)=some (I (q:Int)):=At.load ⟨_,aLq,rfl⟩;have aP9:=y.I5 (LH (p:=d.node) (x:=g.node) (bf:=0));have aQa:EH ({b3 with a:=(BS.DA b3.a g.node (b3.a.nd d.node).Bi).F9 d.node g.node 0}:BS).A3 c5:=by simp only;rw[cY];exact i.hc
   have hqa:=i.rm.A3;obtain⟨Te,zO,r14,W,aLr,aBY,x11⟩:=lg E aQa aP9 aLq aP8 (k:=q) (by simp only;rw[cY];exact hq) ⟨Ac,Ac⟩ ⟨Ac,Ac⟩;simp only at W aLr;have l1:Bp Te none (Pt h.length 1)=some (.str fe.c.name):=At.load ⟨_,aBY,rfl⟩;have l2:Bp Te none (Pt h.length 2)=some fe.v:=At.load ⟨_,aBY,rfl⟩;have l4:Bp Te none (Pt h.length 4)=some (I (down q (s'.2.2:Int))):=At.load ⟨_,aBY,rfl⟩;obtain⟨fs2,aHl,WU⟩:=aLr;have aVW:b3.A3.length=s'.1.A3.length:=by rw[cY]
   have aVX:fs2.length<=900000000:=by have h1:=B6 List.length aHl;rw[Aw,Kr (by rw[cY];exact hq)] at h1;omega
   have aPY:=RI.2.1;obtain⟨u1,e2,he2,r15,gD⟩:=aPg (h:=Te) (id:=bi) (o:=3) (l:=fs2) ⟨zO,W.ud,WU⟩ Ac (e:=⟨{fe.c with node:=g.node},fe.v,fe.ok⟩) (by unfold xo;simp only;omega) (down q (s'.2.2:Int));have aQc:CD cx 254 [Pt bi 3,.agg [I g.node,.str fe.c.name,fe.v],I (down q (s'.2.2:Int))] Te (.tuple []) (put Te bi 3 u1):=r15;obtain⟨kW,uy⟩:∃kW:Nat,kW=if q<s'.2.2 then s'.2.2 -1 else s'.2.2:=⟨_,rfl⟩
   have ĳ:down q (s'.2.2:Int)=(kW:Int):=by rw[uy];unfold down;split<;>split<;>omega
   have w12:=W.Ub (u:=u1) (l:=(BA b3.A3 q).take (Hr kW (BA b3.A3 q).length)++{fe.c with node:=g.node}::(BA b3.A3 q).drop (Hr kW (BA b3.A3 q).length));have aQd:EH ((BA b3.A3 q).take (Hr kW (BA b3.A3 q).length)++{fe.c with node:=g.node}::(BA b3.A3 q).drop (Hr kW (BA b3.A3 q).length)) u1:=by refine⟨_,?_,gD⟩;rw[ĳ,B3,AV,HN,Mu,aHl,he2,<-aHl,Aw]
   have hob:=i.rm.Au;obtain⟨u2,r16,TM⟩:=aBH w12.sO (by simp only;rw[ho3];omega) fe.c.node;have V:=w12.PX TM;have tL:(Cg fe.c.node b3.Au).length<=s'.1.Au.length:=by rw[<-ho3];exact EL.length_le
   have aQf:(put (put Te bi 3 u1) bi 2 u2)[h.length]?=_:=(Da Ê).trans ((Da Ê).trans aBY);have l9e:Bp (put (put Te bi 3 u1) bi 2 u2) none (Pt h.length 9)=some (I d.node):=At.load ⟨_,aQf,rfl⟩;have r17:=aZ V.sA FY d.node;have hli: -1<=AD (Bt d.node) (Cg fe.c.node b3.Au)/\AD (Bt d.node) (Cg fe.c.node b3.Au)<=(Cg fe.c.node b3.Au).length:=by rcases BZ (q:=Bt d.node) (l:=Cg fe.c.node b3.Au) with⟨h,_⟩|⟨n,h1,h2,_⟩<;>omega
   have add:=RE (a:=AD (Bt d.node) (Cg fe.c.node b3.Au)) (b:=1) Ac Ac;obtain⟨u3,r18,hu3⟩:=aPa V.sO FY g (AD (Bt d.node) (Cg fe.c.node b3.Au)+1);have w14:=V.PX hu3;simp only[abS,Nat.reduceLeDiff,↓reduceIte,Cl,Ly,l9d,r13.Af,l3c,r14.Af,l1,l2,hv3,l4,aQc.Af,r16.Af,l9e,r17.Af,add,r18.Af];have hE:BS.IX fe.c d.node an.node s'={b3 with a:=(BS.DA b3.a g.node (b3.a.nd d.node).Bi).F9 d.node g.node 0,A3:=(BA b3.A3 q).take (Hr kW (BA b3.A3 q).length)++{fe.c with node:=g.node}::(BA b3.A3 q).drop (Hr kW (BA b3.A3 q).length),Au:=(Cg fe.c.node b3.Au).take (H0 (AD (Bt d.node) (Cg fe.c.node b3.Au)+1) (Cg fe.c.node b3.Au).length)++g::(Cg fe.c.node b3.Au).drop (H0 (AD (Bt d.node) (Cg fe.c.node b3.Au)+1) (Cg fe.c.node b3.Au).length)}:=by
    have hq':FU fe.c.node b3.A3=(q:Int):=by rw[cY];exact Ĥ
    unfold BS.IX;simp only
    rw[<-Qq,<-O,<-hnw,hq',BH,<-uy]
   rw[hE];refine⟨_,rfl,rfl,u3,u1,R,w14,aQd,Zo (Ad _) ?_⟩;exact((((x8'.trans (E7 (x9.trans D) h.length)).trans x11).trans (E7 Cz h.length)).trans (E7 Cz h.length)).trans (E7 Cz h.length)
 obtain⟨r,h',hr,rfl,o',c',G',w',Wt,x'⟩:=Ql.ret;rw[e];exact⟨h',o',c',G',hr,w',Wt,x'⟩
end
section
variable{h h':Ai}{bi a ai:Nat}{o c t:Ab}{G G' F:Nat->Prop}{b b':BS}{x:Int}{m:Nat}
variable{nm:Ah}{av:Ab}{l:List Bj}{r:List Ab}{sp p:Int}{e:DH}{at_ mk last:Int}{anc far:Item}
def u_{blk anc:Int}{far i:Nat}{l:Int}{mk:Nat}:(BS.Gu blk anc far i b l mk).1.Au.length<=b.Au.length:=by
 have h1:(BA b.Au i).length<=b.Au.length:=CO.length_le;unfold BS.Gu;simp only
 split;.exact h1
 .split;.exact h1
  .have NV:∀nm l p,(b.Gf nm l 1 p).Au=b.Au:=λnm l p=>by unfold BS.Gf;rw[Ae KG]
   simp only[NV,Ci];exact Ad _
def eI{blk anc:Int}{far k m:Nat}:∀{c:Nat} {s:BS×Int×Nat},CH s.1 (m+4*c)->CH (BS.Np blk anc far k c s).1 m/\(BS.Np blk anc far k c s).1.Au.length<=s.1.Au.length
 |0,s,r=>⟨r.le Ac,Ad _⟩
 |c+1,s,r=>by have d:=Zn (blk:=blk) (anc:=anc) (far:=far) (i:=k+(c+1)) (l:=s.2.1) (mk:=s.2.2) (m:=m+4*c) (r.le Ac);have h:=eI (blk:=blk) (anc:=anc) (far:=far) (k:=k) (m:=m) (c:=c) (s:=BS.Gu blk anc far (k+(c+1)) s.1 s.2.1 s.2.2) d;exact⟨h.1,Bw h.2 u_⟩
def qN{fe:Cn}{blk anc:Int}{s:BS×Int×Nat}(r:CH s.1 (m+4))(RI:fe.name.length<=1000/\GQ fe.As):CH (BS.IX fe blk anc s) m/\(BS.IX fe blk anc s).Au.length<=s.1.Au.length+1:=by
 unfold BS.IX;simp only
 generalize xw:s.1.place anc=pb;have j:=r.I5 (O0 (x:=s.2.1) (p:=pb.1) (bf:=pb.2));generalize Qq:({s.1 with a:=s.1.a.Et s.2.1 pb.1 pb.2}:BS)=b2 at j;have y5:b2.Au=s.1.Au:=by rw[<-Qq]
 have d:=RJ (m:=m+1) (nm:=fe.name) (l:=fe.As) (sp:=1) (p:=blk) (j.le Ac) RI.2;have NV:(b2.Gf fe.name fe.As 1 blk).Au=b2.Au:=by unfold BS.Gf;rw[Ae KG]
 have g:(b2.HA fe.name fe.As 1).name.length<=1000:=T2 RI.1;generalize b2.Gf fe.name fe.As 1 blk=b3 at*;generalize b2.HA fe.name fe.As 1=n at*;have q:=d.I5 ((Si (n:=n.node) (l:=(b3.a.nd blk).Bi)).trans (LH (p:=blk) (x:=n.node) (bf:=0)));have Mw:∀{U:Type} (l:List U) (k:Nat) (y:U),(l.take k++y::l.drop k).length=l.length+1/\∀z∈l.take k++y::l.drop k,z∈l\/z=y:=λl k y=>⟨by rw[An,AJ,Ax,A4];omega,λz hz=>by
  rcases Ao.1 hz with hz|hz
  .exact .inl (A9 hz)
  .rcases AF.1 hz with rfl|hz
   .exact .inr rfl
   .exact .inl (A6 hz)⟩
 have hr:=EL (n:=fe.node) (l:=b3.Au);have hd:=CO (l:=b3.A3) (k:=(FU fe.node b3.A3).toNat);have f:=q.le (m':=m) Ac;refine⟨⟨f.n,f.at_,f.data,?_,?_,f.tm,λe he=>?_,λi hi=>?_⟩,?_⟩;.simp only[(Mw _ _ _).1];have:=hr.length_le;have:=d.Au;omega
 .simp only[(Mw _ _ _).1];have:=hd.length_le;have:=d.A3;omega
 .rcases(Mw _ _ _).2 e he with he|rfl
  .exact d.Es e (hd.subset he)
  .exact RI
 .rcases(Mw _ _ _).2 i hi with hi|rfl
  .exact d.vO i (hr.subset hi)
  .exact g
 .simp only[(Mw _ _ _).1];have h1:=hr.length_le;have h2:=B6 List.length (NV.trans y5);omega
def Zq(r:CH b (m+4*b.Au.length+10))(nm:Ah):CH (b.round nm).2 m/\(b.round nm).2.Au.length<=b.Au.length+1:=by
 have d:CH b m:=r.le Ac;unfold BS.round;simp only
 split
 .have key:(b.C1 nm).a=b.a/\List.Sublist (b.C1 nm).Au b.Au/\(b.C1 nm).A3=b.A3/\(b.C1 nm).tm=b.tm:=by
   unfold BS.C1;split
   .split;.exact⟨rfl,Jm.trans Dh,rfl,rfl⟩
    .exact⟨rfl,BR _,rfl,rfl⟩
   .exact⟨rfl,BR _,rfl,rfl⟩
  exact⟨d.sub key.1 key.2.1 (by rw[key.2.2.1];exact BR _) (by rw[key.2.2.2];exact Ad _),Bw key.2.1.length_le (F6 _)⟩
 .rename_i hf;obtain⟨f,Jz,g⟩:=Zp (Vu.1 hf);have ı:b.A3.getD (DT nm b.A3).toNat Cn.zero=b.A3[f]:=by rw[g,BH,AL,Av Jz];rfl
  have RI:=r.Es _ (AG Jz);rw[ı];split;.exact⟨d.sub rfl (BR _) CO (Ad _),F6 _⟩
  .split;.exact⟨d,F6 _⟩
   .split;.exact⟨d.sub rfl Jm CO (Ad _),Bw Jm.length_le (F6 _)⟩
    .rename_i hk _ hfa;have hlt:(Ec b.A3[f].node b.Au).toNat-1 -(AD (Bt b.A3[f].node) b.Au).toNat<=b.Au.length:=by
      rw[Me];split;.omega
      .unfold Gy;split;.rename_i j hj;have:=(LS.1 hj).1;rw[A4] at this;omega
       .omega
     have h1:=eI (blk:=(b.Au.getD (Ec b.A3[f].node b.Au).toNat Item.zero).node) (anc:=(b.Au.getD ((AD (Bt b.A3[f].node) b.Au).toNat-1) Item.zero).node) (far:=(Ec b.A3[f].node b.Au).toNat) (k:=(AD (Bt b.A3[f].node) b.Au).toNat) (m:=m+4) (c:=(Ec b.A3[f].node b.Au).toNat-1 -(AD (Bt b.A3[f].node) b.Au).toNat) (s:=(b,(b.Au.getD (Ec b.A3[f].node b.Au).toNat Item.zero).node,(DT nm b.A3).toNat)) (r.le Ac);have h2:=qN (fe:=b.A3[f]) (blk:=(b.Au.getD (Ec b.A3[f].node b.Au).toNat Item.zero).node) (anc:=(b.Au.getD ((AD (Bt b.A3[f].node) b.Au).toNat-1) Item.zero).node) h1.1 RI;exact⟨h2.1,Bw h2.2 (Nat.succ_le_succ h1.2)⟩
def Q4:∀{n:Nat} {b:BS} {k:Nat},b.Au.length<=k->CH b (m+n*(4*(k+n)+10))->CH (BS.Gp n b nm) m/\(BS.Gp n b nm).Au.length<=k+n
 |0,b,k,hk,r=>⟨r.le Ac,hk⟩
 |n+1,b,k,hk,r=>by
  have e:(n+1)*(4*(k+(n+1))+10)=n*(4*(k+1+n)+10)+(4*(k+(n+1))+10):=by rw[BK,EW,(Ac:k+(n+1)=k+1+n)]
  rw[e] at r;have h1:=Zq (m:=m+n*(4*(k+1+n)+10)) (r.le Ac) nm;unfold BS.Gp;simp only
  split;.have h2:=Q4 (n:=n) (k:=k+1) Ac h1.1;exact⟨h2.1,Ac⟩
  .exact⟨h1.1.le Ac,Ac⟩
def aQg(w:BX h bi a o c t G b)(hc:EH b.A3 c)(ok:EC b)(rm:CH b (m+8*(4*(b.Au.length+8)+10)))(nm:Ah):
  ∃h' o' c' G',CD cx 157 [Pt bi 0,.str nm] h (.tuple []) h'/\BX h' bi a o' c' t G' (b.C7 nm)/\EH (b.C7 nm).A3 c'/\FC h (BU bi G) h' (BU bi G'):=by
 have ho:=rm.Au;have D:=aG8 w rm;have em:AE (.Cb 1) [.str nm]=some (.sl 1 ([nm].map Cw)):=Fp (ws:=[nm]) rfl AB;have r2:CD cx 164 [.agg (DP b.Au).row,.sl 1 ([nm].map Cw)] h (.bool (AH [nm] (DP b.Au))) h:=ue (ws:=[nm]) Dl AB _ h;have K:=hc.at w rm (DP b.Au).node;have J:b.FB.A3=b.A3:=by unfold BS.FB;split<;>rfl
 by_cases h1:AH [nm] (DP b.Au)=true/\FU (DP b.Au).node b.A3<0
 .obtain⟨h2,v,N,s,q⟩:=aLa w rm;have e:b.C7 nm=b.FB:=by unfold BS.C7;rw[Ae h1]
  rw[e];refine⟨h2,v,c,G,?_,s,by rw[J];exact hc,q⟩;rw[h1.1] at r2;rw[Ag,jH,aBi];simp only[abS,Ly,(Jp w).Af,D.Af,em,r2.Af,K.Af,h1.2,N.Af]
 have e:b.C7 nm=BS.Gp 8 b nm:=by unfold BS.C7;rw[Aa h1]
 rw[e];have Ql:Ev cx 157 [Pt bi 0,.str nm] h λr h'=>r= .tuple []/\∃o' c' G',BX h' bi a o' c' t G' (BS.Gp 8 b nm)/\EH (BS.Gp 8 b nm).A3 c'/\FC h (BU bi G) h' (BU bi G'):=by
  unfold Ev;rw[jH,aBi];have If:∀(Q:Lt) (k:GD->List Ab->IT),(∀x vs h1,(x= .exit 0\/x= .ret)->(∃o' c' G',BX h1 bi a o' c' t G' (BS.Gp 8 b nm)/\EH (BS.Gp 8 b nm).A3 c'/\FC h (BU bi G) h1 (BU bi G'))->W cx (k x vs) Q h1)->
    W cx (.loop 5 [I 0] (λd=> .op (.int .lss) [g d 0,I 8] λv14=> .A0 v14 (.call 216 [Pt bi 0,.str nm] λC=> .op (.un .not) [C] λv16=> .A0 v16 (.ret .ret [g d 0]) (.op (.int .add) [g d 0,I 1] λB=> .ret .normal [B])) (.ret (.exit 0) [g d 0])) k) Q h:=by
   intro Q k hk;refine Cv (λn:Nat=>[I ((8 -n:Nat):Int)]) (λn h1=>n<=8/\∃H y z b1,BX h1 bi a H y t z b1/\EH b1.A3 y/\EC b1/\CH b1 (m+n*(4*(b.Au.length+8)+10))/\b1.Au.length<=b.Au.length+(8 -n)/\BS.Gp 8 b nm=BS.Gp n b1 nm/\FC h (BU bi G) h1 (BU bi z)) (λn=>n) 8 rfl ⟨Ad _,o,c,G,b,w,hc,ok,rm,Ac,rfl,.refl⟩ ?_;rintro n h1 ⟨hn,H,y,z,b1,w1,aL,RO,f,qw,j,A⟩;cases n with
   |zero=>simp only[abS,(Az:¬((8 -0:Nat):Int)<8)];exact hk _ _ _ (.inl rfl) ⟨H,y,z,by rw[j];exact w1,by rw[j];exact aL,A⟩
   |succ n=>
    have hsp:(n+1)*(4*(b.Au.length+8)+10)=n*(4*(b.Au.length+8)+10)+(4*(b.Au.length+8)+10):=by rw[BK,EW]
    rw[hsp] at f;have aLs:CH b1 (m+n*(4*(b.Au.length+8)+10)+4*b1.Au.length+10):=f.le Ac;obtain⟨h2,v,L,M,u,s,Mx,q⟩:=aP0 w1 aL RO aLs nm;obtain⟨wK,uB⟩:=Zq aLs nm;have E:=(Y4 (nm:=nm) RO).1;have hlt:((8 -(n+1):Nat):Int)<8:=Ac;have inc:AE (.int .add) [I ((8 -(n+1):Nat):Int),I 1]=some (I ((8 -n:Nat):Int)):=by have:=DB (n:=8 -(n+1)) Ac;rwa [(Ac:8 -(n+1)+1=8 -n)] at this
    have i:BS.Gp (n+1) b1 nm=if(b1.round nm).1 then BS.Gp n (b1.round nm).2 nm else(b1.round nm).2:=rfl
    cases hr:(b1.round nm).1 with
    |true=>rw[hr] at u i;simp only[abS,hlt,u.Af,inc];exact By.next n rfl ⟨Ac,v,L,M,_,s,Mx,E,wK,Ac,j.trans i,A.trans q⟩ Ac
    |false=>rw[hr] at u i;simp only[abS,hlt,u.Af];exact hk _ _ _ (.inr rfl) ⟨v,L,M,by rw[j,i];exact s,by rw[j,i];exact Mx,A.trans q⟩
  by_cases h2:AH [nm] (DP b.Au)=true
  .have h3:¬FU (DP b.Au).node b.A3<0:=λh=>h1 ⟨h2,h⟩;rw[h2] at r2;simp only[abS,Ly,(Jp w).Af,D.Af,em,r2.Af,K.Af,h3];refine If _ _ ?_;rintro x vs h1 (rfl|rfl) ⟨o',c',G',a1,a2,a3⟩;.simp only[Cy];exact⟨_,rfl,rfl,o',c',G',a1,a2,a3⟩
   .simp only[Cy];exact⟨_,rfl,rfl,o',c',G',a1,a2,a3⟩
  .have h2:AH [nm] (DP b.Au)=false:=by simpa using h2
   rw[h2] at r2;simp only[abS,Ly,(Jp w).Af,D.Af,em,r2.Af];refine If _ _ ?_;rintro x vs h1 (rfl|rfl) ⟨o',c',G',a1,a2,a3⟩;.simp only[Cy];exact⟨_,rfl,rfl,o',c',G',a1,a2,a3⟩
   .simp only[Cy];exact⟨_,rfl,rfl,o',c',G',a1,a2,a3⟩
 obtain⟨r,h',hr,rfl,o',c',G',w',Wt,x'⟩:=Ql.ret;exact⟨h',o',c',G',hr,w',Wt,x'⟩
end
structure BOp where
 k:Int
 name:Ah
 As:List Bj
 Bd:Int
 a:Int
 b:Bool
 s:Ah
 r:Int
 n:Int
section
variable{b:BS}{q:BOp}{m j:Nat}
def kX(o:EC b):EC {b with A3:=b.A3++[Cn.zero]}:=by have:=o.aEY (e:=Cn.zero) (k:=b.A3.length) (.inl rfl) (.inl rfl);rw[Bl,FA] at this;exact this
def CH.lj{k m:Nat}{h:Int}{x:HK}(r:CH b (m+k))(h1:x.As.length<=(b.a.nd h).As.length+k\/x.As.length<=1000)(h2:x.data.length<=(b.a.nd h).data.length+k\/x.data.length<=100000):CH {b with a:=b.a.set h x} m:=by
 have hn:(b.a.set h x).n.length=b.a.n.length:=by have:=aAV (A:=b.a) (h:=h) (x:=x);unfold Ar.len at this;omega
 have c:=r.le (m':=m) Ac;have rn:=r.n;refine⟨by simp only;rw[hn];exact c.n,λy=>?_,λy=>?_,c.Au,c.A3,c.tm,c.Es,c.vO⟩
 .simp only;rw[IS];split;.rename_i d;have:=r.at_ h;omega
  .exact c.at_ y
 .simp only;rw[IS];split;.have:=r.data h;omega
  .exact c.data y
def qO{m:Nat}{s:Ah}{p bf:Int}(r:CH b (m+5))(hs:s.length<=4):CH {b with a:=BS.JT b.a s p bf} m:=by
 have Nf:∀d,CH {b with a:=(b.a.add {kind:=5,BM:=d,data:=s}).Et (b.a.len+1) p bf} m:=λd=>((r.le (m':=m+1) Ac).GZ (Mg (Bn _) FY)).I5 O0
 have c:=r.le (m':=m) Ac;unfold BS.JT;split
 .split
  .split;.exact CH.lj (k:=5) r (.inl FY) (.inl (by simp only[An];omega))
   .exact Nf _
  .exact Nf _
 .exact c
def Q5{m:Nat}{s:Ah}{p bf:Int}(r:CH b (m+5))(hs:s.length<=100000):CH {b with a:=BS.H5 b.a s p bf} m:=by
 unfold BS.H5;split;.exact((r.le (m':=m+1) Ac).GZ (Mg (Bn _) hs)).I5 O0
 .exact r.le Ac
end
section
variable{b:BS}{q:BOp}{m j:Nat}{nm:Ah}
def wO{l:List Bj}{x:Int}(r:CH b (m+1000))(hl:l.length<=1000):CH (b.FJ l x) m:=by
 unfold BS.FJ;split;.refine CH.lj (k:=1000) r (.inl ?_) (.inl FY);have:=TW (l:=(b.a.nd x).As++BS.plain l);rw[An,BS.plain,Aw] at this;unfold BS.plain;simp only;omega
 .exact r.le Ac
def eJ:∀{l:List Cn} {b:BS},(BS.JJ l b).2.Au.length<=b.Au.length+l.length/\(BS.JJ l b).2.A3=b.A3/\(BS.JJ l b).1.length=l.length/\∀e∈(BS.JJ l b).1,∃a∈l,e.name=a.name/\e.As=a.As
 |[],b=>⟨by simp[BS.JJ],rfl,rfl,λe he=>by simp[BS.JJ] at he⟩
 |e::l,b=>by
  obtain⟨h1,h2,h3,f⟩:=eJ (l:=l) (b:=b.Co e.name e.As 1);have h:(b.Co e.name e.As 1).Au.length<=b.Au.length+1:=by
   unfold BS.Co;rw[Ae KG];simp only
   have:(b.Gf e.name e.As 1 (b.place 0).1).Au=b.Au:=by unfold BS.Gf;rw[Ae KG]
   rw[An,AQ];first|(rw[this];exact Ad _)|exact Ad _
  rw[BS.JJ];refine⟨by simp only[AJ];omega,by simp only;rw[h2,H6],by simp only[AJ,h3],λg he=>?_⟩;rcases AF.1 he with rfl|he
  .exact⟨e,AB,rfl,rfl⟩
  .obtain⟨a,d,c⟩:=f g he;exact⟨a,by simp[d],c⟩
def kY(r:CH b (m+4*b.A3.length)):CH b.AM m/\b.AM.Au.length<=b.Au.length+b.A3.length/\b.AM.A3.length=b.A3.length:=by
 have hk:=kQ (b:=b);have a:=eH (l:=b.A3.drop b.NM) (b:=b) (m:=m) (r.le (by rw[A4];omega)) λe he=>r.Es e (A6 he);obtain⟨h1,h2,h3,g⟩:=eJ (l:=b.A3.drop b.NM) (b:=b);rw[A4] at h1 h3;have hl:b.AM.A3.length=b.A3.length:=by unfold BS.AM;simp only[An,Ax,h3];omega
 refine⟨⟨a.n,a.at_,a.data,a.Au,?_,a.tm,λe he=>?_,a.vO⟩,by unfold BS.AM;simp only;omega,hl⟩;.rw[hl];have:=r.A3;omega
 .unfold BS.AM at he;simp only at he;rcases Ao.1 he with he|he
  .exact r.Es e (A9 he)
  .obtain⟨h,f,d,c⟩:=g e he;rw[d,c];exact r.Es h (A6 f)
def qP{blk anc:Int}{far k:Nat}:∀{c:Nat} {s:BS×Int×Nat},(BS.Np blk anc far k c s).1.A3.length<=s.1.A3.length
 |0,s=>Ad _
 |c+1,s=>by
  refine Bw (qP (c:=c)) ?_;unfold BS.Gu;simp only
  split;.exact Ad _
  .split;.exact CO.length_le
   .have:∀nm l p,(s.1.Gf nm l 1 p).A3=s.1.A3:=λnm l p=>by unfold BS.Gf;rw[Ae KG]
    simp only[this,Ci];exact Ad _
def va:(b.round nm).2.A3.length<=b.A3.length+1:=by
 unfold BS.round;simp only
 split
 .have:(b.C1 nm).A3=b.A3:=by
   unfold BS.C1;split;.split<;>rfl
   .rfl
  rw[this];omega
 .split;.exact Bw CO.length_le (F6 _)
  .split;.exact F6 _
   .split;.exact Bw CO.length_le (F6 _)
    .unfold BS.IX;simp only
     generalize hs:BS.Np _ _ _ _ _ _=s;have h1:s.1.A3.length<=b.A3.length:=by rw[<-hs];exact qP
     have:∀(b2:BS) nm l p,(b2.Gf nm l 1 p).A3=b2.A3:=λb2 nm l p=>by unfold BS.Gf;rw[Ae KG]
     simp only[this,An,AJ,Ax,A4];have h2:∀k,(BA s.1.A3 k).length<=s.1.A3.length:=λk=>CO.length_le;refine Bw (m:=(BA s.1.A3 (FU (b.A3.getD (DT nm b.A3).toNat Cn.zero).node s.1.A3).toNat).length+1) ?_ (Nat.succ_le_succ (Bw (h2 _) h1));omega
def Zr:∀{n:Nat} {b:BS},(BS.Gp n b nm).A3.length<=b.A3.length+n
 |0,b=>Ad _
 |n+1,b=>by
  have h:=va (b:=b) (nm:=nm);unfold BS.Gp;simp only
  split;.have:=Zr (n:=n) (b:=(b.round nm).2);omega
  .omega
structure Sz(b:BS)(j:Nat):Prop where
 rm:CH b (5000000*j)
 Au:b.Au.length+1200*j<=125000
 A3:b.A3.length+10*j<=1100
end
end Go.Am
end
section
end
section
namespace Go.Am
open Go
def arD(q:Bool):Ar:={n:=[{kind:=1,BM:=1,DX:=q}],i:=[0]}
def Ih(q:Bool):BS:={a:=arD q,BM:=1,Au:=[],A3:=[],mode:=1,IV:=0,tm:=[],head:=0,Ha:=0,Lh:=false,ctx:=Item.zero,fs:=true,D4:=false,aJW:=[],skip:=false,sw:=0,stop:=false}
structure Ĵ where
 Lh:Bool
 Bd:Int
 name:Ah
 As:List Bj
 DX:Bool
 Ha:Bool
def aHn(q:Bool):Eo (arD q) 0:=by
 have h0:Eo (⟨[],[]⟩:Ar) 0:=by
  have hn:∀h,¬(⟨[],[]⟩:Ar).has h:=λh d=>by have h1:=d.1;have h2:=d.2;simp at h2;omega
  exact⟨rfl,λh d=>absurd d (hn h),λh d=>absurd d (hn h),λh d=>absurd d (hn h),λh d=>absurd d (hn h),λh d=>absurd d (hn h),λh d=>absurd d (hn h),λh d=>absurd d (hn h),λh d=>absurd d (hn h),λh d=>absurd d (hn h),⟨λ_=>0,λh d=>absurd d (hn h)⟩⟩
 have hx:sJ {kind:=1,BM:=1,DX:=q}:=by constructor<;>simp[Dx,GP]
 exact PI h0 hx (.inl ⟨rfl,rfl⟩) rfl rfl rfl rfl (λh=>absurd h.1 (Az:¬(1:Int)=4))
def ll(q:Bool):EC (Ih q):=by refine⟨aHn q,⟨⟨Lb 1,Lb 1⟩,rfl⟩,λi hi=>(nomatch hi),ŭ,λe he=>(nomatch he),ŭ⟩
def Xn{q:Bool}(x:Int):(Ih q).a.nd x=if x=1 then{kind:=1,BM:=1,DX:=q} else{}:=by
 unfold Ar.nd;by_cases h:x=1;.subst h;rfl
 .rw[Aa h,Aa];intro d;have h1:=d.1;have h2:=d.2;simp[Ih,arD] at h2;omega
def kZ(q:Bool):Sz (Ih q) 101:=by
 refine⟨⟨by simp[Ih,arD],λx=>?_,λx=>?_,by simp[Ih],by simp[Ih],by simp[Ih],λe he=>(nomatch he),λi hi=>(nomatch hi)⟩,by simp[Ih],by simp[Ih]⟩;.rw[Xn];split<;>simp
 .rw[Xn];split<;>simp
section
variable{h h':Ai}{bi a:Nat}{o c t:Ab}{G G' F:Nat->Prop}{b:BS}{x:Int}{m j:Nat}{q:BOp}
variable{nm:Ah}{av:Ab}{l:List Bj}{r:List Ab}{sp p:Int}
def aQh(h:Ai)(q:Bool):∃h1 h',CD cx 30 [] h (Pt h.length 0) h1/\CD cx 32 [Pt h.length 0,.bool q] h1 (I 1) h'/\PA h' h.length (h.length+1) none [⟨{kind:=1,BM:=1,DX:=q},.slnil,.slnil,rfl⟩] (arD q)/\h'=h++[.cells [.Du (h.length+1) 0 1 13,.map none],.cells [I 1,I 0,.slnil,I 1,I 0,S [],.slnil,S [],S [],S [],.bool q,I 0,I 0]]:=by
 have Ŵ:AY=140737488355328:=rfl;have g1:∀u:Ai,Hk u 13 168 .slnil (.sl 13 [[I 1,I 0,.slnil,I 0,I 0,S [],.slnil,S [],S [],S [],.bool q,I 0,I 0]])=some (u++[.cells [I 1,I 0,.slnil,I 0,I 0,S [],.slnil,S [],S [],S [],.bool q,I 0,I 0]],.Du u.length 0 1 13):=λu=>rfl;obtain⟨H1,d⟩:∃H1,H1=h++[GX.cells [.slnil,.map none]]:=⟨_,rfl⟩;have y:H1[h.length]?=some (.cells [.slnil,.map none]):=by rw[d];simp
 have qw:H1.length=h.length+1:=by rw[d];simp
 have g2:=g1 H1;rw[qw] at g2;have z:At H1 h.length 0 .slnil:=⟨_,y,rfl⟩;have n:(H1++[GX.cells [I 1,I 0,.slnil,I 0,I 0,S [],.slnil,S [],S [],S [],.bool q,I 0,I 0]])[h.length]?=some (.cells [.slnil,.map none]):=(Al Ac).trans y;have E:(H1++[GX.cells [I 1,I 0,.slnil,I 0,I 0,S [],.slnil,S [],S [],S [],.bool q,I 0,I 0]])[h.length+1]?=some (.cells [I 1,I 0,.slnil,I 0,I 0,S [],.slnil,S [],S [],S [],.bool q,I 0,I 0]):=by rw[<-qw];simp
 have uB:(H1++[GX.cells [I 1,I 0,.slnil,I 0,I 0,S [],.slnil,S [],S [],S [],.bool q,I 0,I 0]]).length=h.length+2:=by rw[An,qw];rfl
 have g:H1++[GX.cells [I 1,I 0,.slnil,I 0,I 0,S [],.slnil,S [],S [],S [],.bool q,I 0,I 0]]=h++[.cells [.slnil,.map none],.cells [I 1,I 0,.slnil,I 0,I 0,S [],.slnil,S [],S [],S [],.bool q,I 0,I 0]]:=by rw[d,A7];rfl
 generalize H1++[GX.cells [I 1,I 0,.slnil,I 0,I 0,S [],.slnil,S [],S [],S [],.bool q,I 0,I 0]]=H2 at*;have t2:At H2 h.length 0 .slnil:=⟨_,n,rfl⟩;have B:=t2.store (u:= .Du (h.length+1) 0 1 13) rfl;have w:=KC (k:=0) (v:= .Du (h.length+1) 0 1 13) n;have f:(put H2 h.length 0 (.Du (h.length+1) 0 1 13))[h.length+1]?=_:=(Da Ac).trans E;have K:put H2 h.length 0 (.Du (h.length+1) 0 1 13)=h++[.cells [.Du (h.length+1) 0 1 13,.map none],.cells [I 1,I 0,.slnil,I 0,I 0,S [],.slnil,S [],S [],S [],.bool q,I 0,I 0]]:=by rw[IQ n,g,Ce _ _ (Ad _),Fh];rfl
 generalize put H2 h.length 0 (.Du (h.length+1) 0 1 13)=e at*;have l3:Bp e none (Pt h.length 0)=some (.Du (h.length+1) 0 1 13):=At.load ⟨_,w,rfl⟩;have J:AE (.Hj 13) [.Du (h.length+1) 0 1 13,I 0]=some (.ptr (some (h.length+1,0))):=JH (k:= .i64) (i:=0) Az;have t3:At e (h.length+1) 3 (I 0):=⟨_,f,rfl⟩;have A:=t3.store (u:=I 1) rfl;have L:(put e (h.length+1) 3 (I 1))[h.length]?=_:=(Da Ac).trans w;have D:=KC (k:=3) (v:=I 1) f;have H:put e (h.length+1) 3 (I 1)=h++[.cells [.Du (h.length+1) 0 1 13,.map none],.cells [I 1,I 0,.slnil,I 1,I 0,S [],.slnil,S [],S [],S [],.bool q,I 0,I 0]]:=by rw[IQ f,K,Ce _ _ Ac,Uy];rfl
 refine⟨H1,put e (h.length+1) 3 (I 1),?_,?_,⟨rfl,rfl,L,D,?_,?_,.inl ⟨rfl,λk=>?_⟩⟩,H⟩;.rw[Ag,ê,t30];simp only[abS,↓reduceIte,Cl,d]
 .have C:CD cx 38 [Pt h.length 0,.agg [I 1,I 0,.slnil,I 0,I 0,S [],.slnil,S [],S [],S [],.bool q,I 0,I 0]] H1 (I 1) e:=by rw[Ag,vW,t38];simp only[Cy,Nat.reduceLeDiff,↓reduceIte,Cl,hZ,z.load,show AE (.Cb 13) [.agg [I 1,I 0,.slnil,I 0,I 0,S [],.slnil,S [],S [],S [],.bool q,I 0,I 0]]=some (.sl 13 [[I 1,I 0,.slnil,I 0,I 0,S [],.slnil,S [],S [],S [],.bool q,I 0,I 0]]) from rfl,g2,B,l3,show AE (.len false) [.Du (h.length+1) 0 1 13]=some (I 1) from rfl]
  have r2:CD cx 24 [Pt h.length 0,I 1] e (.ptr (some (h.length+1,0))) e:=by rw[Ag,vT,t24];simp only[Cy,hZ,l3,show AE (.int .sub) [I 1,I 1]=some (I 0) from rfl,J]
  rw[Ag,vU,t32];simp only[abS,Nat.reduceLeDiff,↓reduceIte,Cl,C.Af,r2.Af,A]
 .intro p hp;rw[Bv] at hp;subst hp;exact .inl ⟨rfl,rfl⟩
 .simp[Gm,Ip]
 .unfold Ar.inr;split;.rename_i s;have h1:=s.1;have h2:=s.2;simp[arD] at h2;have:k=1:=Ac;subst this;rfl
  .rfl
def aQj(h:Ai)(q:Bool):∃h1 h2 h' bi G,CD cx 30 [] h (Pt h.length 0) h1/\CD cx 32 [Pt h.length 0,.bool q] h1 (I 1) h2/\CD cx 31 [Pt h.length 0,I 1] h2 (Pt bi 0) h'/\BX h' bi h.length .slnil .slnil .slnil G (Ih q)/\FC h (λ_=>False) h' (BU bi G):=by
 obtain⟨h1,h2,g,r2,d,f⟩:=aQh h q;obtain⟨r,t,e,K,V,rfl,n,k,_⟩:=ę (x:=1) d ((kZ q).rm.WA) ((kZ q).rm.WA.Bi (ll q).ok 1);have hx:(arD q).has 1:=⟨Lb 1,Lb 1⟩;have tH:(arD q).nd 1={kind:=1,BM:=1,DX:=q}:=(Xn (q:=q) 1).trans (Ae rfl);rw[Ae hx,tH] at e;have wt:PA (h2++t) _ _ _ _ _:=d.FV λi hi=>Al (d.lt i hi);refine⟨h1,h2,h2++t++[.cells (SU h.length (Ih q) .slnil .slnil .slnil)],(h2++t).length,λi=>i∈Gm h.length (h.length+1) none [⟨{kind:=1,BM:=1,DX:=q},.slnil,.slnil,rfl⟩],g,r2,?_,⟨AB,.inr ⟨rfl,rfl⟩,.inr ⟨rfl,rfl⟩,?_,?_⟩,?_⟩;.rw[Ag,ë,t31];simp only[abS,Nat.reduceLeDiff,↓reduceIte,Cl,e.Af,aaS];exact⟨λh=>absurd rfl h,λ_=>⟨λh=>absurd rfl h,λ_=>rfl⟩⟩
 .exact⟨_,_,_,wt.FV λi hi=>Al (wt.lt i hi),λi=>aH9⟩
 .intro hm;exact absurd (wt.lt _ hm) (DI _)
 .have E0:h.length<=h2.length:=by rw[f];simp
  refine⟨EE,λi hi _=>?_,λi hi=> .inr ?_⟩;.rw[A7,Al Ac,f,Al hi]
  .rcases hi with rfl|hi
   .simp;omega
   .simp[Gm,Ip] at hi;omega
end
end Go.Am
end
section
end
section
namespace Go.Am
open Go
def PB(h:Ai)(bi:Nat)(b:BS)(F:Nat->Prop):Prop:=∃a o c t G,BX h bi a o c t G b/\EH b.A3 c/\F=BU bi G
section
variable{h h':Ai}{bi wi:Nat}{b:BS}{F F2:Nat->Prop}{q:BOp}{av:Ab}{j:Nat}
def PB.lt(w:PB h bi b F){i:Nat}(hi:F i):i<h.length:=by
 obtain⟨a,o,c,t,G,w,_,rfl⟩:=w;rcases hi with rfl|hi
 .exact w.lt
 .exact w.w.lt hi
def PB.FV(w:PB h bi b F)(hf:∀i,F i->h'[i]?=h[i]?):PB h' bi b F:=by obtain⟨a,o,c,t,G,w,hc,rfl⟩:=w;exact⟨a,o,c,t,G,w.FV hf,hc,rfl⟩
def PB.L1(w:PB h bi b F){u:Ai}:PB (h++u) bi b F:=w.FV λi hi=>Al (w.lt hi)
end
structure QO where
 q:BOp
 v:Ab
 ok:BF q.As v
end Go.Am
end
section
end
