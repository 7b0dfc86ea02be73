/- Lemmas -/
import Derived.Test.YtmfdhadocnndiaaGreatDoorS25
set_option linter.all false
noncomputable section
set_option maxRecDepth 100000
section
namespace Go.Am
open Go
section
variable{h h':Ah}{bi a ai:Nat}{o c t:Aa}{G G' F:Nat->Prop}{b b':BS}{x:Int}{m:Nat}
variable{nm:Au}{av:Aa}{l:List A0}{r:List Aa}{sp p:Int}{e:CM}{at_ mk last:Int}{anc far:Item}
def Dc.find(hc:Dc b.Bd c)(w:BX h bi a o c t G b)(rm:Cs b m)(nm:Au):Co cx 125 [Pt bi 3,.str nm] h (I (GA nm b.Bd)) h:=by obtain⟨fs,KQ,hv⟩:=hc;have ha:=rm.Bd;have:=aC1 w.xF hv (by rw[<-KQ,As] at ha;omega) nm;rwa [ew,KQ] at this
def Ut(I_:h.length<=ai)(x:Fv h (KN ai bi G) h' (KN ai bi G')):Fv h (BB bi G) h' (BB bi G'):=
 ⟨x.len,λi hi hn=>x.old i hi λhg=>by
  rcases hg with rfl|hg
  .omega
  .exact hn hg,λi hi=>by
  rcases x.BB i (.inr hi) with(rfl|h)|h
  .exact .inr I_
  .exact .inl h
  .exact .inr h⟩
def Z4{nm:Au}{l:List Cv}(h:0<=GA nm l):∃p:Nat,∃hp:p<l.length,GA nm l=(p:Int):=by
 have key:∀r:List Cv,T4 nm r<r.length:=by
  intro r;induction r with
  |nil=>show(-1:Int)<0;decide
  |cons x r ih=>rw[T4];simp only[AO];split<;>(try split)<;>omega
 have:=key l.reverse;rw[Vl] at this;refine⟨(GA nm l).toNat,?_,Ab⟩;unfold GA at h⊢;omega
def fm{l:List Cv}{f:Nat}(hn:((l.map Cv.node).filter λn=>decide (n≠0)).Nodup)(hf:f<l.length)(h0:l[f].node≠0):F7 l[f].node l=(f:Int):=by
 unfold F7;rw[Ac h0];refine KE hf (by simp[T3]) λj hj h=>?_;by_cases he:l[j].node=l[f].node
 .exfalso;have:l=l.take j++l[j]::l.drop (j+1):=by rw[<-AB hj,Cd]
  rw[this,BW,Be,Eh,F8,Ad (by simpa[he] using h0),BH] at hn;have hm:l[f]∈l.take j:=List.mem_take_iff_getElem.2 ⟨f,Ab,rfl⟩;exact hn.2.2 l[f].node (CU.2 ⟨Vn hm,by simpa using h0⟩) l[j].node Av he.symm
 .simp[T3,he]
def Z5{v:DH}:Fv h (Am.KN ai bi G) (h.set ai v) (Am.KN ai bi G):=⟨by rw[BJ];exact Ae _,λi _ hn=>Ao λe=>hn (.inl e.symm),λ_ h=> .inl h⟩
def yc(hc:h[ai]?=some (.cells (EP e at_ mk anc far last)))(i:Item):CK h 4 (Pt ai 5) (.agg i.row)=some (h.set ai (.cells (EP e at_ mk i far last))):=by simp only[CK,hc];rfl
def yd(hc:h[ai]?=some (.cells (EP e at_ mk anc far last)))(i:Item):CK h 4 (Pt ai 9) (.agg i.row)=some (h.set ai (.cells (EP e at_ mk anc i last))):=by simp only[CK,hc];rfl
def ye(hc:h[ai]?=some (.cells (EP e at_ mk anc far last))):Bk h (some 3) (Pt ai 0)=some (.agg e.row):=by simp only[Bk,hc];rfl
def Vf{A:Ar}{n x:Int}{l:List Int}:BS.C1 A n (l++[x])=(BS.C1 A n l).HP n x 0:=by unfold BS.C1;rw[List.foldl_append];rfl
def aDO(w:BX h bi a o c t G b)(hc:Dc b.Bd c)(ok:EF b)(rm:Cs b (m+4*b.AV.length+10))(nm:Au):
  ∃h' o' c' G',Co cx 71 [Pt bi 0,.str nm] h (.bool (b.round nm).1) h'/\BX h' bi a o' c' t G' (b.round nm).2/\Dc (b.round nm).2.Bd c'/\Fv h (BB bi G) h' (BB bi G'):=by
 have ho:=rm.AV;have aQ:=rm.Bd;have T:=hc.find w rm nm;by_cases hf:GA nm b.Bd<0
 .obtain⟨h2,o2,r2,J,x2⟩:=œ w rm nm;have e:b.round nm=(false,b.Dx nm):=by unfold BS.round;simp only;rw[Ad hf]
  have ea:(b.Dx nm).Bd=b.Bd:=by
   unfold BS.Dx;split;.split<;>rfl
   .rfl
  rw[e];refine⟨h2,o2,c,G,?_,J,by rw[ea];exact hc,x2⟩;rw[Aj,OZ,kb];simp only[abS,Nat.reduceLeDiff,↓reduceIte,Bl,T.Ag,hf,r2.Ag]
 obtain⟨f,HI,Z⟩:=Z4 (Rd.1 hf);have yK:¬(f:Int)<0:=Ab;rw[Z] at T;have QD:=hc;obtain⟨fs,KQ,hv⟩:=QD;have aJ5:b.Bd.length=fs.length:=by rw[<-KQ,As]
 have C:fs[f].c=b.Bd[f]:=by simp only[<-KQ,C3]
 have l3:=w.l3;have e1:=Bn.Dw (k:= .i64) hv (Ab:f<fs.length);generalize hfe:fs[f]=fe at*;have hgd:b.Bd.getD f Cv.zero=fe.c:=by rw[Ay,Ak HI];exact C.symm
 have hv3:fe.v.cells=[fe.v]:=Bn.cells fe.ok;have w1:=w.Ja (u:=[.cells (EP fe (f:Int) (f:Int) Item.zero Item.zero 0)]);have M_:(h++[DH.cells (EP fe (f:Int) (f:Int) Item.zero Item.zero 0)])[h.length]?=some (.cells (EP fe (f:Int) (f:Int) Item.zero Item.zero 0)):=Av;have X:Fv h (BB bi G) (h++[DH.cells (EP fe (f:Int) (f:Int) Item.zero Item.zero 0)]) (BB bi G):=w.DG;have Qz:¬BB bi G h.length:=by
  rintro(e|hg);.exact absurd w.lt Ab
  .exact absurd (w.w.lt hg) (CX _)
 obtain⟨A,y⟩:∃A,A=h++[DH.cells (EP fe (f:Int) (f:Int) Item.zero Item.zero 0)]:=⟨_,rfl⟩;rw[<-y] at w1 M_ X;have l0:Bk A none (Pt h.length 0)=some (I fe.c.node):=At.load ⟨_,M_,rfl⟩;have r2:=U9 w1.sA Ab fe.c.node;have WJ:EP fe (f:Int) (f:Int) Item.zero Item.zero 0=[I fe.c.node,.str fe.c.name,fe.v,I (f:Int),I (f:Int),I 0,I 0,S [],ff,I 0,I 0,S [],ff,I 0]:=rfl;rw[WJ] at y;rw[CM.row] at e1;by_cases hk:AR (BL fe.c.node) b.AV<0
 .obtain⟨h2,c2,Q,J,JJ,_,x2⟩:=lZ w1 hc rm M_ Qz HI ⟨Ab,Ab⟩ ⟨Ab,Ab⟩;have e:b.round nm=(false,{b with Bd:=Bm b.Bd f}):=by unfold BS.round;simp only;rw[Ac hf,Z,Bz,hgd,Ad hk]
  rw[e];refine⟨h2,o,c2,G,?_,J,JJ,Ut (Ae _) ((Ea X h.length).trans x2)⟩;rw[Aj,OZ,kb];simp only[abS,Nat.reduceLeDiff,↓reduceIte,Bl,T.Ag,yK,l3,e1,<-y,l0,r2.Ag,hk,Q.Ag]
 obtain⟨k,V⟩:∃k:Nat,AR (BL fe.c.node) b.AV=(k:Int):=⟨_,(Jj (Rd.1 hk)).symm⟩;obtain⟨Vw,hkq,_⟩:=JF V;have dw:¬(k:Int)<0:=Ab;rw[V] at r2;by_cases hkz:k=0
 .have e:b.round nm=(false,b):=by unfold BS.round;simp only;rw[Ac hf,Z,Bz,hgd,Ac hk,Ad (.inl (by rw[V,hkz];rfl))]
  rw[e];refine⟨A,o,c,G,?_,w1,hc,X⟩;rw[Aj,OZ,kb];simp only[abS,Nat.reduceLeDiff,↓reduceIte,Bl,T.Ag,yK,l3,e1,<-y,l0,r2.Ag,dw,Cg (Ab:(k:Int)=0)]
 have fo:¬(k:Int)=0:=Ab;have Q:=aCS w1.sA Ab 1 fe.c.node;by_cases zk:OQ (BL fe.c.node) (Nt 1) b.AV.reverse=false
 .have e:b.round nm=(false,b):=by unfold BS.round;simp only;rw[Ac hf,Z,Bz,hgd,Ac hk,Ad (.inr zk)]
  rw[e];refine⟨A,o,c,G,?_,w1,hc,X⟩;rw[zk] at Q;rw[Aj,OZ,kb];simp only[abS,Nat.reduceLeDiff,↓reduceIte,Bl,T.Ag,yK,l3,e1,<-y,l0,r2.Ag,dw,fo,Q.Ag]
 have aDP:OQ (BL fe.c.node) (Nt 1) b.AV.reverse=true:=by simpa using zk
 rw[aDP] at Q;have r4:=aCV w1.sA Ab fe.c.node;have hor:¬(AR (BL fe.c.node) b.AV=0\/OQ (BL fe.c.node) (Nt 1) b.AV.reverse=false):=by rw[V];rintro(h|h);exact fo h;exact zk h
 by_cases hfa:D8 fe.c.node b.AV<0
 .have e:b.round nm=(false,{b with AV:=FM fe.c.node b.AV,Bd:=Bm b.Bd f}):=by unfold BS.round;simp only;rw[Ac hf,Z,Bz,hgd,Ac hk,Ac hor,Ad hfa]
  obtain⟨u,r5,hu⟩:=Ħ w1.sO Ab fe.c.node;have J:=w1.Nz hu;have aN:(put A bi 2 u)[h.length]?=_:=(CO (λe=>Qz (.inl e))).trans M_;obtain⟨h3,c3,r6,w3,VN,_,x3⟩:=lZ J hc ((rm.le (m':=0) Ab).sub rfl He (AI _) (Ae _)) aN Qz HI ⟨Ab,Ab⟩ ⟨Ab,Ab⟩;rw[e];refine⟨h3,u,c3,G,?_,w3,VN,Ut (Ae _) ((Ea (X.trans B7) h.length).trans x3)⟩;rw[Aj,OZ,kb];simp only[abS,Nat.reduceLeDiff,↓reduceIte,Bl,T.Ag,yK,l3,e1,<-y,l0,r2.Ag,dw,fo,Q.Ag,r4.Ag,hfa,r5.Ag,r6.Ag]
 obtain⟨N,hN,eN⟩:∃N:Nat,k+1+N<b.AV.length/\D8 fe.c.node b.AV=((k+1+N:Nat):Int):=by
  have yf:=hfa;rw[KZ,Ac hk,V,Bz] at yf⊢;unfold FA at yf⊢;split at yf;.rename_i j hj;have:=(Jk.1 hj).1;rw[A5] at this;exact⟨j,Ab,Ab⟩
  .omega
 obtain⟨d,ģ⟩:∃d,d=b.AV[k+1+N]:=⟨_,rfl⟩;obtain⟨an,E_⟩:∃an,an=b.AV[k-1]'(by omega):=⟨_,rfl⟩;have zX:b.AV.getD (k+1+N) Item.zero=d:=by rw[Ay,Ak hN,ģ];rfl
 have ð:b.AV.getD (k-1) Item.zero=an:=by rw[Ay,Ak Ab,E_];rfl
 have e:b.round nm=(true,BS.Hd fe.c d.node an.node (BS.Lq d.node an.node (k+1+N) k N (b,d.node,f))):=by
  unfold BS.round;simp only
  rw[Ac hf,Z,Bz,hgd,Ac hk,Ac hor,Ac hfa,V,eN,Bz,Bz,zX,ð,(Ab:k+1+N-1 -k=N)]
 have fq:=ok.op d (by rw[ģ];exact AP _);have aDQ:b.AV[k].node=fe.c.node:=by simpa[BL] using hkq
 have Ť:b.a.has fe.c.node:=by rw[<-aDQ];exact(ok.op _ (AP _)).1
 have aDR:b.Bd[f].node≠0:=by rw[<-C];have:=Ť.1;omega
 have pR:=fm ok.qL HI aDR;rw[<-C] at pR;have OY:=rm.Dn _ (AP HI);rw[<-C] at OY;have yO:=Ln (n:=k) Ab Ab;have r5:=QZ w1.sA ((k-1:Nat):Int);rw[Il Ab,<-E_] at r5;have r6:=QZ w1.sA ((k+1+N:Nat):Int);rw[Il hN,<-ģ] at r6;have s5:=yc M_ an;have Yh:h.length<A.length:=(Ai.1 M_).1;have ť:h.length≠bi:=λe=>Qz (.inl e);have aN:(A.set h.length (.cells (EP fe f f an Item.zero 0)))[h.length]?=_:=AJ Yh;have J:BX (A.set h.length (.cells (EP fe f f an Item.zero 0))) bi a o c t G b:=w1.El λj hj=>Ao λe=>Qz (by rw[e];exact hj);have x2:=(Ea X h.length).trans (Z5 (v:= .cells (EP fe f f an Item.zero 0)));generalize A.set h.length (.cells (EP fe f f an Item.zero 0))=H2 at*;have s6:=yd aN d;have Yi:h.length<H2.length:=(Ai.1 aN).1;have Ţ:(H2.set h.length (.cells (EP fe f f an d 0)))[h.length]?=_:=AJ Yi;have w3:BX (H2.set h.length (.cells (EP fe f f an d 0))) bi a o c t G b:=J.El λj hj=>Ao λe=>Qz (by rw[e];exact hj);have x3:=x2.trans (Z5 (v:= .cells (EP fe f f an d 0)));generalize H2.set h.length (.cells (EP fe f f an d 0))=H3 at*;have l9:Bk H3 none (Pt h.length 9)=some (I d.node):=At.load ⟨_,Ţ,rfl⟩;have t13:At H3 h.length 13 (I 0):=⟨_,Ţ,rfl⟩;have s7:=t13.store (u:= I d.node) rfl;have J_:=Jf (k:=13) (v:= I d.node) Ţ;have w4:BX (put H3 h.length 13 (I d.node)) bi a o c t G b:=w3.El λj hj=>CO λe=>Qz (by rw[<-e];exact hj);have x4:=x3.trans (NA (k:=13) (v:= I d.node));generalize put H3 h.length 13 (I d.node)=H4 at*;have i0:Z3 H4 bi a h.length t G fe an d k N (m+10) (b,d.node,f) N H4 o c G (b,d.node,f):=
  ⟨Ae _,w4,hc,ok,rm.le Ab,fq.1,by rw[pR];exact J_,Qz,.refl,by rw[pR];omega,by show f<=1000000000;omega,rfl,Gp,rfl,Ť⟩
 have le0:=(XD (blk:=d.node) (anc:=an.node) (far:=k+1+N) (k:=k) (c:=N) (s:=(b,d.node,f)) ok fq.1).2.2;obtain⟨h5,o5,c5,G5,s',r7,es,i⟩:=ş i0 Ab V hN;rw[<-es] at le0 e;obtain⟨q,hq,dy,hq0,hq2,hq3⟩:=JG i.nN;have B:=i.st;rw[dy] at B;have ñ:=i.Ş;have fL:h.length≠bi:=ť;have l5:Bk h5 none (Pt h.length 5)=some (I an.node):=At.load ⟨_,B,rfl⟩;obtain⟨u6,r8⟩:=dz i.w i.ok.ba i.rm an.node;have w6:=i.w.Ja (u:=u6);have w6':=i.w.DG (u:=u6);have hl5:h.length<h5.length:=(Ai.1 B).1;have ţ:(h5++u6)[h.length]?=_:=(Al hl5).trans B;have l13:Bk (h5++u6) none (Pt h.length 13)=some (I s'.2.1):=At.load ⟨_,ţ,rfl⟩;have hl6:h.length<(h5++u6).length:=by rw[Ap];omega
 obtain⟨h7,G7,r9,w7,x7⟩:=ZU (x:=s'.2.1) (p:=(s'.1.place an.node).1) (bf:=(s'.1.place an.node).2) w6 i.ok.ba i.rm;have hn7:¬BB bi G7 h.length:=λhg=>by
  rcases x7.BB h.length hg with hg|hg
  .exact i.hn hg
  .omega
 have L_:h7[h.length]?=_:=(x7.old h.length hl6 i.hn).trans ţ;have l3b:Bk h7 (some 3) (Pt h.length 0)=some (.agg fe.row):=ye L_;have l9b:Bk h7 none (Pt h.length 9)=some (I d.node):=At.load ⟨_,L_,rfl⟩;obtain⟨r,aS,hr⟩:=xR fe h7;have le7:Le s'.1.a (s'.1.a.Hc s'.2.1 (s'.1.place an.node).1 (s'.1.place an.node).2):=IK;have U:=i.ok.Ka (NZ (n:=s'.2.1) (p:=(s'.1.place an.node).1) (b:=(s'.1.place an.node).2) i.ok.ok) le7;have P:=i.rm.Ka (Kj (x:=s'.2.1) (p:=(s'.1.place an.node).1) (bf:=(s'.1.place an.node).2));obtain⟨b2,MR⟩:∃b2,b2={s'.1 with a:=s'.1.a.Hc s'.2.1 (s'.1.place an.node).1 (s'.1.place an.node).2}:=⟨_,rfl⟩;have gS:b2.AV=s'.1.AV:=by rw[MR]
 have JJ:b2.Bd=s'.1.Bd:=by rw[MR]
 have le2:Le s'.1.a b2.a:=by rw[MR];exact le7
 rw[<-MR] at w7 U P;obtain⟨H,G8,r11,w8,x8⟩:=xH (m:=m+7) w7 U.ba (P.le Ab) hr fe.ok OY.2 OY.1 d.node 1;obtain⟨N_,fr,le8⟩:=RL (nm:=fe.c.name) (at_:=fe.c.AE) (p:=d.node) U KM;have Ŧ:=Kb (m:=m+7) (nm:=fe.c.name) (l:=fe.c.AE) (sp:=1) (p:=d.node) (P.le Ab) OY.2;obtain⟨g,hnw⟩:∃g,g=b2.II fe.c.name fe.c.AE 1:=⟨_,rfl⟩;obtain⟨b3,yP⟩:∃b3,b3=b2.E1 fe.c.name fe.c.AE 1 d.node:=⟨_,rfl⟩;have ho3:b3.AV=s'.1.AV:=by rw[yP,<-gS];unfold BS.E1;rw[Ad KM]
 have VN:b3.Bd=s'.1.Bd:=by rw[yP,<-JJ];unfold BS.E1;rw[Ad KM]
 rw[<-hnw] at r11 fr;rw[<-yP] at w8 N_ fr le8 Ŧ;have hl7:h.length<h7.length:=(Ai.1 L_).1;have hn8:¬BB bi G8 h.length:=λhg=>by
  rcases x8.BB h.length hg with hg|hg
  .exact hn7 hg
  .omega
 have O:H[h.length]?=_:=(x8.old h.length hl7 hn7).trans L_;have l9c:Bk H none (Pt h.length 9)=some (I d.node):=At.load ⟨_,O,rfl⟩;obtain⟨kv,r12,hkv⟩:∃v,Co cx 121 [Pt a 0,I d.node] H v H/\EC (b3.a.nd d.node).AX v:=by obtain⟨n',m',ps,wa⟩:=w8.w.pa;exact kj wa Ŧ.U7 (Ŧ.U7.AX N_.ok d.node)
 have aKd:(b3.a.nd d.node).AX.length<=1000000000:=Ŧ.U7.AX N_.ok d.node;have Sm:g.row=[I g.node,I g.AY,.str g.name,.bool g.MJ]:=rfl;rw[CM.row] at aS l3b;have Ng:Ev cx 71 [Pt bi 0,.str nm] h λr h'=>r= .bool true/\∃o' c' G',BX h' bi a o' c' t G' (BS.Hd fe.c d.node an.node s')/\Dc (BS.Hd fe.c d.node an.node s').Bd c'/\Fv h (BB bi G) h' (BB bi G'):=by
  unfold Ev;rw[OZ,kb];simp only[abS,Nat.reduceLeDiff,↓reduceIte,Bl,T.Ag,yK,l3,e1,<-y,l0,r2.Ag,dw,fo,Q.Ag,r4.Ag,eN,(Ab:¬((k+1+N:Nat):Int)<0),yO,r5.Ag,r6.Ag,s5,s6,l9,s7];simp only[abS,r7.Ag,l5,r8.Ag];simp only[abS,l13,r9.Ag];simp only[Cn,l3b,l9b];simp only[abS,↓reduceIte,Iq,aS.Ag,C5,r11.Ag,l9b];simp only[Cn,w8.l0,l9c,r12.Ag,Bn.FL hkv];have x8':Fv h (KN h.length bi G) H (KN h.length bi G8):=(((x4.trans i.x).trans (Ea w6' h.length)).trans (Ea x7 h.length)).trans (Ea x8 h.length);refine Gu (i:=0) (λj:Nat=>[I (j:Int)]) (λj z=>j<=(b3.a.nd d.node).AX.length/\∃D,BX z bi a o5 c5 t D {b3 with a:=BS.C1 b3.a g.node ((b3.a.nd d.node).AX.take j)}/\EF {b3 with a:=BS.C1 b3.a g.node ((b3.a.nd d.node).AX.take j)}/\Cs {b3 with a:=BS.C1 b3.a g.node ((b3.a.nd d.node).AX.take j)} (m+7)/\Fv H (BB bi G8) z (BB bi D)) (λj=>(b3.a.nd d.node).AX.length-j)
   (λj z=>j=(b3.a.nd d.node).AX.length/\∃D,BX z bi a o5 c5 t D {b3 with a:=BS.C1 b3.a g.node ((b3.a.nd d.node).AX.take j)}/\EF {b3 with a:=BS.C1 b3.a g.node ((b3.a.nd d.node).AX.take j)}/\Cs {b3 with a:=BS.C1 b3.a g.node ((b3.a.nd d.node).AX.take j)} (m+7)/\Fv H (BB bi G8) z (BB bi D)) 0 rfl ⟨AZ _,G8,w8,N_,Ŧ,.refl⟩ ?_ ?_
  .rintro j z ⟨hj,D,w9,yg,yh,W⟩;rcases A8 j (b3.a.nd d.node).AX.length with hlt|GR
   .have e9:=Bn.Dw (k:= .i64) hkv hlt;obtain⟨fB,E,R,aT,yi⟩:=ZU (x:=(b3.a.nd d.node).AX[j]) (p:=g.node) (bf:=0) w9 yg.ba yh;have lej:=(K8 (n:=g.node) (l:=(b3.a.nd d.node).AX.take j) N_.ok).2;rw[Q7 (by show((BS.C1 b3.a g.node ((b3.a.nd d.node).AX.take j)).nd g.node).kind=4;rw[lej.kind _ fr.has];exact fr.kind)] at aT;have hs:BS.C1 b3.a g.node ((b3.a.nd d.node).AX.take (j+1))=(BS.C1 b3.a g.node ((b3.a.nd d.node).AX.take j)).HP g.node (b3.a.nd d.node).AX[j] 0:=by rw[AL hlt,Vf]
    rw[Dz] at e9;simp only[abS,(Ab:(j:Int)<((b3.a.nd d.node).AX.length:Int)),e9,R.Ag,Cu (Ab:j<9223372036854775807)];refine .next (j+1) rfl ⟨hlt,E,by rw[hs];exact aT,?_,?_,W.trans yi⟩ Ab
    .have:=yg.Ka (PS (p:=g.node) (n:=(b3.a.nd d.node).AX[j]) (b:=0) yg.ok) PV;rw[hs];exact this
    .have:=yh.Ka (Ki (p:=g.node) (x:=(b3.a.nd d.node).AX[j]) (bf:=0));rw[hs];exact this
   .simp only[abS,(Ab:¬(j:Int)<((b3.a.nd d.node).AX.length:Int))];exact .HT j rfl ⟨Ab,D,w9,yg,yh,W⟩
  .rintro j z ⟨rfl,D,w9,yg,yh,W⟩;rw[B6] at w9 yg yh;have hl8:h.length<H.length:=(Ai.1 O).1;have hn9:¬BB bi D h.length:=λhg=>by
    rcases W.BB h.length hg with hg|hg
    .exact hn8 hg
    .omega
   have M:z[h.length]?=_:=(W.old h.length hl8 hn8).trans O;have l9d:Bk z none (Pt h.length 9)=some (I d.node):=At.load ⟨_,M,rfl⟩;have le9:=(K8 (n:=g.node) (l:=(b3.a.nd d.node).AX) N_.ok).2;have lef:Le b.a (BS.C1 b3.a g.node (b3.a.nd d.node).AX):=((le0.trans le2).trans le8).trans le9;obtain⟨fB,E,R,aT,yi⟩:=ZU (x:=g.node) (p:=d.node) (bf:=0) w9 yg.ba yh;rw[Q7 (by show((BS.C1 b3.a g.node (b3.a.nd d.node).AX).nd d.node).kind=4;rw[lef.kind _ fq.1];exact fq.2.1)] at aT;have hl9:h.length<z.length:=(Ai.1 M).1;have aDY:¬BB bi E h.length:=λhg=>by
    rcases yi.BB h.length hg with hg|hg
    .exact hn9 hg
    .omega
   have ŧ:fB[h.length]?=_:=(yi.old h.length hl9 hn9).trans M;have l3c:Bk fB none (Pt h.length 3)=some (I (q:Int)):=At.load ⟨_,ŧ,rfl⟩;have aDZ:=yh.Ka (Ki (p:=d.node) (x:=g.node) (bf:=0));have aD0:Dc ({b3 with a:=(BS.C1 b3.a g.node (b3.a.nd d.node).AX).HP d.node g.node 0}:BS).Bd c5:=by simp only;rw[VN];exact i.hc
   have hqa:=i.rm.Bd;obtain⟨iJ,iI,r14,L,Ũ,fu,x11⟩:=lZ aT aD0 aDZ ŧ aDY (k:=q) (by simp only;rw[VN];exact hq) ⟨Ab,Ab⟩ ⟨Ab,Ab⟩;simp only at L Ũ;have l1:Bk iJ none (Pt h.length 1)=some (.str fe.c.name):=At.load ⟨_,fu,rfl⟩;have l2:Bk iJ none (Pt h.length 2)=some fe.v:=At.load ⟨_,fu,rfl⟩;have l4:Bk iJ none (Pt h.length 4)=some (I (down q (s'.2.2:Int))):=At.load ⟨_,fu,rfl⟩;obtain⟨fs2,yj,YJ⟩:=Ũ;have aKj:b3.Bd.length=s'.1.Bd.length:=by rw[VN]
   have aKk:fs2.length<=900000000:=by have h1:=B8 List.length yj;rw[As,Ia (by rw[VN];exact hq)] at h1;omega
   have aDK:=OY.2.1;obtain⟨Y,e2,he2,r15,WK⟩:=aC6 (h:=iJ) (id:=bi) (o:=3) (l:=fs2) ⟨iI,L.xF,YJ⟩ Ab (e:=⟨{fe.c with node:=g.node},fe.v,fe.ok⟩) (by unfold qK;simp only;omega) (down q (s'.2.2:Int));have aD2:Co cx 130 [Pt bi 3,.agg [I g.node,.str fe.c.name,fe.v],I (down q (s'.2.2:Int))] iJ (.tuple []) (put iJ bi 3 Y):=r15;obtain⟨X3,pQ⟩:∃X3:Nat,X3=if q<s'.2.2 then s'.2.2 -1 else s'.2.2:=⟨_,rfl⟩
   have xT:down q (s'.2.2:Int)=(X3:Int):=by rw[pQ];unfold down;split<;>split<;>omega
   have w12:=L.Q4 (u:=Y) (l:=(Bm b3.Bd q).take (FN X3 (Bm b3.Bd q).length)++{fe.c with node:=g.node}::(Bm b3.Bd q).drop (FN X3 (Bm b3.Bd q).length));have aD3:Dc ((Bm b3.Bd q).take (FN X3 (Bm b3.Bd q).length)++{fe.c with node:=g.node}::(Bm b3.Bd q).drop (FN X3 (Bm b3.Bd q).length)) Y:=by refine⟨_,?_,WK⟩;rw[xT,BW,Be,HW,Lw,yj,he2,<-yj,As]
   have hob:=i.rm.AV;obtain⟨u2,r16,PG⟩:=xo w12.sO (by simp only;rw[ho3];omega) fe.c.node;have K:=w12.Nz PG;have bW:(Dg fe.c.node b3.AV).length<=s'.1.AV.length:=by rw[<-ho3];exact K6.length_le
   have aD5:(put (put iJ bi 3 Y) bi 2 u2)[h.length]?=_:=(CO fL).trans ((CO fL).trans fu);have l9e:Bk (put (put iJ bi 3 Y) bi 2 u2) none (Pt h.length 9)=some (I d.node):=At.load ⟨_,aD5,rfl⟩;have r17:=U9 K.sA Gp d.node;have hli: -1<=AR (BL d.node) (Dg fe.c.node b3.AV)/\AR (BL d.node) (Dg fe.c.node b3.AV)<=(Dg fe.c.node b3.AV).length:=by rcases DF (q:=BL d.node) (l:=Dg fe.c.node b3.AV) with⟨h,_⟩|⟨n,h1,h2,_⟩<;>omega
   have add:=Xs (a:=AR (BL d.node) (Dg fe.c.node b3.AV)) (b:=1) Ab Ab;obtain⟨u3,r18,hu3⟩:=aCZ K.sO Gp g (AR (BL d.node) (Dg fe.c.node b3.AV)+1);have w14:=K.Nz hu3;simp only[abS,Nat.reduceLeDiff,↓reduceIte,Bl,Iq,l9d,R.Ag,l3c,r14.Ag,l1,l2,hv3,l4,aD2.Ag,r16.Ag,l9e,r17.Ag,add,r18.Ag];have hE:BS.Hd fe.c d.node an.node s'={b3 with a:=(BS.C1 b3.a g.node (b3.a.nd d.node).AX).HP d.node g.node 0,Bd:=(Bm b3.Bd q).take (FN X3 (Bm b3.Bd q).length)++{fe.c with node:=g.node}::(Bm b3.Bd q).drop (FN X3 (Bm b3.Bd q).length),AV:=(Dg fe.c.node b3.AV).take (GI (AR (BL d.node) (Dg fe.c.node b3.AV)+1) (Dg fe.c.node b3.AV).length)++g::(Dg fe.c.node b3.AV).drop (GI (AR (BL d.node) (Dg fe.c.node b3.AV)+1) (Dg fe.c.node b3.AV).length)}:=by
    have pq:F7 fe.c.node b3.Bd=(q:Int):=by rw[VN];exact dy
    unfold BS.Hd;simp only
    rw[<-MR,<-yP,<-hnw,pq,Bz,<-pQ]
   rw[hE];refine⟨_,rfl,rfl,u3,Y,E,w14,aD3,Ut (Ae _) ?_⟩;exact((((x8'.trans (Ea (W.trans yi) h.length)).trans x11).trans (Ea B7 h.length)).trans (Ea B7 h.length)).trans (Ea B7 h.length)
 obtain⟨r,h',hr,rfl,o',c',G',w',QD,x'⟩:=Ng.ret;rw[e];exact⟨h',o',c',G',hr,w',QD,x'⟩
end
section
variable{h h':Ah}{bi a ai:Nat}{o c t:Aa}{G G' F:Nat->Prop}{b b':BS}{x:Int}{m:Nat}
variable{nm:Au}{av:Aa}{l:List A0}{r:List Aa}{sp p:Int}{e:CM}{at_ mk last:Int}{anc far:Item}
def pT{blk anc:Int}{far i:Nat}{l:Int}{mk:Nat}:(BS.Gj blk anc far i b l mk).1.AV.length<=b.AV.length:=by
 have h1:(Bm b.AV i).length<=b.AV.length:=CN.length_le;unfold BS.Gj;simp only
 split;.exact h1
 .split;.exact h1
  .have Og:∀nm l p,(b.E1 nm l 1 p).AV=b.AV:=λnm l p=>by unfold BS.E1;rw[Ad KM]
   simp only[Og,BJ];exact Ae _
def Wm{blk anc:Int}{far k m:Nat}:∀{c:Nat} {s:BS×Int×Nat},Cs s.1 (m+4*c)->Cs (BS.Lq blk anc far k c s).1 m/\(BS.Lq blk anc far k c s).1.AV.length<=s.1.AV.length
 |0,s,r=>⟨r.le Ab,Ae _⟩
 |c+1,s,r=>by have d:=Us (blk:=blk) (anc:=anc) (far:=far) (i:=k+(c+1)) (l:=s.2.1) (mk:=s.2.2) (m:=m+4*c) (r.le Ab);have h:=Wm (blk:=blk) (anc:=anc) (far:=far) (k:=k) (m:=m) (c:=c) (s:=BS.Gj blk anc far (k+(c+1)) s.1 s.2.1 s.2.2) d;exact⟨h.1,Bj h.2 pT⟩
def Z6{fe:Cv}{blk anc:Int}{s:BS×Int×Nat}(r:Cs s.1 (m+4))(OY:fe.name.length<=1000/\FZ fe.AE):Cs (BS.Hd fe blk anc s) m/\(BS.Hd fe blk anc s).AV.length<=s.1.AV.length+1:=by
 unfold BS.Hd;simp only
 generalize uQ:s.1.place anc=g;have q:=r.Ka (Kj (x:=s.2.1) (p:=g.1) (bf:=g.2));generalize MR:({s.1 with a:=s.1.a.Hc s.2.1 g.1 g.2}:BS)=b2 at q;have gS:b2.AV=s.1.AV:=by rw[<-MR]
 have d:=Kb (m:=m+1) (nm:=fe.name) (l:=fe.AE) (sp:=1) (p:=blk) (q.le Ab) OY.2;have Og:(b2.E1 fe.name fe.AE 1 blk).AV=b2.AV:=by unfold BS.E1;rw[Ad KM]
 have j:(b2.II fe.name fe.AE 1).name.length<=1000:=Nx OY.1;generalize b2.E1 fe.name fe.AE 1 blk=b3 at*;generalize b2.II fe.name fe.AE 1=n at*;have u:=d.Ka ((Ou (n:=n.node) (l:=(b3.a.nd blk).AX)).trans (Ki (p:=blk) (x:=n.node) (bf:=0)));have MZ:∀{U:Type} (l:List U) (k:Nat) (y:U),(l.take k++y::l.drop k).length=l.length+1/\∀z∈l.take k++y::l.drop k,z∈l\/z=y:=λl k y=>⟨by rw[Ap,AO,Aw,A5];omega,λz hz=>by
  rcases An.1 hz with hz|hz
  .exact .inl (AS hz)
  .rcases Az.1 hz with rfl|hz
   .exact .inr rfl
   .exact .inl (Bc hz)⟩
 have hr:=K6 (n:=fe.node) (l:=b3.AV);have hd:=CN (l:=b3.Bd) (k:=(F7 fe.node b3.Bd).toNat);have f:=u.le (m':=m) Ab;refine⟨⟨f.n,f.at_,f.data,?_,?_,f.tm,λe he=>?_,λi hi=>?_⟩,?_⟩;.simp only[(MZ _ _ _).1];have:=hr.length_le;have:=d.AV;omega
 .simp only[(MZ _ _ _).1];have:=hd.length_le;have:=d.Bd;omega
 .rcases(MZ _ _ _).2 e he with he|rfl
  .exact d.Dn e (hd.subset he)
  .exact OY
 .rcases(MZ _ _ _).2 i hi with hi|rfl
  .exact d.ZL i (hr.subset hi)
  .exact j
 .simp only[(MZ _ _ _).1];have h1:=hr.length_le;have h2:=B8 List.length (Og.trans gS);omega
def Uu(r:Cs b (m+4*b.AV.length+10))(nm:Au):Cs (b.round nm).2 m/\(b.round nm).2.AV.length<=b.AV.length+1:=by
 have d:Cs b m:=r.le Ab;unfold BS.round;simp only
 split
 .have key:(b.Dx nm).a=b.a/\List.Sublist (b.Dx nm).AV b.AV/\(b.Dx nm).Bd=b.Bd/\(b.Dx nm).tm=b.tm:=by
   unfold BS.Dx;split
   .split;.exact⟨rfl,He.trans EW,rfl,rfl⟩
    .exact⟨rfl,AI _,rfl,rfl⟩
   .exact⟨rfl,AI _,rfl,rfl⟩
  exact⟨d.sub key.1 key.2.1 (by rw[key.2.2.1];exact AI _) (by rw[key.2.2.2];exact Ae _),Bj key.2.1.length_le (EL _)⟩
 .rename_i hf;obtain⟨f,HI,g⟩:=Z4 (Rd.1 hf);have hgd:b.Bd.getD (GA nm b.Bd).toNat Cv.zero=b.Bd[f]:=by rw[g,Bz,Ay,Ak HI];rfl
  have OY:=r.Dn _ (AP HI);rw[hgd];split;.exact⟨d.sub rfl (AI _) CN (Ae _),EL _⟩
  .split;.exact⟨d,EL _⟩
   .split;.exact⟨d.sub rfl He CN (Ae _),Bj He.length_le (EL _)⟩
    .rename_i hk _ hfa;have hlt:(D8 b.Bd[f].node b.AV).toNat-1 -(AR (BL b.Bd[f].node) b.AV).toNat<=b.AV.length:=by
      rw[KZ];split;.omega
      .unfold FA;split;.rename_i j hj;have:=(Jk.1 hj).1;rw[A5] at this;omega
       .omega
     have h1:=Wm (blk:=(b.AV.getD (D8 b.Bd[f].node b.AV).toNat Item.zero).node) (anc:=(b.AV.getD ((AR (BL b.Bd[f].node) b.AV).toNat-1) Item.zero).node) (far:=(D8 b.Bd[f].node b.AV).toNat) (k:=(AR (BL b.Bd[f].node) b.AV).toNat) (m:=m+4) (c:=(D8 b.Bd[f].node b.AV).toNat-1 -(AR (BL b.Bd[f].node) b.AV).toNat) (s:=(b,(b.AV.getD (D8 b.Bd[f].node b.AV).toNat Item.zero).node,(GA nm b.Bd).toNat)) (r.le Ab);have h2:=Z6 (fe:=b.Bd[f]) (blk:=(b.AV.getD (D8 b.Bd[f].node b.AV).toNat Item.zero).node) (anc:=(b.AV.getD ((AR (BL b.Bd[f].node) b.AV).toNat-1) Item.zero).node) h1.1 OY;exact⟨h2.1,Bj h2.2 (Nat.succ_le_succ h1.2)⟩
def RN:∀{n:Nat} {b:BS} {k:Nat},b.AV.length<=k->Cs b (m+n*(4*(k+n)+10))->Cs (BS.E2 n b nm) m/\(BS.E2 n b nm).AV.length<=k+n
 |0,b,k,hk,r=>⟨r.le Ab,hk⟩
 |n+1,b,k,hk,r=>by
  have e:(n+1)*(4*(k+(n+1))+10)=n*(4*(k+1+n)+10)+(4*(k+(n+1))+10):=by rw[Bp,DZ,(Ab:k+(n+1)=k+1+n)]
  rw[e] at r;have h1:=Uu (m:=m+n*(4*(k+1+n)+10)) (r.le Ab) nm;unfold BS.E2;simp only
  split;.have h2:=RN (n:=n) (k:=k+1) Ab h1.1;exact⟨h2.1,Ab⟩
  .exact⟨h1.1.le Ab,Ab⟩
def aD6(w:BX h bi a o c t G b)(hc:Dc b.Bd c)(ok:EF b)(rm:Cs b (m+8*(4*(b.AV.length+8)+10)))(nm:Au):
  ∃h' o' c' G',Co cx 20 [Pt bi 0,.str nm] h (.tuple []) h'/\BX h' bi a o' c' t G' (b.H9 nm)/\Dc (b.H9 nm).Bd c'/\Fv h (BB bi G) h' (BB bi G'):=by
 have ho:=rm.AV;have C:=Ń w rm;have em:Ax (.Cb 1) [.str nm]=some (.sl 1 ([nm].map CW)):=EI (ws:=[nm]) rfl Av;have r2:Co cx 69 [.agg (Hz b.AV).row,.sl 1 ([nm].map CW)] h (.bool (BK [nm] (Hz b.AV))) h:=fG (ws:=[nm]) DR Av _ h;have H:=hc.at w rm (Hz b.AV).node;have E:b.UE.Bd=b.Bd:=by unfold BS.UE;split<;>rfl
 by_cases h1:BK [nm] (Hz b.AV)=true/\F7 (Hz b.AV).node b.Bd<0
 .obtain⟨h2,u,L,q,j⟩:=Ś w rm;have e:b.H9 nm=b.UE:=by unfold BS.H9;rw[Ad h1]
  rw[e];refine⟨h2,u,c,G,?_,q,by rw[E];exact hc,j⟩;rw[h1.1] at r2;rw[Aj,eK,t20];simp only[abS,Iq,(GS w).Ag,C.Ag,em,r2.Ag,H.Ag,h1.2,L.Ag]
 have e:b.H9 nm=BS.E2 8 b nm:=by unfold BS.H9;rw[Ac h1]
 rw[e];have Ng:Ev cx 20 [Pt bi 0,.str nm] h λr h'=>r= .tuple []/\∃o' c' G',BX h' bi a o' c' t G' (BS.E2 8 b nm)/\Dc (BS.E2 8 b nm).Bd c'/\Fv h (BB bi G) h' (BB bi G'):=by
  unfold Ev;rw[eK,t20];have HT:∀(Q:Iw) (k:Fc->List Aa->IT),(∀x vs h1,(x= .exit 0\/x= .ret)->(∃o' c' G',BX h1 bi a o' c' t G' (BS.E2 8 b nm)/\Dc (BS.E2 8 b nm).Bd c'/\Fv h (BB bi G) h1 (BB bi G'))->W cx (k x vs) Q h1)->
    W cx (.loop 5 [I 0] (λd=> .op (.int .lss) [g d 0,I 8] λv14=> .AM v14 (.call 71 [Pt bi 0,.str nm] λB=> .op (.un .not) [B] λv16=> .AM v16 (.ret .ret [g d 0]) (.op (.int .add) [g d 0,I 1] λA=> .ret .normal [A])) (.ret (.exit 0) [g d 0])) k) Q h:=by
   intro Q k hk;refine BF (λn:Nat=>[I ((8 -n:Nat):Int)]) (λn h1=>n<=8/\∃D v y b1,BX h1 bi a D v t y b1/\Dc b1.Bd v/\EF b1/\Cs b1 (m+n*(4*(b.AV.length+8)+10))/\b1.AV.length<=b.AV.length+(8 -n)/\BS.E2 8 b nm=BS.E2 n b1 nm/\Fv h (BB bi G) h1 (BB bi y)) (λn=>n) 8 rfl ⟨Ae _,o,c,G,b,w,hc,ok,rm,Ab,rfl,.refl⟩ ?_;rintro n h1 ⟨hn,D,v,y,b1,w1,UN,qO,H_,Yh,i,z⟩;cases n with
   |zero=>simp only[abS,(Br:¬((8 -0:Nat):Int)<8)];exact hk _ _ _ (.inl rfl) ⟨D,v,y,by rw[i];exact w1,by rw[i];exact UN,z⟩
   |succ n=>
    have hsp:(n+1)*(4*(b.AV.length+8)+10)=n*(4*(b.AV.length+8)+10)+(4*(b.AV.length+8)+10):=by rw[Bp,DZ]
    rw[hsp] at H_;have ũ:Cs b1 (m+n*(4*(b.AV.length+8)+10)+4*b1.AV.length+10):=H_.le Ab;obtain⟨h2,u,J,K,s,q,JJ,j⟩:=aDO w1 UN qO ũ nm;obtain⟨fH,Yi⟩:=Uu ũ nm;have xy:=(ZK (nm:=nm) qO).1;have hlt:((8 -(n+1):Nat):Int)<8:=Ab;have inc:Ax (.int .add) [I ((8 -(n+1):Nat):Int),I 1]=some (I ((8 -n:Nat):Int)):=by have:=Cu (n:=8 -(n+1)) Ab;rwa [(Ab:8 -(n+1)+1=8 -n)] at this
    have f:BS.E2 (n+1) b1 nm=if(b1.round nm).1 then BS.E2 n (b1.round nm).2 nm else(b1.round nm).2:=rfl
    cases hr:(b1.round nm).1 with
    |true=>rw[hr] at s f;simp only[abS,hlt,s.Ag,inc];exact A7.next n rfl ⟨Ab,u,J,K,_,q,JJ,xy,fH,Ab,i.trans f,z.trans j⟩ Ab
    |false=>rw[hr] at s f;simp only[abS,hlt,s.Ag];exact hk _ _ _ (.inr rfl) ⟨u,J,K,by rw[i,f];exact q,by rw[i,f];exact JJ,z.trans j⟩
  by_cases h2:BK [nm] (Hz b.AV)=true
  .have h3:¬F7 (Hz b.AV).node b.Bd<0:=λh=>h1 ⟨h2,h⟩;rw[h2] at r2;simp only[abS,Iq,(GS w).Ag,C.Ag,em,r2.Ag,H.Ag,h3];refine HT _ _ ?_;rintro x vs h1 (rfl|rfl) ⟨o',c',G',a1,a2,a3⟩;.simp only[Cn];exact⟨_,rfl,rfl,o',c',G',a1,a2,a3⟩
   .simp only[Cn];exact⟨_,rfl,rfl,o',c',G',a1,a2,a3⟩
  .have h2:BK [nm] (Hz b.AV)=false:=by simpa using h2
   rw[h2] at r2;simp only[abS,Iq,(GS w).Ag,C.Ag,em,r2.Ag];refine HT _ _ ?_;rintro x vs h1 (rfl|rfl) ⟨o',c',G',a1,a2,a3⟩;.simp only[Cn];exact⟨_,rfl,rfl,o',c',G',a1,a2,a3⟩
   .simp only[Cn];exact⟨_,rfl,rfl,o',c',G',a1,a2,a3⟩
 obtain⟨r,h',hr,rfl,o',c',G',w',QD,x'⟩:=Ng.ret;exact⟨h',o',c',G',hr,w',QD,x'⟩
end
structure l8 where
 k:Int
 name:Au
 AE:List A0
 AY:Int
 a:Int
 b:Bool
 s:Au
 r:Int
 n:Int
def L2(h:Int):Item:=⟨h,0,[],false⟩
def aU(b:BS)(q:l8):BS×Item:=
 if q.k=1 then(b.EV q.name q.AE 1,L2 (b.a.len+1))
 else if q.k=2 then(b.EV q.name q.AE q.AY,L2 (b.U5 q.AY))
 else if q.k=3 then(b.Kv q.name q.AE,L2 (b.a.len+1))
 else if q.k=4 then(b.uG q.r,Item.zero)
 else if q.k=5 then(b.Mu q.s q.a,Item.zero)
 else if q.k=6 then(b.PU q.name q.AE q.n,Item.zero)
 else if q.k=7 then(b.Jd,Item.zero)
 else if q.k=8 then(b.EJ,Item.zero)
 else if q.k=9 then(b.Dx q.name,Item.zero)
 else if q.k=10 then(b.H9 q.name,Item.zero)
 else if q.k=11 then(b.Kz,Item.zero)
 else if q.k=12 then(b.Io q.AE q.a,Item.zero)
 else if q.k=13 then(b.Dm,Item.zero)
 else if q.k=14 then({b with stop:=true},Item.zero)
 else if q.k=15 then({b with Fl:=q.b},Item.zero)
 else if q.k=16 then({b with tm:=b.tm++[q.n]},Item.zero)
 else if q.k=17 then({b with Bd:=b.Bd++[Cv.zero]},Item.zero)
 else if q.k=18 then(b.UE,b.uI)
 else if q.k=19 then({b with head:=q.a},Item.zero)
 else if q.k=20 then({b with mode:=q.n},Item.zero)
 else if q.k=21 then({b with Bd:=H7 b.Bd},Item.zero)
 else if q.k=22 then({b with AV:=D9 Ee (BK [q.name]) b.AV},Item.zero)
 else if q.k=23 then({b with OW:=q.a},Item.zero)
 else if q.k=24 then(b.E1 q.name q.AE q.AY q.a,b.II q.name q.AE q.AY)
 else(b,Item.zero)
structure yk(q:l8):Prop where
 name:q.name.length<=1000
 AE:FZ q.AE
 s:q.s.length<=1000
 r: -2147483648<=q.r/\q.r<=2147483647
section
variable{b:BS}{q:l8}{m j:Nat}
def yl(o:EF b){nm:Au}{l:List A0}{sp p:Int}:EF (b.E1 nm l sp p):=by
 by_cases hs:BS.Ir sp;.exact(RL o hs).1
 .unfold BS.E1;rw[Ac hs];exact o
def fw(o:EF b):EF {b with Bd:=b.Bd++[Cv.zero]}:=by have:=o.sq (e:=Cv.zero) (k:=b.Bd.length) (.inl rfl) (.inl rfl);rw[B6,Hm] at this;exact this
def DV{U:Type}{P:U->Prop}{c:Prop}[Decidable c]{x y:U}(h1:P x)(h2:P y):P (if c then x else y):=by split;exact h1;exact h2
def Uv{P:BS×Item->Prop}(h1:P (b.EV q.name q.AE 1,L2 (b.a.len+1)))(h2:P (b.EV q.name q.AE q.AY,L2 (b.U5 q.AY)))(h3:P (b.Kv q.name q.AE,L2 (b.a.len+1)))(A:P (b.uG q.r,Item.zero))(z:P (b.Mu q.s q.a,Item.zero))(y:P (b.PU q.name q.AE q.n,Item.zero))(x:P (b.Jd,Item.zero))(w:P (b.EJ,Item.zero))(v:P (b.Dx q.name,Item.zero))(fB:P (b.H9 q.name,Item.zero))(iJ:P (b.Kz,Item.zero))(u:P (b.Io q.AE q.a,Item.zero))(t:P (b.Dm,Item.zero))(p:P ({b with stop:=true},Item.zero))(o:P ({b with Fl:=q.b},Item.zero))(l:P ({b with tm:=b.tm++[q.n]},Item.zero))(k:P ({b with Bd:=b.Bd++[Cv.zero]},Item.zero))(i:P (b.UE,b.uI))(h:P ({b with head:=q.a},Item.zero))(g:P ({b with mode:=q.n},Item.zero))(f:P ({b with Bd:=H7 b.Bd},Item.zero))(e:P ({b with AV:=D9 Ee (BK [q.name]) b.AV},Item.zero))(d:P ({b with OW:=q.a},Item.zero))(c:P (b.E1 q.name q.AE q.AY q.a,b.II q.name q.AE q.AY))(h0:P (b,Item.zero)):P (aU b q):=by unfold aU;exact DV h1 (DV h2 (DV h3 (DV A (DV z (DV y (DV x (DV w (DV v (DV fB (DV iJ (DV u (DV t (DV p (DV o (DV l (DV k (DV i (DV h (DV g (DV f (DV e (DV d (DV c (h0))))))))))))))))))))))))
def ym(o:EF b):EF (aU b q).1:=Uv (P:=λr=>EF r.1) (QW (nm:=q.name) (at_:=q.AE) (sp:=1) o) (QW o) (oY o) (cj o) (eE o) (eF o) (o7 o) (eI o) (Wd o) (o9 o) (PY o) (uO o) (T8 o) (o.of_eq rfl rfl rfl rfl) (o.of_eq rfl rfl rfl rfl) (o.of_eq rfl rfl rfl rfl) (fw o) (uP o) (o.of_eq rfl rfl rfl rfl) (o.of_eq rfl rfl rfl rfl) (o.eB (EE _ _)) (o.XC EW) (o.of_eq rfl rfl rfl rfl) (yl o) o
def Cs.mA{k m:Nat}{h:Int}{x:Ek}(r:Cs b (m+k))(h1:x.AE.length<=(b.a.nd h).AE.length+k\/x.AE.length<=1000)(h2:x.data.length<=(b.a.nd h).data.length+k\/x.data.length<=100000):Cs {b with a:=b.a.set h x} m:=by
 have hn:(b.a.set h x).n.length=b.a.n.length:=by have:=bo (A:=b.a) (h:=h) (x:=x);unfold Ar.len at this;omega
 have c:=r.le (m':=m) Ab;have rn:=r.n;refine⟨by simp only;rw[hn];exact c.n,λy=>?_,λy=>?_,c.AV,c.Bd,c.tm,c.Dn,c.ZL⟩
 .simp only;rw[IH];split;.rename_i d;have:=r.at_ h;omega
  .exact c.at_ y
 .simp only;rw[IH];split;.have:=r.data h;omega
  .exact c.data y
def Z7{m:Nat}{s:Au}{p bf:Int}(r:Cs b (m+5))(hs:s.length<=4):Cs {b with a:=BS.OX b.a s p bf} m:=by
 have LG:∀d,Cs {b with a:=(b.a.add {kind:=5,CQ:=d,data:=s}).Hc (b.a.len+1) p bf} m:=λd=>((r.le (m':=m+1) Ab).FC (LY (AZ _) Gp)).Ka Kj
 have c:=r.le (m':=m) Ab;unfold BS.OX;split
 .split
  .split;.exact Cs.mA (k:=5) r (.inl Gp) (.inl (by simp only[Ap];omega))
   .exact LG _
  .exact LG _
 .exact c
def NB{m:Nat}{s:Au}{p bf:Int}(r:Cs b (m+5))(hs:s.length<=100000):Cs {b with a:=BS.Hu b.a s p bf} m:=by
 unfold BS.Hu;split;.exact((r.le (m':=m+1) Ab).FC (LY (AZ _) hs)).Ka Kj
 .exact r.le Ab
end
section
variable{b:BS}{q:l8}{m j:Nat}{nm:Au}
def fM{l:List A0}{x:Int}(r:Cs b (m+1000))(hl:l.length<=1000):Cs (b.Io l x) m:=by
 unfold BS.Io;split;.refine Cs.mA (k:=1000) r (.inl ?_) (.inl Gp);have:=NX (l:=(b.a.nd x).AE++BS.plain l);rw[Ap,BS.plain,As] at this;unfold BS.plain;simp only;omega
 .exact r.le Ab
def Wn:∀{l:List Cv} {b:BS},(BS.JB l b).2.AV.length<=b.AV.length+l.length/\(BS.JB l b).2.Bd=b.Bd/\(BS.JB l b).1.length=l.length/\∀e∈(BS.JB l b).1,∃a∈l,e.name=a.name/\e.AE=a.AE
 |[],b=>⟨by simp[BS.JB],rfl,rfl,λe he=>by simp[BS.JB] at he⟩
 |e::l,b=>by
  obtain⟨h1,h2,h3,f⟩:=Wn (l:=l) (b:=b.EV e.name e.AE 1);have h:(b.EV e.name e.AE 1).AV.length<=b.AV.length+1:=by
   unfold BS.EV;rw[Ad KM];simp only
   have:(b.E1 e.name e.AE 1 (b.place 0).1).AV=b.AV:=by unfold BS.E1;rw[Ad KM]
   rw[Ap,BN];first|(rw[this];exact Ae _)|exact Ae _
  rw[BS.JB];refine⟨by simp only[AO];omega,by simp only;rw[h2,Hg],by simp only[AO,h3],λg he=>?_⟩;rcases Az.1 he with rfl|he
  .exact⟨e,Av,rfl,rfl⟩
  .obtain⟨a,d,c⟩:=f g he;exact⟨a,by simp[d],c⟩
def X4(r:Cs b (m+4*b.Bd.length)):Cs b.EJ m/\b.EJ.AV.length<=b.AV.length+b.Bd.length/\b.EJ.Bd.length=b.Bd.length:=by
 have hk:=XX (b:=b);have a:=Wl (l:=b.Bd.drop b.MS) (b:=b) (m:=m) (r.le (by rw[A5];omega)) λe he=>r.Dn e (Bc he);obtain⟨h1,h2,h3,g⟩:=Wn (l:=b.Bd.drop b.MS) (b:=b);rw[A5] at h1 h3;have hl:b.EJ.Bd.length=b.Bd.length:=by unfold BS.EJ;simp only[Ap,Aw,h3];omega
 refine⟨⟨a.n,a.at_,a.data,a.AV,?_,a.tm,λe he=>?_,a.ZL⟩,by unfold BS.EJ;simp only;omega,hl⟩;.rw[hl];have:=r.Bd;omega
 .unfold BS.EJ at he;simp only at he;rcases An.1 he with he|he
  .exact r.Dn e (AS he)
  .obtain⟨h,f,d,c⟩:=g e he;rw[d,c];exact r.Dn h (Bc f)
def Z8{blk anc:Int}{far k:Nat}:∀{c:Nat} {s:BS×Int×Nat},(BS.Lq blk anc far k c s).1.Bd.length<=s.1.Bd.length
 |0,s=>Ae _
 |c+1,s=>by
  refine Bj (Z8 (c:=c)) ?_;unfold BS.Gj;simp only
  split;.exact Ae _
  .split;.exact CN.length_le
   .have:∀nm l p,(s.1.E1 nm l 1 p).Bd=s.1.Bd:=λnm l p=>by unfold BS.E1;rw[Ad KM]
    simp only[this,BJ];exact Ae _
def pU:(b.round nm).2.Bd.length<=b.Bd.length+1:=by
 unfold BS.round;simp only
 split
 .have:(b.Dx nm).Bd=b.Bd:=by
   unfold BS.Dx;split;.split<;>rfl
   .rfl
  rw[this];omega
 .split;.exact Bj CN.length_le (EL _)
  .split;.exact EL _
   .split;.exact Bj CN.length_le (EL _)
    .unfold BS.Hd;simp only
     generalize hs:BS.Lq _ _ _ _ _ _=s;have h1:s.1.Bd.length<=b.Bd.length:=by rw[<-hs];exact Z8
     have:∀(b2:BS) nm l p,(b2.E1 nm l 1 p).Bd=b2.Bd:=λb2 nm l p=>by unfold BS.E1;rw[Ad KM]
     simp only[this,Ap,AO,Aw,A5];have h2:∀k,(Bm s.1.Bd k).length<=s.1.Bd.length:=λk=>CN.length_le;refine Bj (m:=(Bm s.1.Bd (F7 (b.Bd.getD (GA nm b.Bd).toNat Cv.zero).node s.1.Bd).toNat).length+1) ?_ (Nat.succ_le_succ (Bj (h2 _) h1));omega
def Uw:∀{n:Nat} {b:BS},(BS.E2 n b nm).Bd.length<=b.Bd.length+n
 |0,b=>Ae _
 |n+1,b=>by
  have h:=pU (b:=b) (nm:=nm);unfold BS.E2;simp only
  split;.have:=Uw (n:=n) (b:=(b.round nm).2);omega
  .omega
structure Sz(b:BS)(j:Nat):Prop where
 rm:Cs b (5000000*j)
 AV:b.AV.length+1200*j<=125000
 Bd:b.Bd.length+10*j<=1100
def Sz.of{b':BS}(h:Sz b (j+1))(r:Cs b' (5000000*j))(h1:b'.AV.length<=b.AV.length+1200)(h2:b'.Bd.length<=b.Bd.length+10):Sz b' j:=⟨r,by have:=h.AV;omega,by have:=h.Bd;omega⟩
def Sz.fN{k:Nat}(h:Sz b (j+1))(hk:k<=5000000:=by omega):Cs b (5000000*j+k):=h.rm.le Ab
def Sz.MT{b':BS}(h:Sz b (j+1))(ha:b'.a=b.a)(ho:b'.AV.Sublist b.AV)(hc:b'.Bd.Sublist b.Bd)(ht:b'.tm.length<=b.tm.length):Sz b' j:=
 h.of ((h.rm.le Ab).sub ha ho hc ht) (by have:=ho.length_le;omega) (by have:=hc.length_le;omega)
def Sz.UE(h:Sz b (j+1)):Sz b.UE j:=by
 unfold BS.UE;split;.exact h.MT rfl (AI _) (AI _) (Ae _)
 .exact h.MT rfl (EE _ _) (AI _) (Ae _)
def P8{l:List A0}{sp:Int}:(b.EV nm l sp).AV.length<=b.AV.length+1200:=by
 unfold BS.EV;split
 .rename_i hs;have:(b.E1 nm l sp (b.place 0).1).AV=b.AV:=by unfold BS.E1;rw[Ad hs]
  have:=B8 List.length this;simp only[Ap,BN];omega
 .omega
def fO{l:List A0}:(b.Kv nm l).Bd.length<=b.Bd.length+10:=by
 unfold BS.Kv;simp only
 obtain⟨l',h1,h2⟩:=T7 (l:=(b.EV nm l 1).Bd) (e:=⟨b.a.len+1,nm,l⟩);rw[h2,Ap,BN];have:=h1.length_le;rw[Hg] at this;omega
def yn(h:Sz b (j+1))(hq:yk q):Sz (aU b q).1 j:=Uv (P:=λr=>Sz r.1 j)
 (h.of (LZ (sp:=1) h.fN hq.AE hq.name) P8 (by rw[Hg];omega))
 (h.of (LZ h.fN hq.AE hq.name) P8 (by rw[Hg];omega))
 (h.of (ZN h.fN hq.AE hq.name) P8 fO)
 (h.of (Z7 h.fN (ZX _)) (E3 _ _) (E3 _ _))
 (by
  dsimp only;unfold BS.Mu;split;.exact h.of (NB h.fN (by have:=hq.s;omega)) (E3 _ _) (E3 _ _)
  .exact h.of (NB h.fN (by have:=hq.s;omega)) (E3 _ _) (E3 _ _))
 (h.of ((LZ h.fN hq.AE hq.name).eq rfl rfl rfl rfl) P8 (by show(b.EV q.name q.AE 1).Bd.length<=_;rw[Hg];omega))
 (by
  dsimp only;unfold BS.Jd;split;.exact h.MT rfl (EW.trans EW) (AI _) (Ae _)
  .exact h.MT rfl (AI _) (AI _) (Ae _))
 (by dsimp only;have h1:=X4 (m:=5000000*j) (h.rm.le (by have:=h.Bd;omega));exact h.of h1.1 (by have:=h.Bd;have:=h1.2.1;omega) (by rw[h1.2.2];omega))
 (by
  dsimp only;unfold BS.Dx;split
  .split;.exact h.MT rfl (He.trans EW) (AI _) (Ae _)
   .exact h.MT rfl (AI _) (AI _) (Ae _)
  .exact h.MT rfl (AI _) (AI _) (Ae _))
 (by
  dsimp only;unfold BS.H9;split;.exact h.UE
  .have h1:=RN (n:=8) (b:=b) (k:=b.AV.length) (nm:=q.name) (m:=5000000*j) (Ae _) (h.rm.le (by have:=h.AV;omega));exact h.of h1.1 (by have:=h1.2;omega) (by have:=Uw (n:=8) (b:=b) (nm:=q.name);omega))
 (h.MT rfl (AI _) (AI _) (Ae _))
 (by
  dsimp only;have e:(b.Io q.AE q.a).AV=b.AV/\(b.Io q.AE q.a).Bd=b.Bd:=by unfold BS.Io;split<;>exact⟨rfl,rfl⟩
  exact h.of (fM (m:=5000000*j) (h.rm.le Ab) hq.AE.1) (by rw[e.1];omega) (by rw[e.2];omega))
 (by
  dsimp only;unfold BS.Dm;split;.exact h.MT rfl (AI _) (AI _) (Ae _)
  .exact h.MT rfl (show(D9 Ee (BK [BG]) (D9 DI Ee b.AV)).Sublist b.AV from EW.trans EW) (EE _ _) (Av:b.tm.dropLast.length<=b.tm.length))
 (h.MT rfl (AI _) (AI _) (Ae _))
 (h.MT rfl (AI _) (AI _) (Ae _))
 (by dsimp only;have r:=h.rm.le (m':=5000000*j+1) Ab;have c:=r.le (m':=5000000*j) Ab;exact h.of ⟨c.n,c.at_,c.data,c.AV,c.Bd,by have:=r.tm;simp only[Ap,BN];omega,c.Dn,c.ZL⟩ (E3 _ _) (E3 _ _))
 (by
  dsimp only;refine h.of ((h.rm.le (m':=5000000*j+1) Ab).j_ (e:=Cv.zero) Av (λe he=>?_) ⟨Br,Br,λa ha=>by cases ha⟩) (E3 _ _) Av;rcases An.1 he with he|he
  .exact .inl he
  .exact .inr (by simpa using he))
 (h.UE)
 (h.MT rfl (AI _) (AI _) (Ae _))
 (h.MT rfl (AI _) (AI _) (Ae _))
 (h.MT rfl (AI _) (EE _ _) (Ae _))
 (h.MT rfl EW (AI _) (Ae _))
 (h.MT rfl (AI _) (AI _) (Ae _))
 (by
  dsimp only;have e:(b.E1 q.name q.AE q.AY q.a).AV=b.AV/\(b.E1 q.name q.AE q.AY q.a).Bd=b.Bd:=by unfold BS.E1;split<;>exact⟨rfl,rfl⟩
  exact h.of (Kb (m:=5000000*j) (h.rm.le Ab) hq.AE) (by rw[e.1];omega) (by rw[e.2];omega))
 (h.MT rfl (AI _) (AI _) (Ae _))
end
def P9(q:l8)(av:Aa):List Aa:=[I q.k,.str q.name,av,I q.AY,I q.a,.bool q.b,.str q.s,.int .i32 q.r,I q.n]
section
variable{h h':Ah}{bi a:Nat}{o c t:Aa}{G G' F:Nat->Prop}{b:BS}{x:Int}{m j:Nat}{q:l8}
variable{nm:Au}{av:Aa}{l:List A0}{r:List Aa}{sp p:Int}
def pV(hv:Cw q.AE av)(hl:q.AE.length<=1000)(h:Ah):∃r ll,Co cx 27 [.agg (P9 q av)] h (.agg r) h/\Ve q.name ll r/\Cw q.AE ll:=by have yQ:AN=140737488355328:=rfl;obtain⟨u,e,hu⟩:=Bn.Nr (b:=40) hv Ab;have hc:u.cells=[u]:=Bn.cells hu;refine⟨_,u,?_,⟨I 2,ff,S [],ff,S [],ff,ff,ff,S [],.int .i32 0,rfl⟩,hu⟩;rw[Aj,tc,t27,P9];simp only[abS,Nat.reduceLeDiff,↓reduceIte,Bl,e,hc]
def Ū(i:Item)(h:Ah):Co cx 39 [.agg i.row] h (.agg i.row) h:=by rw[Aj,tk,t39,Item.row];simp only[abS,Nat.reduceLeDiff,↓reduceIte,Bl]
set_option maxHeartbeats 4000000 in
def aD7(w:BX h bi a o c t G b)(hc:Dc b.Bd c)(ok:EF b)(sz:Sz b (j+1))(hq:yk q)(hv:Cw q.AE av):
  ∃h' o' c' t' G',Co cx 9 [Pt bi 0,.agg (P9 q av)] h (.agg (aU b q).2.row) h'/\BX h' bi a o' c' t' G' (aU b q).1/\Dc (aU b q).1.Bd c'/\Fv h (BB bi G) h' (BB bi G'):=by
 unfold aU P9;by_cases d:q.k=1;.rw[Ad d];dsimp only;obtain⟨r,ll,D,hr,HZ⟩:=pV (q:=q) hv hq.AE.1 h;rw[P9] at D;obtain⟨h',o',G',r2,w',x'⟩:=eo (m:=5000000*j) w ok sz.fN hr HZ hq.AE hq.name;refine⟨h',o',c,t,G',?_,w',by rw[Hg];exact hc,x'⟩;rw[Aj,GB,t9];simp only[abS,Nat.reduceLeDiff,↓reduceIte,Bl,Cg d,D.Ag,r2.Ag];try rfl
 rw[Ac d];by_cases f:q.k=2;.rw[Ad f];dsimp only;obtain⟨r,ll,D,hr,HZ⟩:=pV (q:=q) hv hq.AE.1 h;rw[P9] at D;obtain⟨h',o',G',r2,w',x'⟩:=ŋ (m:=5000000*j) w ok sz.fN hr HZ hq.AE hq.name q.AY;refine⟨h',o',c,t,G',?_,w',by rw[Hg];exact hc,x'⟩;rw[Aj,GB,t9];simp only[abS,Nat.reduceLeDiff,↓reduceIte,Bl,d,Cg f,D.Ag,r2.Ag];try rfl
 rw[Ac f];by_cases g:q.k=3;.rw[Ad g];dsimp only;obtain⟨r,ll,D,hr,HZ⟩:=pV (q:=q) hv hq.AE.1 h;rw[P9] at D;obtain⟨h',o',c',G',r2,w',QD,x'⟩:=aDq (m:=5000000*j) w hc ok sz.fN hr HZ hq.AE hq.name;refine⟨h',o',c',t,G',?_,w',QD,x'⟩;rw[Aj,GB,t9];simp only[abS,Nat.reduceLeDiff,↓reduceIte,Bl,d,f,Cg g,D.Ag,r2.Ag];try rfl
 rw[Ac g];by_cases i:q.k=4;.rw[Ad i];dsimp only;obtain⟨h',G',r2,w',x'⟩:=aDt (m:=5000000*j) w ok sz.fN q.r hq.r;refine⟨h',o,c,t,G',?_,w',hc,x'⟩;rw[Aj,GB,t9];simp only[abS,↓reduceIte,Bl,d,f,g,Cg i,r2.Ag];try rfl
 rw[Ac i];by_cases y:q.k=5;.rw[Ad y];dsimp only;obtain⟨h',G',r2,w',x'⟩:=aDv (m:=5000000*j) w ok sz.fN q.s (by have:=hq.s;omega) q.a;refine⟨h',o,c,t,G',?_,w',hc,x'⟩;rw[Aj,GB,t9];simp only[abS,↓reduceIte,Bl,d,f,g,i,Cg y,r2.Ag];try rfl
 rw[Ac y];by_cases z:q.k=6;.rw[Ad z];dsimp only;obtain⟨r,ll,D,hr,HZ⟩:=pV (q:=q) hv hq.AE.1 h;rw[P9] at D;obtain⟨h',o',G',r2,w',x'⟩:=aDw (m:=5000000*j) w ok sz.fN hr HZ hq.AE hq.name q.n;refine⟨h',o',c,t,G',?_,w',by show Dc (b.EV q.name q.AE 1).Bd c;rw[Hg];exact hc,x'⟩;rw[Aj,GB,t9];simp only[abS,↓reduceIte,Bl,d,f,g,i,y,Cg z,D.Ag,r2.Ag];try rfl
 rw[Ac z];by_cases A:q.k=7;.rw[Ad A];dsimp only;obtain⟨h',o',r2,w',x'⟩:=aDx w sz.rm;refine⟨h',o',c,t,G,?_,w',by have e:b.Jd.Bd=b.Bd:=(by unfold BS.Jd;split<;>rfl);rw[e];exact hc,x'⟩;rw[Aj,GB,t9];simp only[abS,↓reduceIte,Bl,d,f,g,i,y,z,Cg A,r2.Ag];try rfl
 rw[Ac A];by_cases B:q.k=8;.rw[Ad B];dsimp only;obtain⟨h',o',c',G',r2,w',QD,x'⟩:=aDE (m:=5000000*j) w hc ok (sz.rm.le (by have:=sz.Bd;omega));refine⟨h',o',c',t,G',?_,w',QD,x'⟩;rw[Aj,GB,t9];simp only[abS,↓reduceIte,Bl,d,f,g,i,y,z,A,Cg B,r2.Ag];try rfl
 rw[Ac B];by_cases C:q.k=9;.rw[Ad C];dsimp only;obtain⟨h',o',r2,w',x'⟩:=œ w sz.rm q.name;refine⟨h',o',c,t,G,?_,w',by have e:(b.Dx q.name).Bd=b.Bd:=(by unfold BS.Dx;split;split<;>rfl;rfl);rw[e];exact hc,x'⟩;rw[Aj,GB,t9];simp only[abS,↓reduceIte,Bl,d,f,g,i,y,z,A,B,Cg C,r2.Ag];try rfl
 rw[Ac C];by_cases Ym:q.k=10;.rw[Ad Ym];dsimp only;obtain⟨h',o',c',G',r2,w',QD,x'⟩:=aD6 (m:=5000000*j) w hc ok (sz.rm.le (by have:=sz.AV;omega)) q.name;refine⟨h',o',c',t,G',?_,w',QD,x'⟩;rw[Aj,GB,t9];simp only[abS,↓reduceIte,Bl,d,f,g,i,y,z,A,B,C,Cg Ym,r2.Ag];try rfl
 rw[Ac Ym];by_cases Z9:q.k=11;.rw[Ad Z9];dsimp only;obtain⟨h',r2,w',x'⟩:=e_ w sz.rm;refine⟨h',o,c,t,G,?_,w',hc,x'⟩;rw[Aj,GB,t9];simp only[abS,↓reduceIte,Bl,d,f,g,i,y,z,A,B,C,Ym,Cg Z9,r2.Ag];try rfl
 rw[Ac Z9];by_cases aV:q.k=12;.rw[Ad aV];dsimp only;obtain⟨r,ll,D,hr,HZ⟩:=pV (q:=q) hv hq.AE.1 h;rw[P9] at D;obtain⟨h',G',r2,w',x'⟩:=aDA (m:=5000000*j) w ok sz.fN hr HZ hq.AE q.a;refine⟨h',o,c,t,G',?_,w',by have e:(b.Io q.AE q.a).Bd=b.Bd:=(by unfold BS.Io;split<;>rfl);rw[e];exact hc,x'⟩;rw[Aj,GB,t9];simp only[abS,↓reduceIte,Bl,d,f,g,i,y,z,A,B,C,Ym,Z9,Cg aV,D.Ag,r2.Ag];try rfl
 rw[Ac aV];by_cases fP:q.k=13;.rw[Ad fP];dsimp only;obtain⟨h',o',c',t',r2,w',QD,x'⟩:=aDB w hc sz.rm;refine⟨h',o',c',t',G,?_,w',QD,x'⟩;rw[Aj,GB,t9];simp only[abS,↓reduceIte,Bl,d,f,g,i,y,z,A,B,C,Ym,Z9,aV,Cg fP,r2.Ag];try rfl
 rw[Ac fP];by_cases mB:q.k=14;.rw[Ad mB];dsimp only;obtain⟨h',r2,w',x'⟩:=aDD w;refine⟨h',o,c,t,G,?_,w',hc,x'⟩;rw[Aj,GB,t9];simp only[abS,↓reduceIte,Bl,d,f,g,i,y,z,A,B,C,Ym,Z9,aV,fP,Cg mB,r2.Ag];try rfl
 rw[Ac mB];by_cases pW:q.k=15;.rw[Ad pW];dsimp only;have w':BX (put h bi 15 (.bool q.b)) bi a o c t G {b with Fl:=q.b}:=w.put rfl rfl w.o w.t;refine⟨put h bi 15 (.bool q.b),o,c,t,G,?_,w',hc,B7⟩;rw[Aj,GB,t9];simp only[abS,↓reduceIte,Bl,d,f,g,i,y,z,A,B,C,Ym,Z9,aV,fP,mB,Cg pW,w.st (k:=15) (v:= .bool q.b) rfl rfl];try rfl
 rw[Ac pW];by_cases qP:q.k=16;.rw[Ad qP];dsimp only;have J:=sz.rm.tm;have yQ:AN=140737488355328:=rfl;obtain⟨u,L,hu⟩:=w.t.1.Nr Ab;have K:=Bn.V6 (b:=8) (a:=q.n) hu Ab;have em:Ax (.Cb 1) [I q.n]=some (.sl 1 [Dz q.n]):=rfl;have PG:EC (b.tm++[q.n]) (.sl 1 ((b.tm++[q.n]).map Dz)):= .mk;have w':=w.yb (Vb.sI (l:=b.tm) (m:=q.n));refine⟨put h bi 6 (.sl 1 ((b.tm++[q.n]).map Dz)),o,c,_,G,?_,w',hc,B7⟩;rw[Aj,GB,t9];simp only[abS,↓reduceIte,Bl,d,f,g,i,y,z,A,B,C,Ym,Z9,aV,fP,mB,pW,Cg qP,w.l6,L,em,K,w.st (k:=6) (v0:=t) rfl (Bn.cells PG)];try rfl
 rw[Ac qP];by_cases xU:q.k=17;.rw[Ad xU];dsimp only;have aQ:=sz.rm.Bd;obtain⟨fs,KQ,YJ⟩:=hc;obtain⟨u,r2,hu⟩:=f63 (h:=h) (id:=bi) (o:=3) (l:=fs) ⟨c,w.xF,YJ⟩ (by rw[<-KQ,As] at aQ;omega);have w':=w.Q4 (u:=u) (l:=b.Bd++[Cv.zero]);have QD:Dc (b.Bd++[Cv.zero]) u:=⟨_,by rw[BW,KQ];rfl,hu⟩;refine⟨put h bi 3 u,o,u,t,G,?_,w',QD,B7⟩;rw[Aj,GB,t9];simp only[abS,↓reduceIte,Bl,d,f,g,i,y,z,A,B,C,Ym,Z9,aV,fP,mB,pW,qP,Cg xU,r2.Ag];try rfl
 rw[Ac xU];by_cases yV:q.k=18;.rw[Ad yV];dsimp only;obtain⟨h',o',r2,w',x'⟩:=Ś w sz.rm;have H:=Ū b.uI h';refine⟨h',o',c,t,G,?_,w',by have e:b.UE.Bd=b.Bd:=(by unfold BS.UE;split<;>rfl);rw[e];exact hc,x'⟩;rw[Aj,GB,t9];simp only[abS,↓reduceIte,Bl,Iq,d,f,g,i,y,z,A,B,C,Ym,Z9,aV,fP,mB,pW,qP,xU,Cg yV,r2.Ag,H.Ag];try rfl
 rw[Ac yV];by_cases fx:q.k=19;.rw[Ad fx];dsimp only;have w':BX (put h bi 7 (I q.a)) bi a o c t G {b with head:=q.a}:=w.put rfl rfl w.o w.t;refine⟨put h bi 7 (I q.a),o,c,t,G,?_,w',hc,B7⟩;rw[Aj,GB,t9];simp only[abS,↓reduceIte,Bl,d,f,g,i,y,z,A,B,C,Ym,Z9,aV,fP,mB,pW,qP,xU,yV,Cg fx,w.st (k:=7) (v:= I q.a) rfl rfl];try rfl
 rw[Ac fx];by_cases lq:q.k=20;.rw[Ad lq];dsimp only;have w':=w.ya q.n;refine⟨put h bi 4 (I q.n),o,c,t,G,?_,w',hc,B7⟩;rw[Aj,GB,t9];simp only[abS,↓reduceIte,Bl,d,f,g,i,y,z,A,B,C,Ym,Z9,aV,fP,mB,pW,qP,xU,yV,fx,Cg lq,w.st (k:=4) (v:= I q.n) rfl rfl];try rfl
 rw[Ac lq];by_cases yo:q.k=21;.rw[Ad yo];dsimp only;have aQ:=sz.rm.Bd;obtain⟨fs,KQ,YJ⟩:=hc;obtain⟨u,r2,hu⟩:=f65 (h:=h) (id:=bi) (o:=3) (l:=fs) ⟨c,w.xF,YJ⟩ (by rw[<-KQ,As] at aQ;omega);have w':=w.Q4 (u:=u) (l:=H7 b.Bd);have QD:Dc (H7 b.Bd) u:=⟨_,by rw[lV,KQ],hu⟩;refine⟨put h bi 3 u,o,u,t,G,?_,w',QD,B7⟩;rw[Aj,GB,t9];simp only[abS,↓reduceIte,Bl,d,f,g,i,y,z,A,B,C,Ym,Z9,aV,fP,mB,pW,qP,xU,yV,fx,lq,Cg yo,r2.Ag];try rfl
 rw[Ac yo];by_cases O_:q.k=22;.rw[Ad O_];dsimp only;have ho:=sz.rm.AV;have em:Ax (.Cb 1) [.str q.name]=some (.sl 1 ([q.name].map CW)):=EI (ws:=[q.name]) rfl Av;obtain⟨u,r2,hu⟩:=f66 w.sO Ab (DR (ws:=[q.name])) Av;have w':=w.Nz hu;refine⟨put h bi 2 u,u,c,t,G,?_,w',hc,B7⟩;rw[Aj,GB,t9];simp only[abS,↓reduceIte,Bl,d,f,g,i,y,z,A,B,C,Ym,Z9,aV,fP,mB,pW,qP,xU,yV,fx,lq,yo,Cg O_,em,r2.Ag];try rfl
 rw[Ac O_];by_cases ū:q.k=23;.rw[Ad ū];dsimp only;have w':BX (put h bi 8 (I q.a)) bi a o c t G {b with OW:=q.a}:=w.put rfl rfl w.o w.t;refine⟨put h bi 8 (I q.a),o,c,t,G,?_,w',hc,B7⟩;rw[Aj,GB,t9];simp only[abS,↓reduceIte,Bl,d,f,g,i,y,z,A,B,C,Ym,Z9,aV,fP,mB,pW,qP,xU,yV,fx,lq,yo,O_,Cg ū,w.st (k:=8) (v:= I q.a) rfl rfl];try rfl
 rw[Ac ū];by_cases E:q.k=24;.rw[Ad E];dsimp only;obtain⟨r,ll,D,hr,HZ⟩:=pV (q:=q) hv hq.AE.1 h;rw[P9] at D;obtain⟨h',G',r2,w',x'⟩:=xH (m:=5000000*j) w ok sz.fN hr HZ hq.AE hq.name q.a q.AY;have H:=Ū (b.II q.name q.AE q.AY) h';refine⟨h',o,c,t,G',?_,w',by have e:(b.E1 q.name q.AE q.AY q.a).Bd=b.Bd:=(by unfold BS.E1;split<;>rfl);rw[e];exact hc,x'⟩;rw[Aj,GB,t9];simp only[abS,↓reduceIte,Bl,Iq,d,f,g,i,y,z,A,B,C,Ym,Z9,aV,fP,mB,pW,qP,xU,yV,fx,lq,yo,O_,ū,Cg E,D.Ag,r2.Ag,H.Ag];try rfl
 rw[Ac E];refine⟨h,o,c,t,G,?_,w,hc,.refl⟩;rw[Aj,GB,t9];simp only[abS,↓reduceIte,Bl,d,f,g,i,y,z,A,B,C,Ym,Z9,aV,fP,mB,pW,qP,xU,yV,fx,lq,yo,O_,ū,E];try rfl
end
def Q8:∀l:List Int,(l.map Dz).flatten=l.map (Aa.int .i64)
 |[]=>rfl
 |x::l=>by simp[Dz,Q8 l]
def ls(q:Bool):Ar:={n:=[{kind:=1,CQ:=1,CS:=q}],i:=[0]}
def Fp(q:Bool):BS:={a:=ls q,CQ:=1,AV:=[],Bd:=[],mode:=1,ZC:=0,tm:=[],head:=0,OW:=0,Nw:=false,ctx:=Item.zero,fs:=true,Fl:=false,oT:=[],skip:=false,sw:=0,stop:=false}
def JH(sp:Int)(nm:Au)(l:List A0)(q:Bool):BS:=
 {(Fp q).E1 Fu [] 1 1 with a:=((Fp q).E1 Fu [] 1 1).a.Hc ((Fp q).II Fu [] 1).node 1 0,AV:=((Fp q).E1 Fu [] 1 1).AV++[(Fp q).II Fu [] 1],Nw:=true,ctx:=⟨0,sp,nm,Hs sp nm l⟩}
def Ox(sp:Int)(nm:Au)(l:List A0)(q:Bool):BS:=if BK [BG] (JH sp nm l q).ctx then{JH sp nm l q with tm:=[18]} else JH sp nm l q
def aA(sp:Int)(nm:Au)(l:List A0)(q f:Bool):BS:=if f then{(Ox sp nm l q).Kz with OW:= -1} else(Ox sp nm l q).Kz
structure GN where
 Nw:Bool
 AY:Int
 name:Au
 AE:List A0
 CS:Bool
 OW:Bool
def GN.b(s:GN):BS:=if s.Nw then aA s.AY s.name s.AE s.CS s.OW else Fp s.CS
def aB(s:GN)(av:Aa):List Aa:=[.bool s.Nw,I s.AY,.str s.name,av,.bool s.CS,.bool s.OW]
def yp(q:Bool):DS (ls q) 0:=by
 have h0:DS (⟨[],[]⟩:Ar) 0:=by
  have hn:∀h,¬(⟨[],[]⟩:Ar).has h:=λh d=>by have h1:=d.1;have h2:=d.2;simp at h2;omega
  exact⟨rfl,λh d=>absurd d (hn h),λh d=>absurd d (hn h),λh d=>absurd d (hn h),λh d=>absurd d (hn h),λh d=>absurd d (hn h),λh d=>absurd d (hn h),λh d=>absurd d (hn h),λh d=>absurd d (hn h),λh d=>absurd d (hn h),⟨λ_=>0,λh d=>absurd d (hn h)⟩⟩
 have hx:iX {kind:=1,CQ:=1,CS:=q}:=by constructor<;>simp[Cp,Gi]
 exact T0 h0 hx (.inl ⟨rfl,rfl⟩) rfl rfl rfl rfl (λh=>absurd h.1 (Br:¬(1:Int)=4))
def Qa(q:Bool):EF (Fp q):=by refine⟨yp q,⟨⟨L4 1,L4 1⟩,rfl⟩,λi hi=>(nomatch hi),IN,λe he=>(nomatch he),IN⟩
def X5{q:Bool}(x:Int):(Fp q).a.nd x=if x=1 then{kind:=1,CQ:=1,CS:=q} else{}:=by
 unfold Ar.nd;by_cases h:x=1;.subst h;rfl
 .rw[Ac h,Ac];intro d;have h1:=d.1;have h2:=d.2;simp[Fp,ls] at h2;omega
def N3(q:Bool):Sz (Fp q) 101:=by
 refine⟨⟨by simp[Fp,ls],λx=>?_,λx=>?_,by simp[Fp],by simp[Fp],by simp[Fp],λe he=>(nomatch he),λi hi=>(nomatch hi)⟩,by simp[Fp],by simp[Fp]⟩;.rw[X5];split<;>simp
 .rw[X5];split<;>simp
section
variable{h h':Ah}{bi a:Nat}{o c t:Aa}{G G' F:Nat->Prop}{b:BS}{x:Int}{m j:Nat}{q:l8}
variable{nm:Au}{av:Aa}{l:List A0}{r:List Aa}{sp p:Int}
def aD8(h:Ah)(q:Bool):∃h1 h',Co cx 23 [] h (Pt h.length 0) h1/\Co cx 24 [Pt h.length 0,.bool q] h1 (I 1) h'/\PA h' h.length (h.length+1) none [⟨{kind:=1,CQ:=1,CS:=q},.slnil,.slnil,rfl⟩] (ls q)/\h'=h++[.cells [.CI (h.length+1) 0 1 13,.map none],.cells [I 1,I 0,.slnil,I 1,I 0,S [],.slnil,S [],S [],S [],.bool q,I 0,I 0]]:=by
 have yQ:AN=140737488355328:=rfl;have g1:∀u:Ah,ET u 13 168 .slnil (.sl 13 [[I 1,I 0,.slnil,I 0,I 0,S [],.slnil,S [],S [],S [],.bool q,I 0,I 0]])=some (u++[.cells [I 1,I 0,.slnil,I 0,I 0,S [],.slnil,S [],S [],S [],.bool q,I 0,I 0]],.CI u.length 0 1 13):=λu=>rfl;obtain⟨d,e⟩:∃d,d=h++[DH.cells [.slnil,.map none]]:=⟨_,rfl⟩;have A:d[h.length]?=some (.cells [.slnil,.map none]):=by rw[e];simp
 have Yh:d.length=h.length+1:=by rw[e];simp
 have g2:=g1 d;rw[Yh] at g2;have B:At d h.length 0 .slnil:=⟨_,A,rfl⟩;have w:(d++[DH.cells [I 1,I 0,.slnil,I 0,I 0,S [],.slnil,S [],S [],S [],.bool q,I 0,I 0]])[h.length]?=some (.cells [.slnil,.map none]):=(Al Ab).trans A;have J:(d++[DH.cells [I 1,I 0,.slnil,I 0,I 0,S [],.slnil,S [],S [],S [],.bool q,I 0,I 0]])[h.length+1]?=some (.cells [I 1,I 0,.slnil,I 0,I 0,S [],.slnil,S [],S [],S [],.bool q,I 0,I 0]):=by rw[<-Yh];simp
 have Yi:(d++[DH.cells [I 1,I 0,.slnil,I 0,I 0,S [],.slnil,S [],S [],S [],.bool q,I 0,I 0]]).length=h.length+2:=by rw[Ap,Yh];rfl
 have s:d++[DH.cells [I 1,I 0,.slnil,I 0,I 0,S [],.slnil,S [],S [],S [],.bool q,I 0,I 0]]=h++[.cells [.slnil,.map none],.cells [I 1,I 0,.slnil,I 0,I 0,S [],.slnil,S [],S [],S [],.bool q,I 0,I 0]]:=by rw[e,AA];rfl
 generalize d++[DH.cells [I 1,I 0,.slnil,I 0,I 0,S [],.slnil,S [],S [],S [],.bool q,I 0,I 0]]=g at*;have t2:At g h.length 0 .slnil:=⟨_,w,rfl⟩;have D:=t2.store (u:= .CI (h.length+1) 0 1 13) rfl;have z:=Jf (k:=0) (v:= .CI (h.length+1) 0 1 13) w;have n:(put g h.length 0 (.CI (h.length+1) 0 1 13))[h.length+1]?=_:=(CO Ab).trans J;have M:put g h.length 0 (.CI (h.length+1) 0 1 13)=h++[.cells [.CI (h.length+1) 0 1 13,.map none],.cells [I 1,I 0,.slnil,I 0,I 0,S [],.slnil,S [],S [],S [],.bool q,I 0,I 0]]:=by rw[HD w,s,Ce _ _ (Ae _),DL];rfl
 generalize put g h.length 0 (.CI (h.length+1) 0 1 13)=f at*;have l3:Bk f none (Pt h.length 0)=some (.CI (h.length+1) 0 1 13):=At.load ⟨_,z,rfl⟩;have L:Ax (.ER 13) [.CI (h.length+1) 0 1 13,I 0]=some (.ptr (some (h.length+1,0))):=E8 (k:= .i64) (i:=0) Br;have t3:At f (h.length+1) 3 (I 0):=⟨_,n,rfl⟩;have C:=t3.store (u:=I 1) rfl;have N:(put f (h.length+1) 3 (I 1))[h.length]?=_:=(CO Ab).trans z;have H:=Jf (k:=3) (v:=I 1) n;have K:put f (h.length+1) 3 (I 1)=h++[.cells [.CI (h.length+1) 0 1 13,.map none],.cells [I 1,I 0,.slnil,I 1,I 0,S [],.slnil,S [],S [],S [],.bool q,I 0,I 0]]:=by rw[HD n,M,Ce _ _ Ab,Qi];rfl
 refine⟨d,put f (h.length+1) 3 (I 1),?_,?_,⟨rfl,rfl,N,H,?_,?_,.inl ⟨rfl,λk=>?_⟩⟩,K⟩;.rw[Aj,uZ,t23];simp only[abS,↓reduceIte,Bl,e]
 .have E:Co cx 75 [Pt h.length 0,.agg [I 1,I 0,.slnil,I 0,I 0,S [],.slnil,S [],S [],S [],.bool q,I 0,I 0]] d (I 1) f:=by rw[Aj,eS,t75];simp only[Cn,Nat.reduceLeDiff,↓reduceIte,Bl,dG,B.load,show Ax (.Cb 13) [.agg [I 1,I 0,.slnil,I 0,I 0,S [],.slnil,S [],S [],S [],.bool q,I 0,I 0]]=some (.sl 13 [[I 1,I 0,.slnil,I 0,I 0,S [],.slnil,S [],S [],S [],.bool q,I 0,I 0]]) from rfl,g2,D,l3,show Ax (.len false) [.CI (h.length+1) 0 1 13]=some (I 1) from rfl]
  have r2:Co cx 76 [Pt h.length 0,I 1] f (.ptr (some (h.length+1,0))) f:=by rw[Aj,eT,t76];simp only[Cn,dG,l3,show Ax (.int .sub) [I 1,I 1]=some (I 0) from rfl,L]
  rw[Aj,eL,t24];simp only[abS,Nat.reduceLeDiff,↓reduceIte,Bl,E.Ag,r2.Ag,C]
 .intro p hp;rw[Eg] at hp;subst hp;exact .inl ⟨rfl,rfl⟩
 .simp[Fa,Gt]
 .unfold Ar.inr;split;.rename_i y;have h1:=y.1;have h2:=y.2;simp[ls] at h2;have:k=1:=Ab;subst this;rfl
  .rfl
def Ŭ(h:Ah)(q:Bool):∃h1 h2 h' bi G,Co cx 23 [] h (Pt h.length 0) h1/\Co cx 24 [Pt h.length 0,.bool q] h1 (I 1) h2/\Co cx 26 [Pt h.length 0,I 1] h2 (Pt bi 0) h'/\BX h' bi h.length .slnil .slnil .slnil G (Fp q)/\Fv h (λ_=>False) h' (BB bi G):=by
 obtain⟨h1,h2,g,r2,d,f⟩:=aD8 h q;obtain⟨r,t,e,K,V,rfl,hK,k,_⟩:=ī (x:=1) d ((N3 q).rm.U7) ((N3 q).rm.U7.AX (Qa q).ok 1);have hx:(ls q).has 1:=⟨L4 1,L4 1⟩;have zJ:(ls q).nd 1={kind:=1,CQ:=1,CS:=q}:=(X5 (q:=q) 1).trans (Ad rfl);rw[Ad hx,zJ] at e;have wt:PA (h2++t) _ _ _ _ _:=d.El λi hi=>Al (d.lt i hi);refine⟨h1,h2,h2++t++[.cells (Ny h.length (Fp q) .slnil .slnil .slnil)],(h2++t).length,λi=>i∈Fa h.length (h.length+1) none [⟨{kind:=1,CQ:=1,CS:=q},.slnil,.slnil,rfl⟩],g,r2,?_,⟨Av,.inr ⟨rfl,rfl⟩,Vb.nil,?_,?_⟩,?_⟩;.rw[Aj,u0,t26];simp only[abS,Nat.reduceLeDiff,↓reduceIte,Bl,e.Ag,aaS];exact⟨λh=>absurd rfl h,λ_=>⟨λh=>absurd rfl h,λ_=>rfl⟩⟩
 .exact⟨_,_,_,wt.El λi hi=>Al (wt.lt i hi),λi=>Iff.rfl⟩
 .intro hm;exact absurd (wt.lt _ hm) (CX _)
 .have D0:h.length<=h2.length:=by rw[f];simp
  refine⟨Ew,λi hi _=>?_,λi hi=> .inr ?_⟩;.rw[AA,Al Ab,f,Al hi]
  .rcases hi with rfl|hi
   .simp;omega
   .simp[Fa,Gt] at hi;omega
def xV(sp:Int)(nm:Au)(l:List A0)(q:Bool):EF (JH sp nm l q)/\Sz (JH sp nm l q) 100:=by
 refine⟨?_,?_⟩
 .obtain⟨qO,f,u⟩:=RL (nm:=Fu) (at_:=[]) (p:=1) (Qa q) KM;have xy:=qO.Ka (NZ (n:=((Fp q).II Fu [] 1).node) (p:=1) (b:=0) qO.ok) IK;have g:Le ((Fp q).E1 Fu [] 1 1).a (((Fp q).E1 Fu [] 1 1).a.Hc ((Fp q).II Fu [] 1).node 1 0):=IK;have ho:((Fp q).E1 Fu [] 1 1).AV=[]:=by unfold BS.E1;rw[Ad KM];rfl
  have K_:=xy.so (i:=(Fp q).II Fu [] 1) (k:=0) ⟨g.has _ f.has,by rw[g.kind _ f.has];exact f.kind,by rw[g.AY _ f.has];exact f.AY,by rw[g.name _ f.has];exact f.name⟩ (by simp only[ho];simp);exact K_.of_eq rfl rfl (by unfold JH;simp only[ho];rfl) rfl
 .have sz:=N3 q;have e:((Fp q).E1 Fu [] 1 1).AV=[]/\((Fp q).E1 Fu [] 1 1).Bd=[]:=by unfold BS.E1;rw[Ad KM];exact⟨rfl,rfl⟩
  have s:=Kb (m:=5000000*100+1) (nm:=Fu) (l:=[]) (sp:=1) (p:=1) (sz.rm.le Ab) ⟨Br,λa ha=>(nomatch ha)⟩;have r2:=s.Ka (Kj (x:=((Fp q).II Fu [] 1).node) (p:=1) (bf:=0));have d:=r2.jz (i:=(Fp q).II Fu [] 1) (l':=((Fp q).E1 Fu [] 1 1).AV++[(Fp q).II Fu [] 1]) Av (λj hj=>by simpa using hj) (Nx Br);exact⟨⟨d.n,d.at_,d.data,d.AV,d.Bd,d.tm,d.Dn,d.ZL⟩,by unfold JH;simp only[e.1];show 1+1200*100<=125000;decide,by unfold JH;simp only[e.2];decide⟩
def aC(sp:Int)(nm:Au)(l:List A0)(q:Bool):EF (Ox sp nm l q)/\Sz (Ox sp nm l q) 100:=by
 obtain⟨K_,d⟩:=xV sp nm l q;unfold Ox;split;.have r:=d.rm;exact⟨K_.of_eq rfl rfl rfl rfl,⟨⟨r.n,r.at_,r.data,r.AV,r.Bd,Av,r.Dn,r.ZL⟩,d.AV,d.Bd⟩⟩
 .exact⟨K_,d⟩
def fy(sp:Int)(nm:Au)(l:List A0)(q f:Bool):EF (aA sp nm l q f)/\Sz (aA sp nm l q f) 100:=by
 obtain⟨jy,yq⟩:=aC sp nm l q;have d:Cs (Ox sp nm l q).Kz (5000000*100):=yq.rm.mode;unfold aA;split;.exact⟨(PY jy).of_eq rfl rfl rfl rfl,⟨⟨d.n,d.at_,d.data,d.AV,d.Bd,d.tm,d.Dn,d.ZL⟩,yq.AV,yq.Bd⟩⟩
 .exact⟨PY jy,⟨d,yq.AV,yq.Bd⟩⟩
def BX.ŭ(w:BX h bi a o c t G b)(i:Item):∃h',CK h 4 (Pt bi 10) (.agg i.row)=some h'/\BX h' bi a o c t G {b with ctx:=i}/\Fv h (BB bi G) h' (BB bi G):=by refine⟨h.set bi (.cells (Ny a {b with ctx:=i} o c t)),?_,⟨AJ w.lt,w.o,w.t,w.w.El λj hj=>Ao λe=>w.nb (by rw[e];exact hj),w.nb⟩,⟨by rw[BJ];exact Ae _,λj _ hn=>Ao λe=>hn (.inl e.symm),λ_ h=> .inl h⟩⟩;simp only[CK,w.hb];rfl
def aD9(h:Ah)(sp:Int)(nm:Au)(hv:Cw l av)(hl:FZ l)(q f q':Bool):∃h1 h2 h' bi o t G,Co cx 23 [] h (Pt h.length 0) h1/\Co cx 24 [Pt h.length 0,.bool q] h1 (I 1) h2/\Co cx 25 [Pt h.length 0,I 1,.agg [I sp,.str nm,av,.bool q',.bool f]] h2 (Pt bi 0) h'/\BX h' bi h.length o .slnil t G (aA sp nm l q f)/\Fv h (λ_=>False) h' (BB bi G):=by
 obtain⟨h1,h2,h3,bi,G,O,r2,N,w,x⟩:=Ŭ h q;have hr:Ve Fu .slnil [I 2,.str Fu,ff,S [],ff,S [],ff,ff,.slnil,ff,S [],.int .i32 0]:=⟨I 2,ff,S [],ff,S [],ff,ff,ff,S [],.int .i32 0,rfl⟩;obtain⟨h4,G4,M,w4,Z⟩:=xH (m:=1000) w (Qa q).ba ((N3 q).rm.le Ab) hr (l:=[]) (.inr ⟨rfl,rfl⟩) ⟨Br,λa ha=>(nomatch ha)⟩ Br 1 1;obtain⟨jy,f4,le4⟩:=RL (nm:=Fu) (at_:=[]) (p:=1) (Qa q) KM;have R:=Kb (m:=1000) (nm:=Fu) (l:=[]) (sp:=1) (p:=1) ((N3 q).rm.le Ab) ⟨Br,λa ha=>(nomatch ha)⟩;obtain⟨A,g,L,V,Y⟩:=ZU (x:=((Fp q).II Fu [] 1).node) (p:=1) (bf:=0) w4 jy.ba R;have ho:((Fp q).E1 Fu [] 1 1).AV=[]:=by unfold BS.E1;rw[Ad KM];rfl
 obtain⟨d,K,C⟩:=f95 V.sO (by simp only[ho];decide) ((Fp q).II Fu [] 1);have Q:=V.Nz C;have w7:BX (put (put A bi 2 d) bi 9 tt) bi h.length d .slnil .slnil g _:=Q.put (k:=9) (v:=tt) (b':={{{(Fp q).E1 Fu [] 1 1 with a:=((Fp q).E1 Fu [] 1 1).a.Hc ((Fp q).II Fu [] 1).node 1 0} with AV:=((Fp q).E1 Fu [] 1 1).AV++[(Fp q).II Fu [] 1]} with Nw:=true}) rfl rfl C Q.t;have H:CK (put A bi 2 d) 1 (Pt bi 9) tt=some (put (put A bi 2 d) bi 9 tt):=Q.st (k:=9) (v:=tt) (v0:= .bool ((Fp q).E1 Fu [] 1 1).Nw) rfl rfl;have J:Co cx 78 [I sp,.str nm,av] (put (put A bi 2 d) bi 9 tt) (.bool (Hs sp nm l)) (put (put A bi 2 d) bi 9 tt):=f96 hv (λa ha=>by have:=(hl.2 a ha).2;have:AN=140737488355328:=rfl;omega) (by have:=hl.1;omega) sp nm _;obtain⟨y,s8,U,X⟩:=w7.ŭ ⟨0,sp,nm,Hs sp nm l⟩;have i:BX y bi h.length d .slnil .slnil g (JH sp nm l q):=U;have P:Fv h (λ_=>False) y (BB bi g):=((((x.trans Z).trans Y).trans B7).trans B7).trans X;clear U;have s:=i.ŗ;have aKH:(JH sp nm l q).ctx=⟨0,sp,nm,Hs sp nm l⟩:=rfl;obtain⟨aKI,yq⟩:=aC sp nm l q;have z:=fG (ws:=[BG]) DR Br (JH sp nm l q).ctx y;have key:∃D t9,BX D bi h.length d .slnil t9 g (Ox sp nm l q)/\Fv y (BB bi g) D (BB bi g)/\(BK [BG] (JH sp nm l q).ctx=true->CK y 1 (Pt bi 6) (.sl 1 [[I 18]])=some D)/\(BK [BG] (JH sp nm l q).ctx=false->D=y):=by
  by_cases u:BK [BG] (JH sp nm l q).ctx=true;.have hu:EC [18] (.sl 1 [[I 18]]):= .mk;refine⟨put y bi 6 (.sl 1 [[I 18]]),.sl 1 [[I 18]],?_,B7,λ_=>i.st (k:=6) (v0:= .slnil) rfl rfl,λh=>absurd u (by rw[h];decide)⟩;unfold Ox;rw[Ad u];exact i.yb ⟨.inl hu,λe=>by injection e with _ e;simp at e⟩
  .refine⟨y,.slnil,?_,.refl,λh=>absurd h u,λ_=>rfl⟩;unfold Ox;rw[Ac u];exact i
 obtain⟨D,t9,w9,W,k1,k2⟩:=key;obtain⟨fB,aS,aT,yi⟩:=e_ w9 yq.rm;have em:Ax (.Cb 1) [I 18]=some (.sl 1 [[I 18]]):=rfl;have E:Fv h (λ_=>False) fB (BB bi g):=(P.trans W).trans yi;have hir:((Fp q).II Fu [] 1).row=[I ((Fp q).II Fu [] 1).node,I ((Fp q).II Fu [] 1).AY,.str ((Fp q).II Fu [] 1).name,.bool ((Fp q).II Fu [] 1).MJ]:=rfl;generalize(Fp q).II Fu [] 1=it at*;have n:CK (put (put A bi 2 d) bi 9 tt) 4 (Pt bi 10) (.agg [I 0,I sp,.str nm,.bool (Hs sp nm l)])=some y:=s8;have G_:Ax (.Cb 1) [S aLI]=some (.sl 1 ([BG].map CW)):=xQ;cases u:BK [BG] (JH sp nm l q).ctx with
 |true=>
  rw[u] at z;have B:=k1 u;cases f with
  |true=>
   refine⟨h1,h2,put fB bi 8 (I (-1)),bi,d,t9,g,O,r2,?_,?_,E.trans B7⟩;.rw[Aj,Ua,B_];simp only[abS,Nat.reduceLeDiff,↓reduceIte,Bl,Iq,N.Ag,M.Ag,L.Ag,K.Ag,H,J.Ag,n,s,G_,z.Ag,em,B,aS.Ag,aT.st (k:=8) (v:=I (-1)) rfl rfl]
   .unfold aA;rw[Ad rfl];exact aT.put rfl rfl aT.o aT.t
  |false=>refine⟨h1,h2,fB,bi,d,t9,g,O,r2,?_,aT,E⟩;rw[Aj,Ua,B_];simp only[abS,Nat.reduceLeDiff,↓reduceIte,Bl,Iq,N.Ag,M.Ag,L.Ag,K.Ag,H,J.Ag,n,s,G_,z.Ag,em,B,aS.Ag]
 |false=>
  rw[u] at z;have T:=k2 u;subst T;cases f with
  |true=>
   refine⟨h1,h2,put fB bi 8 (I (-1)),bi,d,t9,g,O,r2,?_,?_,E.trans B7⟩;.rw[Aj,Ua,B_];simp only[abS,Nat.reduceLeDiff,↓reduceIte,Bl,Iq,N.Ag,M.Ag,L.Ag,K.Ag,H,J.Ag,n,s,G_,z.Ag,em,aS.Ag,aT.st (k:=8) (v:=I (-1)) rfl rfl]
   .unfold aA;rw[Ad rfl];exact aT.put rfl rfl aT.o aT.t
  |false=>refine⟨h1,h2,fB,bi,d,t9,g,O,r2,?_,aT,E⟩;rw[Aj,Ua,B_];simp only[abS,Nat.reduceLeDiff,↓reduceIte,Bl,Iq,N.Ag,M.Ag,L.Ag,K.Ag,H,J.Ag,n,s,G_,z.Ag,em,aS.Ag]
def aEa(h:Ah)(s:GN)(hv:Cw s.AE av)(hl:FZ s.AE):∃h' bi a o c t G,Co cx 7 [.agg (aB s av)] h (Pt bi 0) h'/\BX h' bi a o c t G s.b/\Dc s.b.Bd c/\Fv h (λ_=>False) h' (BB bi G):=by
 have tC:(JH s.AY s.name s.AE s.CS).Bd=[]:=by unfold JH;simp only;unfold BS.E1;rw[Ad KM];rfl
 cases hf:s.Nw with
 |true=>
  obtain⟨h1,h2,h',bi,o,t,G,f,r2,d,w,x⟩:=aD9 h s.AY s.name hv hl s.CS s.OW s.CS;refine⟨h',bi,h.length,o,.slnil,t,G,?_,by unfold GN.b;rw[Ad hf];exact w,?_,x⟩;.rw[Aj,uT,t7,aB,hf];simp only[Cn,f.Ag,r2.Ag,d.Ag]
  .have e:s.b.Bd=[]:=by unfold GN.b aA Ox;rw[Ad hf];split<;>split<;>exact tC
   rw[e];exact⟨[],rfl,.inr ⟨rfl,rfl⟩⟩
 |false=>
  obtain⟨h1,h2,h',bi,G,f,r2,d,w,x⟩:=Ŭ h s.CS;have e:s.b=Fp s.CS:=by unfold GN.b;rw[Ac (by rw[hf];decide)]
  refine⟨h',bi,h.length,.slnil,.slnil,.slnil,G,?_,by rw[e];exact w,by rw[e];exact⟨[],rfl,.inr ⟨rfl,rfl⟩⟩,x⟩;rw[Aj,uT,t7,aB,hf];simp only[Cn,f.Ag,r2.Ag,d.Ag]
def GN.ok(s:GN):EF s.b/\Sz s.b 100:=by
 unfold GN.b;split;.exact fy _ _ _ _ _
 .have h:=N3 s.CS;exact⟨Qa _,⟨h.rm.le Ab,by have:=h.AV;omega,by have:=h.Bd;omega⟩⟩
end
def La(h:Ah)(lo:Nat)(v:Aa)(l:List Int):Prop:=(v= .slnil/\l=[])\/∃id,lo<=id/\v= .CI id 0 l.length 1/\h[id]?=some (.cells (l.map (Aa.int .i64)))
def xW(h:Ah)(lo:Nat)(v:Aa)(l:List Cv):Prop:=(v= .slnil/\l=[])\/∃id,∃fs:List CM,lo<=id/\v= .CI id 0 fs.length 3/\h[id]?=some (.cells (fs.map CM.row).flatten)/\fs.map (·.c)=l
section
variable{h h':Ah}{lo lo':Nat}{v:Aa}
def La.cells{l:List Int}(hv:La h lo v l):v.cells=[v]:=by rcases hv with⟨rfl,_⟩|⟨id,_,rfl,_⟩<;>rfl
def xW.cells{l:List Cv}(hv:xW h lo v l):v.cells=[v]:=by rcases hv with⟨rfl,_⟩|⟨id,fs,_,rfl,_⟩<;>rfl
def La.El{l:List Int}(hv:La h lo v l)(hf:∀i,lo<=i->i<h.length->h'[i]?=h[i]?):La h' lo v l:=by
 rcases hv with hv|⟨id,h1,h2,h3⟩
 .exact .inl hv
 .exact .inr ⟨id,h1,h2,by rw[hf id h1 (Ai.1 h3).1];exact h3⟩
def La.L1{l:List Int}(hv:La h lo v l):Q2 h v l:=by
 rcases hv with⟨rfl,rfl⟩|⟨id,_,rfl,hc⟩
 .exact⟨rfl,λk hk=>by simp at hk⟩
 .refine⟨rfl,λk hlt=>⟨Pt id k,by have:=E8 (id:=id) (z:=1) (k:= .i64) hlt;rwa [Fm] at this,?_⟩⟩;simp only[Bk,hc,E5];simp[hlt]
def Ů{h u:Ah}{V:Aa}{L:List Int}(i:La (h++u) h.length V L)(hb:L.length<=1000000000)(x:Int):∃d g,ET (h++u) 1 8 V (.sl 1 [[I x]])=some (h++d,g)/\La (h++d) h.length g (L++[x]):=by
 have yQ:AN=140737488355328:=rfl;rcases i with⟨rfl,rfl⟩|⟨id,Hn,rfl,hc⟩
 .exact⟨u++[.cells [I x]],.CI (h++u).length 0 1 1,by rw[<-AA];rfl,.inr ⟨(h++u).length,Av,rfl,Av⟩⟩
 .have hr:∀r∈L.map Dz,r.length=1:=LR (f:=Dz) (λ_=>rfl) L;have QD:(h++u)[id]?=some (.cells (L.map Dz).flatten):=by rw[Q8];exact hc
  have hg:=Mp (b:=8) (Af:=L.map Dz) (r2:=[[I x]]) (v:= .sl 1 [[I x]]) hr Br QD .mk Av (by rw[As];simp;omega);rw[As] at hg;have e:(h++u).set id .DD++[DH.cells (L.map Dz++[[I x]]).flatten]=h++(u.set (id-h.length) .DD++[.cells ((L++[x]).map (Aa.int .i64))]):=by rw[Ce _ _ Hn,AA,Jh,Q8,BW];rfl
  rw[e] at hg;have Yi:(h++(u.set (id-h.length) DH.DD++[.cells ((L++[x]).map (Aa.int .i64))]))=(h++u.set (id-h.length) DH.DD)++[.cells ((L++[x]).map (Aa.int .i64))]:=by rw[AA]
  have VO:(h++u.set (id-h.length) DH.DD).length=(h++u).length:=Av;refine⟨_,_,hg,.inr ⟨(h++u).length,Av,Av,?_⟩⟩;rw[Yi,<-VO,BD (Ae _),DL];rfl
end
structure SS where
 mode:Int
 ZC:Int
 tm:List Int
 AV:List Int
 Bd:List Cv
 head:Int
 OW:Int
 fs:Bool
 Fl:Bool
 oT:Au
 skip:Bool
 sw:Int
 stop:Bool
def BS.Ww(b:BS):SS:=⟨b.mode,b.ZC,b.tm,b.AV.map Item.node,b.Bd,b.head,b.OW,b.fs,b.Fl,b.oT,b.skip,b.sw,b.stop⟩
def xX(s:SS)(t o c:Aa):List Aa:=[I s.mode,I s.ZC,t,o,c,I s.head,I s.OW,.bool s.fs,.bool s.Fl,.str s.oT,.bool s.skip,I s.sw,.bool s.stop]
structure ly(h:Ah)(lo:Nat)(s:SS)(t o c:Aa):Prop where
 t:Q3 s.tm t
 o:La h lo o s.AV
 c:xW h lo c s.Bd
section
variable{h h':Ah}{bi a lo:Nat}{o c t:Aa}{G G' F:Nat->Prop}{b:BS}{x:Int}{m:Nat}
def fQ{h:Ah}{n:Nat}(hn:n<=1000000000):Od h 3 48 [I 0,S [],.slnil] (I (n:Int)) (I (n:Int))=some (h++[.cells (List.replicate n [I 0,S [],.slnil]).flatten],.CI h.length 0 n 3):=by
 have hm:AN=140737488355328:=rfl;unfold Od;simp only
 rw[Ad ⟨Ab,Ab,Ab,rfl⟩];rfl
def aEc(w:BX h bi a o c t G b)(hc:Dc b.Bd c)(rm:Cs b m):∃t' o' c' u,Co cx 12 [Pt bi 0] h (.agg (xX b.Ww t' o' c')) (h++u)/\ly (h++u) h.length b.Ww t' o' c':=by
 have yQ:AN=140737488355328:=rfl;have ho:=rm.AV;have aQ:=rm.Bd;have M:=rm.tm;obtain⟨t',e0,HC⟩:=ř w.t.1 Ab h;have B:t'.cells=[t']:=HC.1.cells;obtain⟨fs,KQ,hv⟩:=hc;have HI:b.Bd.length=fs.length:=by rw[<-KQ,As]
 have s:=Bn.FL w.o;have Ng:Ev cx 12 [Pt bi 0] h λr h'=>∃t' o' c' u,r= .agg (xX b.Ww t' o' c')/\h'=h++u/\ly (h++u) h.length b.Ww t' o' c':=by
  unfold Ev;rw[uV,t12];simp only[abS,Nat.reduceLeDiff,↓reduceIte,Bl,(GS w).Ag,w.ld,Ny,e0.Ag,C5,B,s];refine Gu (i:=0) (λz:Aa×Nat=>[.agg [I b.mode,I b.ZC,t',z.1,.slnil,I b.head,I b.OW,.bool b.fs,.bool b.Fl,.str b.oT,.bool b.skip,I b.sw,.bool b.stop],I (z.2:Int)]) (λz h1=>z.2<=b.AV.length/\∃u,h1=h++u/\La (h++u) h.length z.1 ((b.AV.take z.2).map Item.node)) (λz=>b.AV.length-z.2) (λz h1=>∃u,h1=h++u/\La (h++u) h.length z.1 (b.AV.map Item.node)) (.slnil,0) rfl ⟨AZ _,[],Av,.inl ⟨rfl,Av⟩⟩ ?_ ?_
  .rintro⟨V,n⟩ h1 ⟨hn,u,rfl,l⟩;simp only at hn l;have N:=l.cells;rcases A8 n b.AV.length with hlt|GR
   .have q:=Bn.Dw (k:= .i64) w.o hlt;rw[Item.row] at q;obtain⟨E,U,g1,j⟩:=Ů l (by rw[As,Aw];omega) b.AV[n].node;have g:=j.cells;have em:Ax (.Cb 1) [I b.AV[n].node]=some (.sl 1 [[I b.AV[n].node]]):=rfl;simp only[abS,Nat.reduceLeDiff,↓reduceIte,(Ab:(n:Int)<(b.AV.length:Int)),q,em,g1,g,Cu (Ab:n<9223372036854775807)];exact .next (U,n+1) rfl ⟨hlt,E,rfl,by rw[AL hlt,BW];exact j⟩ Gp
   .rw[AT GR] at l;simp only[abS,↓reduceIte,(Ab:¬(n:Int)<(b.AV.length:Int))];exact .HT (V,n) rfl ⟨u,rfl,l⟩
  .rintro⟨O,W⟩ h1 ⟨u,rfl,p⟩;simp only at p;have P:=p.cells;have w1:=w.Ja (u:=u);have A:=w1.l3;have lc:=Bn.FL hv;simp only[abS,↓reduceIte,A,lc];refine bD (fQ (h:=h++u) (n:=fs.length) Ab) ?_;obtain⟨d,f⟩:∃d,d=h++u:=⟨_,rfl⟩;rw[<-f] at p⊢;have T:(d++[DH.cells (List.replicate fs.length [I 0,S [],.slnil]).flatten])[d.length]?=some (.cells (List.replicate fs.length [I 0,S [],.slnil]).flatten):=Av;have y:Bk (d++[DH.cells (List.replicate fs.length [I 0,S [],.slnil]).flatten]) none (Pt bi 3)=some c:=by rw[f];exact(w1.Ja).l3
   have fk:(List.replicate fs.length [I 0,S [],Aa.slnil]).flatten.length=fs.length*3:=by rw[FI (z:=3) (by intro r hr;rw[(List.mem_replicate.1 hr).2];rfl),EY]
   have R:D2 (.copy 3) (d++[DH.cells (List.replicate fs.length [I 0,S [],.slnil]).flatten]) [.CI d.length 0 fs.length 3,c]=some (d++[DH.cells (fs.map CM.row).flatten],I (fs.length:Int)):=by
    have Q:Gc (d++[DH.cells (List.replicate fs.length [I 0,S [],.slnil]).flatten]) 3 c=some (fs.map CM.row):=by
     rcases hv with rfl|⟨rfl,h0⟩
     .simp[Gc]
     .rw[h0];rfl
    simp only[D2,gH,Q,T];rw[Ad ⟨trivial,Av,by rw[fk];omega⟩];have h1:(List.replicate fs.length [I 0,S [],Aa.slnil]).flatten.drop (0+(fs.map CM.row).length*3)=[]:=A6 (by rw[fk,As];omega);rw[h1,ND,Bt,Bi,As,Ce _ _ (Ae _),DL];rfl
   have K:Ax (.len false) [.CI d.length 0 fs.length 3]=some (I (fs.length:Int)):=rfl;simp only[abS,↓reduceIte,y,R,K];refine Gu (i:=2) (λn:Nat=>[I (n:Int)]) (λn h1=>n<=fs.length/\∃Jr:List CM,h1=d++[.cells (Jr.map CM.row).flatten]/\Jr.length=fs.length/\Jr.map (·.c)=b.Bd) (λn=>fs.length-n) (λn h1=>∃Jr:List CM,h1=d++[.cells (Jr.map CM.row).flatten]/\Jr.length=fs.length/\Jr.map (·.c)=b.Bd) 0 rfl ⟨AZ _,fs,rfl,rfl,KQ⟩ ?_ ?_
   .rintro n h1 ⟨hn,Jr,rfl,Yh,fg⟩;rcases A8 n fs.length with hlt|GR
    .have X0:n<Jr.length:=by omega
     have C:Jr[n].c=b.Bd[n]'(by omega):=by simp only[<-fg,C3]
     have WJ:=(rm.Dn Jr[n].c (by rw[C];exact AP _)).2.1;have q:Ax (.ER 3) [.CI d.length 0 fs.length 3,I (n:Int)]=some (Pt d.length (n*3)):=E8 hlt;have D:(d++[DH.cells (Jr.map CM.row).flatten])[d.length]?=some (.cells (Jr.map CM.row).flatten):=Av;have hg:(Jr.map CM.row)[n]?=some Jr[n].row:=by rw[Cj,Ak X0];rfl
     have L:Bk (d++[DH.cells (Jr.map CM.row).flatten]) none (Pt d.length (n*3+2))=some Jr[n].v:=by simp only[Bk,D,E5];exact L0 (R7 Jr) Br hg
     obtain⟨av,J,g_⟩:=f45 (h:=d++[DH.cells (Jr.map CM.row).flatten]) Jr[n].ok Ab;have aEd:av.cells=[av]:=Bn.cells g_;have H:CK (d++[DH.cells (Jr.map CM.row).flatten]) 1 (Pt d.length (n*3+2)) av=some (d++[.cells ((Jr.set n ⟨Jr[n].c,av,g_⟩).map CM.row).flatten]):=by have e:=Q1 (Af:=Jr.map CM.row) (i:=n) (k:=2) (v:=av) (R7 Jr) (by simpa using X0) Br;simp only[CK,D,aEd,BN,IP];rw[Ad (by rw[FI (R7 Jr),As];omega),e,Ce _ _ (Ae _),DL,F5,C3];rfl
     simp only[abS,(Ab:(n:Int)<(fs.length:Int)),q,L,J.Ag,H,Cu (Ab:n<9223372036854775807)];refine .next (n+1) rfl ⟨hlt,_,rfl,by rw[BJ];exact Yh,?_⟩ Ab
     rw[F5,fg];have qM:n<b.Bd.length:=Ab;show b.Bd.set n Jr[n].c=b.Bd;rw[C,Ic]
    .simp only[abS,(Ab:¬(n:Int)<(fs.length:Int))];exact .HT n rfl ⟨Jr,rfl,Yh,fg⟩
   .rintro n h1 ⟨Jr,rfl,Yh,fg⟩;simp only[Cn,↓reduceIte];refine⟨_,rfl,t',O,.CI d.length 0 fs.length 3,u++[.cells (Jr.map CM.row).flatten],rfl,by rw[f,AA],HC.1,?_,?_⟩;.rw[<-AA,<-f];exact p.El λi _ hi=>Al hi
    .rw[<-AA,<-f];exact .inr ⟨d.length,Jr,by rw[f];simp,by rw[Yh],Av,fg⟩
 obtain⟨r,h',hr,t',o',c',u,rfl,rfl,hs⟩:=Ng.ret;exact⟨t',o',c',u,hr,hs⟩
end
def Ls(h:Ah)(lo:Nat)(v:Aa)(l:List Ek):Prop:=∃Af:List (List Aa),Bn 13 Af v/\Af.length=l.length/\∀k (h1:k<Af.length) (h2:k<l.length),P2 h lo l[k] Af[k]
section
variable{h h':Ah}{lo lo':Nat}{v v':Aa}
def Up.le{N b:Nat}(hu:Up N v)(hl:b<=N):Up b v:=λid k e=>Bj hl (hu id k e)
def P2.El{x:Ek}{r:List Aa}(hr:P2 h lo x r)(hf:∀i,lo<=i->i<h.length->h'[i]?=h[i]?)(hl:h.length<=h'.length):P2 h' lo x r:=by
 obtain⟨K,V,e,h1,h2,h3⟩:=hr;refine⟨K,V,e,h1,?_,h3⟩;rcases h2 with h2|⟨id,b,d,c⟩
 .exact .inl h2
 .exact .inr ⟨id,b,by rw[hf id (h3 _ _ b) c];exact d,Ab⟩
def P2.low{x:Ek}{r:List Aa}(hr:P2 h lo x r)(hl:lo'<=lo):P2 h lo' x r:=let⟨K,V,e,h1,h2,h3⟩:=hr;⟨K,V,e,h1,h2,h3.le hl⟩
def Ls.El{l:List Ek}(hv:Ls h lo v l)(hf:∀i,lo<=i->i<h.length->h'[i]?=h[i]?)(hl:h.length<=h'.length):Ls h' lo v l:=let⟨Af,h1,h2,h3⟩:=hv;⟨Af,h1,h2,λk a b=>(h3 k a b).El hf hl⟩
end
def fR{A:Ar}{k:Nat}(hk:k<A.n.length):A.has ((k:Int)+1)/\A.nd ((k:Int)+1)=A.n[k]:=by
 have h1:A.has ((k:Int)+1):=by unfold Ar.has;omega
 refine⟨h1,?_⟩;unfold Ar.nd;rw[Ad h1,Ay,(Ab:((k:Int)+1).toNat-1=k),Ak hk];rfl
section
variable{h h':Ah}{a n:Nat}{m:Option Nat}{ps:List PN}{A:Ar}{x:Int}
def aEe(w:PA h a n m ps A)(p:Lv A)(hk:∀x,(A.nd x).AX.length<=1000000000)(hb:A.n.length<=900000000):∃v u,Co cx 11 [Pt a 0] h v (h++u)/\Ls (h++u) h.length v A.n:=by
 have yQ:AN=140737488355328:=rfl;have mO:A.n.length=ps.length:=by rw[w.e,As]
 have Ng:Ev cx 11 [Pt a 0] h λr h'=>∃u,h'=h++u/\Ls (h++u) h.length r A.n:=by
  unfold Ev;rw[sr,t11];simp only[Cn,dG,w.nodes,show Ax (.len false) [.CI n 0 ps.length 13]=some (I (ps.length:Int)) from rfl];refine BF (λz:Aa×Nat=>[z.1,I (z.2:Int)]) (λz h1=>z.2<=ps.length/\∃u,h1=h++u/\Ls (h++u) h.length z.1 (A.n.take z.2)) (λz=>ps.length-z.2) (.slnil,0) rfl ⟨AZ _,[],Av,[],.nil,Av,λk h1 h2=>by simp at h1⟩ ?_;rintro⟨V,k⟩ h1 ⟨SX,u,rfl,c⟩;simp only at SX c;have w1:PA (h++u) a n m ps A:=w.El λi hi=>Al (w.lt i hi);rcases A8 k ps.length with hlt|GR
  .obtain⟨hx,ex⟩:=fR (A:=A) (k:=k) Ab;obtain⟨r,t,l,hr⟩:=kh w1 p hx (hk _);have ea:Ax (.ER 13) [.CI n 0 ps.length 13,I (k:Int)]=some (.ptr (some (n,nP n ((k:Int)+1)))):=by have:=E8 (k:= .i64) (id:=n) (z:=13) hlt;rw[this];unfold nP;congr 4
   obtain⟨Af,g,d,o⟩:=c;rw[Aw,Cr Ab] at d;obtain⟨K,W,f,KT⟩:=hr;have em:Ax (.Cb 13) [.agg r]=some (.sl 13 [r]):=PH (a:= .agg r) (by rw[f];rfl) Br;have s:=Bn.ù (b:=168) (row:=r) g Ab;simp only[abS,(Ab:(k:Int)<(ps.length:Int)),w1.nodes,ea,l.Ag,em,s,Cu (Ab:k<9223372036854775807)];refine A7.next (_,k+1) rfl ⟨hlt,u++t,by rw[AA],Af++[r],.mk,by rw[Ap,Aw,d];simp;omega,λj h1 h2=>?_⟩ Gp;rw[<-AA];rw[aI];by_cases hj:j<Af.length;.rw[JI hj];have:=o j hj (by rw[Aw];omega);rw[aI] at this;exact this.Ja
   .have q:j=k:=by simp at h1;omega
    subst q;rw[List.getElem_append_right Ab];simp only[d,DL,zb];rw[<-ex];exact P2.low (lo:=(h++u).length) ⟨K,W,f,KT⟩ Av
  .rw[AT Ab] at c;simp only[abS,(Ab:¬(k:Int)<(ps.length:Int))];exact⟨_,rfl,u,rfl,c⟩
 obtain⟨r,h',hr,u,rfl,c⟩:=Ng.ret;exact⟨r,u,hr,c⟩
end
def PB(h:Ah)(bi:Nat)(b:BS)(F:Nat->Prop):Prop:=∃a o c t G,BX h bi a o c t G b/\Dc b.Bd c/\F=BB bi G
structure Fin(b:BS)(j:Nat):Prop where
 ok:EF b
 sz:Sz b j
section
variable{h h':Ah}{bi wi:Nat}{b:BS}{F F2:Nat->Prop}{q:l8}{av:Aa}{j:Nat}
def Fin.le{k:Nat}(f:Fin b j)(hk:k<=j):Fin b k:=⟨f.ok,f.sz.rm.le Ab,by have:=f.sz.AV;omega,by have:=f.sz.Bd;omega⟩
def Fin.do(f:Fin b (j+1))(hq:yk q):Fin (aU b q).1 j:=⟨ym f.ok,yn f.sz hq⟩
def GN.HT(s:GN):Fin s.b 100:=⟨s.ok.1,s.ok.2⟩
def aEf(w:PB h bi b F)(f:Fin b (j+1))(hq:yk q)(hv:Cw q.AE av):∃h' F',Co cx 9 [Pt bi 0,.agg (P9 q av)] h (.agg (aU b q).2.row) h'/\PB h' bi (aU b q).1 F'/\Fv h F h' F':=by obtain⟨a,o,c,t,G,w,hc,rfl⟩:=w;obtain⟨h',o',c',t',d,r,w',QD,x⟩:=aD7 w hc f.ok f.sz hq hv;exact⟨h',_,r,⟨a,o',c',t',d,w',QD,rfl⟩,x⟩
def aEg(s:GN)(hv:Cw s.AE av)(hl:FZ s.AE)(h:Ah):∃h' bi F,Co cx 7 [.agg (aB s av)] h (Pt bi 0) h'/\PB h' bi s.b F/\Fv h (λ_=>False) h' F:=by obtain⟨h',bi,a,o,c,t,G,r,w,hc,x⟩:=aEa h s hv hl;exact⟨h',bi,_,r,⟨a,o,c,t,G,w,hc,rfl⟩,x⟩
end
structure QO where
 q:l8
 v:Aa
 ok:Cw q.AE v
def QO.row(x:QO):List Aa:=P9 x.q x.v
def QO.Df{x:QO}:x.row.length=9:=rfl
def QO.HN{x:QO}:x.row.take 9=x.row:=rfl
def xY(l:List QO)(v:Aa):Prop:=Bn 9 (l.map QO.row) v
def GC:BS->List QO->BS
 |b,[]=>b
 |b,x::l=>GC (aU b x.q).1 l
def Ux:∀{l:List QO} {b:BS} {x:QO},GC b (l++[x])=(aU (GC b l) x.q).1
 |[],_,_=>rfl
 |y::l,b,x=>by rw[Cl,GC,Ux,GC]
def Uy:∀{l:List QO} {b:BS} {j:Nat},Fin b (j+l.length)->(∀x∈l,yk x.q)->Fin (GC b l) j
 |[],_,_,f,_=>f
 |x::l,b,j,f,hq=>by rw[GC];exact Uy (Fin.do (j:=j+l.length) (f.le (by simp only[AO];omega)) (hq x Av)) λy hy=>hq y (by simp[hy])
theorem pX:Ev cx 6 [] [] λr _=>r= .bool true:=pD 3000 AU
end Go.Am
end
