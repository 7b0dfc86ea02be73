/- Lemmas -/
import Derived.Test.YtdbnpiefklklhaaGreatDoorH25
set_option linter.all false
noncomputable section
set_option maxRecDepth 100000
section
namespace Go.Am
open Go
section
variable{h h':Ai}{bi a ai:Nat}{o c t:Aa}{G G' F:Nat->Prop}{b b':BS}{x:Int}{m:Nat}
variable{nm:Ah}{av:Aa}{l:List A3}{r:List Aa}{sp p:Int}{e:C1}{at_ mk last:Int}{anc far:Item}
def Di.find(hc:Di b.AZ c)(w:BX h bi a o c t G b)(rm:Cx b m)(nm:Ah):B9 cx 201 [Pt bi 3,.str nm] h (I (Ff nm b.AZ)) h:=by obtain⟨fs,Jy,hv⟩:=hc;have ha:=rm.AZ;have:=aFZ w.pO hv (by rw[<-Jy,Av] at ha;omega) nm;rwa [xZ,Jy] at this
def XG(d:h.length<=ai)(x:Ew h (Mj ai bi G) h' (Mj ai bi G')):Ew h (BK bi G) h' (BK bi G'):=
 ⟨x.len,λi hi hn=>x.old i hi λhg=>by
  rcases hg with rfl|hg
  .omega
  .exact hn hg,λi hi=>by
  rcases x.BK i (.inr hi) with(rfl|h)|h
  .exact .inr d
  .exact .inl h
  .exact .inr h⟩
def XH{nm:Ah}{l:List Co}(h:0<=Ff nm l):∃p:Nat,∃hp:p<l.length,Ff nm l=(p:Int):=by
 have key:∀r:List Co,Xe nm r<r.length:=by
  intro r;induction r with
  |nil=>show(-1:Int)<0;decide
  |cons x r ih=>rw[Xe];simp only[AJ];split<;>(try split)<;>omega
 have:=key l.reverse;rw[YM] at this;refine⟨(Ff nm l).toNat,?_,Ab⟩;unfold Ff at h⊢;omega
def ì{l:List Co}{f:Nat}(hn:((l.map Co.node).filter λn=>decide (n≠0)).Nodup)(hf:f<l.length)(h0:l[f].node≠0):Fw l[f].node l=(f:Int):=by
 unfold Fw;rw[Ad h0];refine L3 hf (by simp[Xd]) λj hj h=>?_;by_cases he:l[j].node=l[f].node
 .exfalso;have:l=l.take j++l[j]::l.drop (j+1):=by rw[<-Ay hj,Cw]
  rw[this,BU,A9,EK,GW,Af (by simpa[he] using h0),BN] at hn;have hm:l[f]∈l.take j:=List.mem_take_iff_getElem.2 ⟨f,Ab,rfl⟩;exact hn.2.2 l[f].node (Dg.2 ⟨OC hm,by simpa using h0⟩) l[j].node Ax he.symm
 .simp[Xd,he]
def kC{v:ED}:Ew h (Am.Mj ai bi G) (h.set ai v) (Am.Mj ai bi G):=⟨by rw[BV];exact Ae _,λi _ hn=>Ao λe=>hn (.inl e.symm),λ_ h=> .inl h⟩
def aCT(hc:h[ai]?=some (.cells (Fm e at_ mk anc far last)))(i:Item):CL h 4 (Pt ai 5) (.agg i.row)=some (h.set ai (.cells (Fm e at_ mk i far last))):=by simp only[CL,hc];rfl
def aCU(hc:h[ai]?=some (.cells (Fm e at_ mk anc far last)))(i:Item):CL h 4 (Pt ai 9) (.agg i.row)=some (h.set ai (.cells (Fm e at_ mk anc i last))):=by simp only[CL,hc];rfl
def aCV(hc:h[ai]?=some (.cells (Fm e at_ mk anc far last))):Bj h (some 3) (Pt ai 0)=some (.agg e.row):=by simp only[Bj,hc];rfl
def YA{A:Ar}{n x:Int}{l:List Int}:BS.Dh A n (l++[x])=(BS.Dh A n l).Ie n x 0:=by unfold BS.Dh;rw[List.foldl_append];rfl
def aLw(w:BX h bi a o c t G b)(hc:Di b.AZ c)(ok:EI b)(rm:Cx b (m+4*b.AK.length+10))(nm:Ah):
  ∃h' o' c' G',B9 cx 157 [Pt bi 0,.str nm] h (.bool (b.round nm).1) h'/\BX h' bi a o' c' t G' (b.round nm).2/\Di (b.round nm).2.AZ c'/\Ew h (BK bi G) h' (BK bi G'):=by
 have ho:=rm.AK;have X7:=rm.AZ;have r1:=hc.find w rm nm;by_cases hf:Ff nm b.AZ<0
 .obtain⟨h2,o2,r2,R,x2⟩:=aCQ w rm nm;have e:b.round nm=(false,b.Dq nm):=by unfold BS.round;simp only;rw[Af hf]
  have ea:(b.Dq nm).AZ=b.AZ:=by
   unfold BS.Dq;split;.split<;>rfl
   .rfl
  rw[e];refine⟨h2,o2,c,G,?_,R,by rw[ea];exact hc,x2⟩;rw[Ag,N2,jM];simp only[abS,Nat.reduceLeDiff,↓reduceIte,Br,r1.Ac,hf,r2.Ac]
 obtain⟨f,Io,ef⟩:=XH (T0.1 hf);have xc:¬(f:Int)<0:=Ab;rw[ef] at r1;have Ns:=hc;obtain⟨fs,Jy,hv⟩:=Ns;have aRr:b.AZ.length=fs.length:=by rw[<-Jy,Av]
 have M:fs[f].c=b.AZ[f]:=by simp only[<-Jy,ET]
 have l3:=w.l3;have e1:=Bv.Df (k:= .i64) hv (Ab:f<fs.length);generalize hfe:fs[f]=fe at*;have um:b.AZ.getD f Co.zero=fe.c:=by rw[AR,As Io];exact M.symm
 have hv3:fe.v.cells=[fe.v]:=Bv.cells fe.ok;have w1:=w.JX (u:=[.cells (Fm fe (f:Int) (f:Int) Item.zero Item.zero 0)]);have B:(h++[ED.cells (Fm fe (f:Int) (f:Int) Item.zero Item.zero 0)])[h.length]?=some (.cells (Fm fe (f:Int) (f:Int) Item.zero Item.zero 0)):=Ax;have x1:Ew h (BK bi G) (h++[ED.cells (Fm fe (f:Int) (f:Int) Item.zero Item.zero 0)]) (BK bi G):=w.DZ;have RP:¬BK bi G h.length:=by
  rintro(e|hg);.exact absurd w.lt Ab
  .exact absurd (w.w.lt hg) (Dc _)
 obtain⟨H,A⟩:∃H,H=h++[ED.cells (Fm fe (f:Int) (f:Int) Item.zero Item.zero 0)]:=⟨_,rfl⟩;rw[<-A] at w1 B x1;have l0:Bj H none (Pt h.length 0)=some (I fe.c.node):=At.load ⟨_,B,rfl⟩;have r2:=Yx w1.sA Ab fe.c.node;have aM:Fm fe (f:Int) (f:Int) Item.zero Item.zero 0=[I fe.c.node,.str fe.c.name,fe.v,I (f:Int),I (f:Int),I 0,I 0,S [],ff,I 0,I 0,S [],ff,I 0]:=rfl;rw[aM] at A;rw[C1.row] at e1;by_cases hk:AX (BQ fe.c.node) b.AK<0
 .obtain⟨h2,c2,Z,R,KX,_,x2⟩:=yE w1 hc rm B RP Io ⟨Ab,Ab⟩ ⟨Ab,Ab⟩;have e:b.round nm=(false,{b with AZ:=Bz b.AZ f}):=by unfold BS.round;simp only;rw[Ad hf,ef,BD,um,Af hk]
  rw[e];refine⟨h2,o,c2,G,?_,R,KX,XG (Ae _) ((Eo x1 h.length).trans x2)⟩;rw[Ag,N2,jM];simp only[abS,Nat.reduceLeDiff,↓reduceIte,Br,r1.Ac,xc,l3,e1,<-A,l0,r2.Ac,hk,Z.Ac]
 obtain⟨k,ek⟩:∃k:Nat,AX (BQ fe.c.node) b.AK=(k:Int):=⟨_,(HX (T0.1 hk)).symm⟩;obtain⟨YX,hkq,_⟩:=KO ek;have ß:¬(k:Int)<0:=Ab;rw[ek] at r2;by_cases hkz:k=0
 .have e:b.round nm=(false,b):=by unfold BS.round;simp only;rw[Ad hf,ef,BD,um,Ad hk,Af (.inl (by rw[ek,hkz];rfl))]
  rw[e];refine⟨H,o,c,G,?_,w1,hc,x1⟩;rw[Ag,N2,jM];simp only[abS,Nat.reduceLeDiff,↓reduceIte,Br,r1.Ac,xc,l3,e1,<-A,l0,r2.Ac,ß,A5 (Ab:(k:Int)=0)]
 have í:¬(k:Int)=0:=Ab;have Z:=aFU w1.sA Ab 1 fe.c.node;by_cases L:Pl (BQ fe.c.node) (NR 1) b.AK.reverse=false
 .have e:b.round nm=(false,b):=by unfold BS.round;simp only;rw[Ad hf,ef,BD,um,Ad hk,Af (.inr L)]
  rw[e];refine⟨H,o,c,G,?_,w1,hc,x1⟩;rw[L] at Z;rw[Ag,N2,jM];simp only[abS,Nat.reduceLeDiff,↓reduceIte,Br,r1.Ac,xc,l3,e1,<-A,l0,r2.Ac,ß,í,Z.Ac]
 have aLx:Pl (BQ fe.c.node) (NR 1) b.AK.reverse=true:=by simpa using L
 rw[aLx] at Z;have r4:=aKP w1.sA Ab fe.c.node;have hor:¬(AX (BQ fe.c.node) b.AK=0\/Pl (BQ fe.c.node) (NR 1) b.AK.reverse=false):=by rw[ek];rintro(h|h);exact í h;exact L h
 by_cases hfa:Em fe.c.node b.AK<0
 .have e:b.round nm=(false,{b with AK:=I0 fe.c.node b.AK,AZ:=Bz b.AZ f}):=by unfold BS.round;simp only;rw[Ad hf,ef,BD,um,Ad hk,Ad hor,Af hfa]
  obtain⟨u,r5,hu⟩:=aFY w1.sO Ab fe.c.node;have R:=w1.MU hu;have Ŀ:(put H bi 2 u)[h.length]?=_:=(CV (λe=>RP (.inl e))).trans B;obtain⟨h3,c3,r6,w3,Zg,_,x3⟩:=yE R hc ((rm.le (m':=0) Ab).sub rfl Hl (AF _) (Ae _)) Ŀ RP Io ⟨Ab,Ab⟩ ⟨Ab,Ab⟩;rw[e];refine⟨h3,u,c3,G,?_,w3,Zg,XG (Ae _) ((Eo (x1.trans BL) h.length).trans x3)⟩;rw[Ag,N2,jM];simp only[abS,Nat.reduceLeDiff,↓reduceIte,Br,r1.Ac,xc,l3,e1,<-A,l0,r2.Ac,ß,í,Z.Ac,r4.Ac,hfa,r5.Ac,r6.Ac]
 obtain⟨N,hN,eN⟩:∃N:Nat,k+1+N<b.AK.length/\Em fe.c.node b.AK=((k+1+N:Nat):Int):=by
  have aCW:=hfa;rw[Mt,Ad hk,ek,BD] at aCW⊢;unfold Gj at aCW⊢;split at aCW;.rename_i j hj;have:=(Kr.1 hj).1;rw[Bg] at this;exact⟨j,Ab,Ab⟩
  .omega
 obtain⟨d,hfb⟩:∃d,d=b.AK[k+1+N]:=⟨_,rfl⟩;obtain⟨an,han⟩:∃an,an=b.AK[k-1]'(by omega):=⟨_,rfl⟩;have yx:b.AK.getD (k+1+N) Item.zero=d:=by rw[AR,As hN,hfb];rfl
 have hga:b.AK.getD (k-1) Item.zero=an:=by rw[AR,As Ab,han];rfl
 have e:b.round nm=(true,BS.Kf fe.c d.node an.node (BS.Pp d.node an.node (k+1+N) k N (b,d.node,f))):=by
  unfold BS.round;simp only
  rw[Ad hf,ef,BD,um,Ad hk,Ad hor,Ad hfa,ek,eN,BD,BD,yx,hga,(Ab:k+1+N-1 -k=N)]
 have î:=ok.op d (by rw[hfb];exact AY _);have aLy:b.AK[k].node=fe.c.node:=by simpa[BQ] using hkq
 have aG7:b.a.has fe.c.node:=by rw[<-aLy];exact(ok.op _ (AY _)).1
 have aLz:b.AZ[f].node≠0:=by rw[<-M];have:=aG7.1;omega
 have du:=ì ok.gl Io aLz;rw[<-M] at du;have Rg:=rm.C7 _ (AY Io);rw[<-M] at Rg;have xh:=NO (n:=k) Ab Ab;have r5:=U7 w1.sA ((k-1:Nat):Int);rw[HH Ab,<-han] at r5;have r6:=U7 w1.sA ((k+1+N:Nat):Int);rw[HH hN,<-hfb] at r6;have s5:=aCT B an;have fA:h.length<H.length:=(Aj.1 B).1;have hbn:h.length≠bi:=λe=>RP (.inl e);have Ŀ:(H.set h.length (.cells (Fm fe f f an Item.zero 0)))[h.length]?=_:=AE fA;have R:BX (H.set h.length (.cells (Fm fe f f an Item.zero 0))) bi a o c t G b:=w1.DQ λj hj=>Ao λe=>RP (by rw[e];exact hj);have x2:=(Eo x1 h.length).trans (kC (v:= .cells (Fm fe f f an Item.zero 0)));generalize H.set h.length (.cells (Fm fe f f an Item.zero 0))=H2 at*;have s6:=aCU Ŀ d;have lS:h.length<H2.length:=(Aj.1 Ŀ).1;have X:(H2.set h.length (.cells (Fm fe f f an d 0)))[h.length]?=_:=AE lS;have w3:BX (H2.set h.length (.cells (Fm fe f f an d 0))) bi a o c t G b:=R.DQ λj hj=>Ao λe=>RP (by rw[e];exact hj);have x3:=x2.trans (kC (v:= .cells (Fm fe f f an d 0)));generalize H2.set h.length (.cells (Fm fe f f an d 0))=H3 at*;have l9:Bj H3 none (Pt h.length 9)=some (I d.node):=At.load ⟨_,X,rfl⟩;have t13:At H3 h.length 13 (I 0):=⟨_,X,rfl⟩;have s7:=t13.store (u:= I d.node) rfl;have st4:=Jn (k:=13) (v:= I d.node) X;have w4:BX (put H3 h.length 13 (I d.node)) bi a o c t G b:=w3.DQ λj hj=>CV λe=>RP (by rw[<-e];exact hj);have x4:=x3.trans (Px (k:=13) (v:= I d.node));generalize put H3 h.length 13 (I d.node)=H4 at*;have i0:jZ H4 bi a h.length t G fe an d k N (m+10) (b,d.node,f) N H4 o c G (b,d.node,f):=
  ⟨Ae _,w4,hc,ok,rm.le Ab,î.1,by rw[du];exact st4,RP,.refl,by rw[du];omega,by show f<=1000000000;omega,rfl,Gx,rfl,aG7⟩
 have le0:=(cA (blk:=d.node) (anc:=an.node) (far:=k+1+N) (k:=k) (c:=N) (s:=(b,d.node,f)) ok î.1).2.2;obtain⟨h5,o5,c5,G5,s',r7,es,i⟩:=aG2 i0 Ab ek hN;rw[<-es] at le0 e;obtain⟨q,hq,á,hq0,hq2,hq3⟩:=JK i.gd;have K:=i.st;rw[á] at K;have hmk:=i.mkb;have iI:h.length≠bi:=hbn;have l5:Bj h5 none (Pt h.length 5)=some (I an.node):=At.load ⟨_,K,rfl⟩;obtain⟨u6,r8⟩:=â i.w i.ok i.rm an.node;have w6:=i.w.JX (u:=u6);have w6':=i.w.DZ (u:=u6);have hl5:h.length<h5.length:=(Aj.1 K).1;have st6:(h5++u6)[h.length]?=_:=(An hl5).trans K;have l13:Bj (h5++u6) none (Pt h.length 13)=some (I s'.2.1):=At.load ⟨_,st6,rfl⟩;have hl6:h.length<(h5++u6).length:=by rw[Aq];omega
 obtain⟨h7,G7,r9,w7,x7⟩:=jV (x:=s'.2.1) (p:=(s'.1.place an.node).1) (bf:=(s'.1.place an.node).2) w6 i.ok i.rm;have hn7:¬BK bi G7 h.length:=λhg=>by
  rcases x7.BK h.length hg with hg|hg
  .exact i.hn hg
  .omega
 have J:h7[h.length]?=_:=(x7.old h.length hl6 i.hn).trans st6;have l3b:Bj h7 (some 3) (Pt h.length 0)=some (.agg fe.row):=aCV J;have l9b:Bj h7 none (Pt h.length 9)=some (I d.node):=At.load ⟨_,J,rfl⟩;obtain⟨r,xq,hr⟩:=uj fe h7;have le7:Le s'.1.a (s'.1.a.If s'.2.1 (s'.1.place an.node).1 (s'.1.place an.node).2):=JI;have ok7:=i.ok.I8 (P7 (n:=s'.2.1) (p:=(s'.1.place an.node).1) (b:=(s'.1.place an.node).2) i.ok.ok) le7;have Y:=i.rm.I8 (LB (x:=s'.2.1) (p:=(s'.1.place an.node).1) (bf:=(s'.1.place an.node).2));obtain⟨b2,Qk⟩:∃b2,b2={s'.1 with a:=s'.1.a.If s'.2.1 (s'.1.place an.node).1 (s'.1.place an.node).2}:=⟨_,rfl⟩;have rQ:b2.AK=s'.1.AK:=by rw[Qk]
 have KX:b2.AZ=s'.1.AZ:=by rw[Qk]
 have le2:Le s'.1.a b2.a:=by rw[Qk];exact le7
 rw[<-Qk] at w7 ok7 Y;obtain⟨Q,G8,r11,w8,x8⟩:=tw (m:=m+7) w7 ok7 (Y.le Ab) hr fe.ok Rg.2 Rg.1 d.node 1;obtain⟨C,fr,le8⟩:=So (nm:=fe.c.name) (at_:=fe.c.Au) (p:=d.node) ok7 Mg;have D:=Lr (m:=m+7) (nm:=fe.c.name) (l:=fe.c.Au) (sp:=1) (p:=d.node) (Y.le Ab) Rg.2;obtain⟨g,hnw⟩:∃g,g=b2.JG fe.c.name fe.c.Au 1:=⟨_,rfl⟩;obtain⟨b3,Ž⟩:∃b3,b3=b2.FY fe.c.name fe.c.Au 1 d.node:=⟨_,rfl⟩;have ho3:b3.AK=s'.1.AK:=by rw[Ž,<-rQ];unfold BS.FY;rw[Af Mg]
 have Zg:b3.AZ=s'.1.AZ:=by rw[Ž,<-KX];unfold BS.FY;rw[Af Mg]
 rw[<-hnw] at r11 fr;rw[<-Ž] at w8 C fr le8 D;have hl7:h.length<h7.length:=(Aj.1 J).1;have hn8:¬BK bi G8 h.length:=λhg=>by
  rcases x8.BK h.length hg with hg|hg
  .exact hn7 hg
  .omega
 have W:Q[h.length]?=_:=(x8.old h.length hl7 hn7).trans J;have l9c:Bj Q none (Pt h.length 9)=some (I d.node):=At.load ⟨_,W,rfl⟩;obtain⟨kv,r12,hkv⟩:∃v,B9 cx 190 [Pt a 0,I d.node] Q v Q/\GI (b3.a.nd d.node).Bw v:=by obtain⟨n',m',ps,wa⟩:=w8.w.pa;exact İ wa D.UZ (D.UZ.Bw C.ok d.node)
 have aRy:(b3.a.nd d.node).Bw.length<=1000000000:=D.UZ.Bw C.ok d.node;have Vi:g.row=[I g.node,I g.A6,.str g.name,.bool g.Ot]:=rfl;rw[C1.row] at xq l3b;have O5:Ev cx 157 [Pt bi 0,.str nm] h λr h'=>r= .bool true/\∃o' c' G',BX h' bi a o' c' t G' (BS.Kf fe.c d.node an.node s')/\Di (BS.Kf fe.c d.node an.node s').AZ c'/\Ew h (BK bi G) h' (BK bi G'):=by
  unfold Ev;rw[N2,jM];simp only[abS,Nat.reduceLeDiff,↓reduceIte,Br,r1.Ac,xc,l3,e1,<-A,l0,r2.Ac,ß,í,Z.Ac,r4.Ac,eN,(Ab:¬((k+1+N:Nat):Int)<0),xh,r5.Ac,r6.Ac,s5,s6,l9,s7];simp only[abS,r7.Ac,l5,r8.Ac];simp only[abS,l13,r9.Ac];simp only[Cf,l3b,l9b];simp only[abS,↓reduceIte,Jr,xq.Ac,Dl,r11.Ac,l9b];simp only[Cf,w8.l0,l9c,r12.Ac,Bv.F0 hkv];have x8':Ew h (Mj h.length bi G) Q (Mj h.length bi G8):=(((x4.trans i.x).trans (Eo w6' h.length)).trans (Eo x7 h.length)).trans (Eo x8 h.length);refine En (i:=0) (λj:Nat=>[I (j:Int)]) (λj E=>j<=(b3.a.nd d.node).Bw.length/\∃O,BX E bi a o5 c5 t O {b3 with a:=BS.Dh b3.a g.node ((b3.a.nd d.node).Bw.take j)}/\EI {b3 with a:=BS.Dh b3.a g.node ((b3.a.nd d.node).Bw.take j)}/\Cx {b3 with a:=BS.Dh b3.a g.node ((b3.a.nd d.node).Bw.take j)} (m+7)/\Ew Q (BK bi G8) E (BK bi O)) (λj=>(b3.a.nd d.node).Bw.length-j)
   (λj E=>j=(b3.a.nd d.node).Bw.length/\∃O,BX E bi a o5 c5 t O {b3 with a:=BS.Dh b3.a g.node ((b3.a.nd d.node).Bw.take j)}/\EI {b3 with a:=BS.Dh b3.a g.node ((b3.a.nd d.node).Bw.take j)}/\Cx {b3 with a:=BS.Dh b3.a g.node ((b3.a.nd d.node).Bw.take j)} (m+7)/\Ew Q (BK bi G8) E (BK bi O)) 0 rfl ⟨A7 _,G8,w8,C,D,.refl⟩ ?_ ?_
  .rintro j E ⟨hj,O,w9,z,y,x9⟩;rcases Bi j (b3.a.nd d.node).Bw.length with hlt|GX
   .have e9:=Bv.Df (k:= .i64) hkv hlt;obtain⟨ZH,P,r13,fE,ŀ⟩:=jV (x:=(b3.a.nd d.node).Bw[j]) (p:=g.node) (bf:=0) w9 z y;have lej:=(Mw (n:=g.node) (l:=(b3.a.nd d.node).Bw.take j) C.ok).2;rw[TK (by show((BS.Dh b3.a g.node ((b3.a.nd d.node).Bw.take j)).nd g.node).kind=4;rw[lej.kind _ fr.has];exact fr.kind)] at fE;have hs:BS.Dh b3.a g.node ((b3.a.nd d.node).Bw.take (j+1))=(BS.Dh b3.a g.node ((b3.a.nd d.node).Bw.take j)).Ie g.node (b3.a.nd d.node).Bw[j] 0:=by rw[AQ hlt,YA]
    rw[DN] at e9;simp only[abS,(Ab:(j:Int)<((b3.a.nd d.node).Bw.length:Int)),e9,r13.Ac,CI (Ab:j<9223372036854775807)];refine .next (j+1) rfl ⟨hlt,P,by rw[hs];exact fE,?_,?_,x9.trans ŀ⟩ Ab
    .have:=z.I8 (P4 (p:=g.node) (n:=(b3.a.nd d.node).Bw[j]) (b:=0) z.ok) P6;rw[hs];exact this
    .have:=y.I8 (Kh (p:=g.node) (x:=(b3.a.nd d.node).Bw[j]) (bf:=0));rw[hs];exact this
   .simp only[abS,(Ab:¬(j:Int)<((b3.a.nd d.node).Bw.length:Int))];exact .HM j rfl ⟨Ab,O,w9,z,y,x9⟩
  .rintro j E ⟨rfl,O,w9,z,y,x9⟩;rw[BW] at w9 z y;have hl8:h.length<Q.length:=(Aj.1 W).1;have hn9:¬BK bi O h.length:=λhg=>by
    rcases x9.BK h.length hg with hg|hg
    .exact hn8 hg
    .omega
   have V:E[h.length]?=_:=(x9.old h.length hl8 hn8).trans W;have l9d:Bj E none (Pt h.length 9)=some (I d.node):=At.load ⟨_,V,rfl⟩;have le9:=(Mw (n:=g.node) (l:=(b3.a.nd d.node).Bw) C.ok).2;have lef:Le b.a (BS.Dh b3.a g.node (b3.a.nd d.node).Bw):=((le0.trans le2).trans le8).trans le9;obtain⟨ZH,P,r13,fE,ŀ⟩:=jV (x:=g.node) (p:=d.node) (bf:=0) w9 z y;rw[TK (by show((BS.Dh b3.a g.node (b3.a.nd d.node).Bw).nd d.node).kind=4;rw[lef.kind _ î.1];exact î.2.1)] at fE;have hl9:h.length<E.length:=(Aj.1 V).1;have aLF:¬BK bi P h.length:=λhg=>by
    rcases ŀ.BK h.length hg with hg|hg
    .exact hn9 hg
    .omega
   have aHa:ZH[h.length]?=_:=(ŀ.old h.length hl9 hn9).trans V;have l3c:Bj ZH none (Pt h.length 3)=some (I (q:Int)):=At.load ⟨_,aHa,rfl⟩;have aLG:=y.I8 (Kh (p:=d.node) (x:=g.node) (bf:=0));have aLH:Di ({b3 with a:=(BS.Dh b3.a g.node (b3.a.nd d.node).Bw).Ie d.node g.node 0}:BS).AZ c5:=by simp only;rw[Zg];exact i.hc
   have hqa:=i.rm.AZ;obtain⟨gU,sI,r14,U,aHc,ï,x11⟩:=yE fE aLH aLG aHa aLF (k:=q) (by simp only;rw[Zg];exact hq) ⟨Ab,Ab⟩ ⟨Ab,Ab⟩;simp only at U aHc;have l1:Bj gU none (Pt h.length 1)=some (.str fe.c.name):=At.load ⟨_,ï,rfl⟩;have l2:Bj gU none (Pt h.length 2)=some fe.v:=At.load ⟨_,ï,rfl⟩;have l4:Bj gU none (Pt h.length 4)=some (I (down q (s'.2.2:Int))):=At.load ⟨_,ï,rfl⟩;obtain⟨fs2,aCZ,Qi⟩:=aHc;have aRC:b3.AZ.length=s'.1.AZ.length:=by rw[Zg]
   have aRD:fs2.length<=900000000:=by have h1:=B2 List.length aCZ;rw[Av,Ja (by rw[Zg];exact hq)] at h1;omega
   have aLt:=Rg.2.1;obtain⟨u1,e2,he2,r15,aN⟩:=aKY (h:=gU) (id:=bi) (o:=3) (l:=fs2) ⟨sI,U.pO,Qi⟩ Ab (e:=⟨{fe.c with node:=g.node},fe.v,fe.ok⟩) (by unfold gi;simp only;omega) (down q (s'.2.2:Int));have aLI:B9 cx 228 [Pt bi 3,.agg [I g.node,.str fe.c.name,fe.v],I (down q (s'.2.2:Int))] gU (.tuple []) (put gU bi 3 u1):=r15;obtain⟨eA,dr⟩:∃eA:Nat,eA=if q<s'.2.2 then s'.2.2 -1 else s'.2.2:=⟨_,rfl⟩
   have uo:down q (s'.2.2:Int)=(eA:Int):=by rw[dr];unfold down;split<;>split<;>omega
   have w12:=U.Qm (u:=u1) (l:=(Bz b3.AZ q).take (Gv eA (Bz b3.AZ q).length)++{fe.c with node:=g.node}::(Bz b3.AZ q).drop (Gv eA (Bz b3.AZ q).length));have aLJ:Di ((Bz b3.AZ q).take (Gv eA (Bz b3.AZ q).length)++{fe.c with node:=g.node}::(Bz b3.AZ q).drop (Gv eA (Bz b3.AZ q).length)) u1:=by refine⟨_,?_,aN⟩;rw[uo,BU,A9,HQ,KV,aCZ,he2,<-aCZ,Av]
   have hob:=i.rm.AK;obtain⟨u2,r16,Qz⟩:=Ü w12.sO (by simp only;rw[ho3];omega) fe.c.node;have T:=w12.MU Qz;have mS:(Dt fe.c.node b3.AK).length<=s'.1.AK.length:=by rw[<-ho3];exact Ih.length_le
   have aLK:(put (put gU bi 3 u1) bi 2 u2)[h.length]?=_:=(CV iI).trans ((CV iI).trans ï);have l9e:Bj (put (put gU bi 3 u1) bi 2 u2) none (Pt h.length 9)=some (I d.node):=At.load ⟨_,aLK,rfl⟩;have r17:=Yx T.sA Gx d.node;have hli: -1<=AX (BQ d.node) (Dt fe.c.node b3.AK)/\AX (BQ d.node) (Dt fe.c.node b3.AK)<=(Dt fe.c.node b3.AK).length:=by rcases DX (q:=BQ d.node) (l:=Dt fe.c.node b3.AK) with⟨h,_⟩|⟨n,h1,h2,_⟩<;>omega
   have add:=Vo (a:=AX (BQ d.node) (Dt fe.c.node b3.AK)) (b:=1) Ab Ab;obtain⟨u3,r18,hu3⟩:=aKS T.sO Gx g (AX (BQ d.node) (Dt fe.c.node b3.AK)+1);have w14:=T.MU hu3;simp only[abS,Nat.reduceLeDiff,↓reduceIte,Br,Jr,l9d,r13.Ac,l3c,r14.Ac,l1,l2,hv3,l4,aLI.Ac,r16.Ac,l9e,r17.Ac,add,r18.Ac];have hE:BS.Kf fe.c d.node an.node s'={b3 with a:=(BS.Dh b3.a g.node (b3.a.nd d.node).Bw).Ie d.node g.node 0,AZ:=(Bz b3.AZ q).take (Gv eA (Bz b3.AZ q).length)++{fe.c with node:=g.node}::(Bz b3.AZ q).drop (Gv eA (Bz b3.AZ q).length),AK:=(Dt fe.c.node b3.AK).take (Iw (AX (BQ d.node) (Dt fe.c.node b3.AK)+1) (Dt fe.c.node b3.AK).length)++g::(Dt fe.c.node b3.AK).drop (Iw (AX (BQ d.node) (Dt fe.c.node b3.AK)+1) (Dt fe.c.node b3.AK).length)}:=by
    have ŷ:Fw fe.c.node b3.AZ=(q:Int):=by rw[Zg];exact á
    unfold BS.Kf;simp only
    rw[<-Qk,<-Ž,<-hnw,ŷ,BD,<-dr]
   rw[hE];refine⟨_,rfl,rfl,u3,u1,P,w14,aLJ,XG (Ae _) ?_⟩;exact((((x8'.trans (Eo (x9.trans ŀ) h.length)).trans x11).trans (Eo BL h.length)).trans (Eo BL h.length)).trans (Eo BL h.length)
 obtain⟨r,h',hr,rfl,o',c',G',w',Ns,x'⟩:=O5.ret;rw[e];exact⟨h',o',c',G',hr,w',Ns,x'⟩
end
section
variable{h h':Ai}{bi a ai:Nat}{o c t:Aa}{G G' F:Nat->Prop}{b b':BS}{x:Int}{m:Nat}
variable{nm:Ah}{av:Aa}{l:List A3}{r:List Aa}{sp p:Int}{e:C1}{at_ mk last:Int}{anc far:Item}
def dv{blk anc:Int}{far i:Nat}{l:Int}{mk:Nat}:(BS.Ig blk anc far i b l mk).1.AK.length<=b.AK.length:=by
 have h1:(Bz b.AK i).length<=b.AK.length:=C0.length_le;unfold BS.Ig;simp only
 split;.exact h1
 .split;.exact h1
  .have Qs:∀nm l p,(b.FY nm l 1 p).AK=b.AK:=λnm l p=>by unfold BS.FY;rw[Af Mg]
   simp only[Qs,BV];exact Ae _
def ZO{blk anc:Int}{far k m:Nat}:∀{c:Nat} {s:BS×Int×Nat},Cx s.1 (m+4*c)->Cx (BS.Pp blk anc far k c s).1 m/\(BS.Pp blk anc far k c s).1.AK.length<=s.1.AK.length
 |0,s,r=>⟨r.le Ab,Ae _⟩
 |c+1,s,r=>by have d:=XF (blk:=blk) (anc:=anc) (far:=far) (i:=k+(c+1)) (l:=s.2.1) (mk:=s.2.2) (m:=m+4*c) (r.le Ab);have h:=ZO (blk:=blk) (anc:=anc) (far:=far) (k:=k) (m:=m) (c:=c) (s:=BS.Ig blk anc far (k+(c+1)) s.1 s.2.1 s.2.2) d;exact⟨h.1,Bp h.2 dv⟩
def kD{fe:Co}{blk anc:Int}{s:BS×Int×Nat}(r:Cx s.1 (m+4))(Rg:fe.name.length<=1000/\Eb fe.Au):Cx (BS.Kf fe blk anc s) m/\(BS.Kf fe blk anc s).AK.length<=s.1.AK.length+1:=by
 unfold BS.Kf;simp only
 generalize oq:s.1.place anc=pb;have j:=r.I8 (LB (x:=s.2.1) (p:=pb.1) (bf:=pb.2));generalize Qk:({s.1 with a:=s.1.a.If s.2.1 pb.1 pb.2}:BS)=b2 at j;have rQ:b2.AK=s.1.AK:=by rw[<-Qk]
 have d:=Lr (m:=m+1) (nm:=fe.name) (l:=fe.Au) (sp:=1) (p:=blk) (j.le Ab) Rg.2;have Qs:(b2.FY fe.name fe.Au 1 blk).AK=b2.AK:=by unfold BS.FY;rw[Af Mg]
 have g:(b2.JG fe.name fe.Au 1).name.length<=1000:=Pq Rg.1;generalize b2.FY fe.name fe.Au 1 blk=b3 at*;generalize b2.JG fe.name fe.Au 1=n at*;have q:=d.I8 ((QE (n:=n.node) (l:=(b3.a.nd blk).Bw)).trans (Kh (p:=blk) (x:=n.node) (bf:=0)));have MI:∀{U:Type} (l:List U) (k:Nat) (y:U),(l.take k++y::l.drop k).length=l.length+1/\∀z∈l.take k++y::l.drop k,z∈l\/z=y:=λl k y=>⟨by rw[Aq,AJ,AB,Bg];omega,λz hz=>by
  rcases Ap.1 hz with hz|hz
  .exact .inl (A0 hz)
  .rcases AG.1 hz with rfl|hz
   .exact .inr rfl
   .exact .inl (Bu hz)⟩
 have hr:=Ih (n:=fe.node) (l:=b3.AK);have hd:=C0 (l:=b3.AZ) (k:=(Fw fe.node b3.AZ).toNat);have f:=q.le (m':=m) Ab;refine⟨⟨f.n,f.at_,f.data,?_,?_,f.tm,λe he=>?_,λi hi=>?_⟩,?_⟩;.simp only[(MI _ _ _).1];have:=hr.length_le;have:=d.AK;omega
 .simp only[(MI _ _ _).1];have:=hd.length_le;have:=d.AZ;omega
 .rcases(MI _ _ _).2 e he with he|rfl
  .exact d.C7 e (hd.subset he)
  .exact Rg
 .rcases(MI _ _ _).2 i hi with hi|rfl
  .exact d.cB i (hr.subset hi)
  .exact g
 .simp only[(MI _ _ _).1];have h1:=hr.length_le;have h2:=B2 List.length (Qs.trans rQ);omega
def XI(r:Cx b (m+4*b.AK.length+10))(nm:Ah):Cx (b.round nm).2 m/\(b.round nm).2.AK.length<=b.AK.length+1:=by
 have d:Cx b m:=r.le Ab;unfold BS.round;simp only
 split
 .have key:(b.Dq nm).a=b.a/\List.Sublist (b.Dq nm).AK b.AK/\(b.Dq nm).AZ=b.AZ/\(b.Dq nm).tm=b.tm:=by
   unfold BS.Dq;split
   .split;.exact⟨rfl,Hl.trans Cs,rfl,rfl⟩
    .exact⟨rfl,AF _,rfl,rfl⟩
   .exact⟨rfl,AF _,rfl,rfl⟩
  exact⟨d.sub key.1 key.2.1 (by rw[key.2.2.1];exact AF _) (by rw[key.2.2.2];exact Ae _),Bp key.2.1.length_le (Fh _)⟩
 .rename_i hf;obtain⟨f,Io,g⟩:=XH (T0.1 hf);have um:b.AZ.getD (Ff nm b.AZ).toNat Co.zero=b.AZ[f]:=by rw[g,BD,AR,As Io];rfl
  have Rg:=r.C7 _ (AY Io);rw[um];split;.exact⟨d.sub rfl (AF _) C0 (Ae _),Fh _⟩
  .split;.exact⟨d,Fh _⟩
   .split;.exact⟨d.sub rfl Hl C0 (Ae _),Bp Hl.length_le (Fh _)⟩
    .rename_i hk _ hfa;have hlt:(Em b.AZ[f].node b.AK).toNat-1 -(AX (BQ b.AZ[f].node) b.AK).toNat<=b.AK.length:=by
      rw[Mt];split;.omega
      .unfold Gj;split;.rename_i j hj;have:=(Kr.1 hj).1;rw[Bg] at this;omega
       .omega
     have h1:=ZO (blk:=(b.AK.getD (Em b.AZ[f].node b.AK).toNat Item.zero).node) (anc:=(b.AK.getD ((AX (BQ b.AZ[f].node) b.AK).toNat-1) Item.zero).node) (far:=(Em b.AZ[f].node b.AK).toNat) (k:=(AX (BQ b.AZ[f].node) b.AK).toNat) (m:=m+4) (c:=(Em b.AZ[f].node b.AK).toNat-1 -(AX (BQ b.AZ[f].node) b.AK).toNat) (s:=(b,(b.AK.getD (Em b.AZ[f].node b.AK).toNat Item.zero).node,(Ff nm b.AZ).toNat)) (r.le Ab);have h2:=kD (fe:=b.AZ[f]) (blk:=(b.AK.getD (Em b.AZ[f].node b.AK).toNat Item.zero).node) (anc:=(b.AK.getD ((AX (BQ b.AZ[f].node) b.AK).toNat-1) Item.zero).node) h1.1 Rg;exact⟨h2.1,Bp h2.2 (Nat.succ_le_succ h1.2)⟩
def My:∀{n:Nat} {b:BS} {k:Nat},b.AK.length<=k->Cx b (m+n*(4*(k+n)+10))->Cx (BS.Ho n b nm) m/\(BS.Ho n b nm).AK.length<=k+n
 |0,b,k,hk,r=>⟨r.le Ab,hk⟩
 |n+1,b,k,hk,r=>by
  have e:(n+1)*(4*(k+(n+1))+10)=n*(4*(k+1+n)+10)+(4*(k+(n+1))+10):=by rw[BA,Ed,(Ab:k+(n+1)=k+1+n)]
  rw[e] at r;have h1:=XI (m:=m+n*(4*(k+1+n)+10)) (r.le Ab) nm;unfold BS.Ho;simp only
  split;.have h2:=My (n:=n) (k:=k+1) Ab h1.1;exact⟨h2.1,Ab⟩
  .exact⟨h1.1.le Ab,Ab⟩
def aHe(w:BX h bi a o c t G b)(hc:Di b.AZ c)(ok:EI b)(rm:Cx b (m+8*(4*(b.AK.length+8)+10)))(nm:Ah):
  ∃h' o' c' G',B9 cx 58 [Pt bi 0,.str nm] h (.tuple []) h'/\BX h' bi a o' c' t G' (b.DK nm)/\Di (b.DK nm).AZ c'/\Ew h (BK bi G) h' (BK bi G'):=by
 have ho:=rm.AK;have D:=aCL w rm;have em:Az (.Ch 1) [.str nm]=some (.sl 1 ([nm].map Ca)):=El (ws:=[nm]) rfl Ax;have r2:B9 cx 133 [.agg (E3 b.AK).row,.sl 1 ([nm].map Ca)] h (.bool (Be [nm] (E3 b.AK))) h:=pP (ws:=[nm]) CP Ax _ h;have K:=hc.at w rm (E3 b.AK).node;have J:b.KI.AZ=b.AZ:=by unfold BS.KI;split<;>rfl
 by_cases h1:Be [nm] (E3 b.AK)=true/\Fw (E3 b.AK).node b.AZ<0
 .obtain⟨h2,v,N,s,q⟩:=aCS w rm;have e:b.DK nm=b.KI:=by unfold BS.DK;rw[Af h1]
  rw[e];refine⟨h2,v,c,G,?_,s,by rw[J];exact hc,q⟩;rw[h1.1] at r2;rw[Ag,oZ,t58];simp only[abS,Jr,(HT w).Ac,D.Ac,em,r2.Ac,K.Ac,h1.2,N.Ac]
 have e:b.DK nm=BS.Ho 8 b nm:=by unfold BS.DK;rw[Ad h1]
 rw[e];have O5:Ev cx 58 [Pt bi 0,.str nm] h λr h'=>r= .tuple []/\∃o' c' G',BX h' bi a o' c' t G' (BS.Ho 8 b nm)/\Di (BS.Ho 8 b nm).AZ c'/\Ew h (BK bi G) h' (BK bi G'):=by
  unfold Ev;rw[oZ,t58];have HM:∀(Q:J7) (k:FG->List Aa->IT),(∀x vs h1,(x= .exit 0\/x= .ret)->(∃o' c' G',BX h1 bi a o' c' t G' (BS.Ho 8 b nm)/\Di (BS.Ho 8 b nm).AZ c'/\Ew h (BK bi G) h1 (BK bi G'))->W cx (k x vs) Q h1)->
    W cx (.loop 5 [I 0] (λd=> .op (.int .lss) [g d 0,I 8] λv14=> .AD v14 (.call 157 [Pt bi 0,.str nm] λC=> .op (.un .not) [C] λv16=> .AD v16 (.ret .ret [g d 0]) (.op (.int .add) [g d 0,I 1] λB=> .ret .normal [B])) (.ret (.exit 0) [g d 0])) k) Q h:=by
   intro Q k hk;refine BM (λn:Nat=>[I ((8 -n:Nat):Int)]) (λn h1=>n<=8/\∃H y z b1,BX h1 bi a H y t z b1/\Di b1.AZ y/\EI b1/\Cx b1 (m+n*(4*(b.AK.length+8)+10))/\b1.AK.length<=b.AK.length+(8 -n)/\BS.Ho 8 b nm=BS.Ho n b1 nm/\Ew h (BK bi G) h1 (BK bi z)) (λn=>n) 8 rfl ⟨Ae _,o,c,G,b,w,hc,ok,rm,Ab,rfl,.refl⟩ ?_;rintro n h1 ⟨hn,H,y,z,b1,w1,Yg,ZJ,f,fA,j,A⟩;cases n with
   |zero=>simp only[abS,(AM:¬((8 -0:Nat):Int)<8)];exact hk _ _ _ (.inl rfl) ⟨H,y,z,by rw[j];exact w1,by rw[j];exact Yg,A⟩
   |succ n=>
    have hsp:(n+1)*(4*(b.AK.length+8)+10)=n*(4*(b.AK.length+8)+10)+(4*(b.AK.length+8)+10):=by rw[BA,Ed]
    rw[hsp] at f;have aHf:Cx b1 (m+n*(4*(b.AK.length+8)+10)+4*b1.AK.length+10):=f.le Ab;obtain⟨h2,v,L,M,u,s,KX,q⟩:=aLw w1 Yg ZJ aHf nm;obtain⟨pQ,lS⟩:=XI aHf nm;have E:=(jI (nm:=nm) ZJ).1;have hlt:((8 -(n+1):Nat):Int)<8:=Ab;have inc:Az (.int .add) [I ((8 -(n+1):Nat):Int),I 1]=some (I ((8 -n:Nat):Int)):=by have:=CI (n:=8 -(n+1)) Ab;rwa [(Ab:8 -(n+1)+1=8 -n)] at this
    have i:BS.Ho (n+1) b1 nm=if(b1.round nm).1 then BS.Ho n (b1.round nm).2 nm else(b1.round nm).2:=rfl
    cases hr:(b1.round nm).1 with
    |true=>rw[hr] at u i;simp only[abS,hlt,u.Ac,inc];exact Bq.next n rfl ⟨Ab,v,L,M,_,s,KX,E,pQ,Ab,j.trans i,A.trans q⟩ Ab
    |false=>rw[hr] at u i;simp only[abS,hlt,u.Ac];exact hk _ _ _ (.inr rfl) ⟨v,L,M,by rw[j,i];exact s,by rw[j,i];exact KX,A.trans q⟩
  by_cases h2:Be [nm] (E3 b.AK)=true
  .have O:¬Fw (E3 b.AK).node b.AZ<0:=λh=>h1 ⟨h2,h⟩;rw[h2] at r2;simp only[abS,Jr,(HT w).Ac,D.Ac,em,r2.Ac,K.Ac,O];refine HM _ _ ?_;rintro x vs h1 (rfl|rfl) ⟨o',c',G',a1,a2,a3⟩;.simp only[Cf];exact⟨_,rfl,rfl,o',c',G',a1,a2,a3⟩
   .simp only[Cf];exact⟨_,rfl,rfl,o',c',G',a1,a2,a3⟩
  .have h2:Be [nm] (E3 b.AK)=false:=by simpa using h2
   rw[h2] at r2;simp only[abS,Jr,(HT w).Ac,D.Ac,em,r2.Ac];refine HM _ _ ?_;rintro x vs h1 (rfl|rfl) ⟨o',c',G',a1,a2,a3⟩;.simp only[Cf];exact⟨_,rfl,rfl,o',c',G',a1,a2,a3⟩
   .simp only[Cf];exact⟨_,rfl,rfl,o',c',G',a1,a2,a3⟩
 obtain⟨r,h',hr,rfl,o',c',G',w',Ns,x'⟩:=O5.ret;exact⟨h',o',c',G',hr,w',Ns,x'⟩
end
structure dw where
 k:Int
 name:Ah
 Au:List A3
 A6:Int
 a:Int
 b:Bool
 s:Ah
 r:Int
 n:Int
def Nk(h:Int):Item:=⟨h,0,[],false⟩
def dx(b:BS)(q:dw):BS×Item:=
 if q.k=1 then(b.Fq q.name q.Au 1,Nk (b.a.len+1))
 else if q.k=2 then(b.Fq q.name q.Au q.A6,Nk (b.OF q.A6))
 else if q.k=3 then(b.Hn q.name q.Au,Nk (b.a.len+1))
 else if q.k=4 then(b.Re q.r,Item.zero)
 else if q.k=5 then(b.EL q.s q.a,Item.zero)
 else if q.k=6 then(b.EM q.name q.Au q.n,Item.zero)
 else if q.k=7 then(b.CA,Item.zero)
 else if q.k=8 then(b.Bf,Item.zero)
 else if q.k=9 then(b.Dq q.name,Item.zero)
 else if q.k=10 then(b.DK q.name,Item.zero)
 else if q.k=11 then(b.IQ,Item.zero)
 else if q.k=12 then(b.GR q.Au q.a,Item.zero)
 else if q.k=13 then(b.Dd,Item.zero)
 else if q.k=14 then({b with stop:=true},Item.zero)
 else if q.k=15 then({b with FT:=q.b},Item.zero)
 else if q.k=16 then({b with tm:=b.tm++[q.n]},Item.zero)
 else if q.k=17 then({b with AZ:=b.AZ++[Co.zero]},Item.zero)
 else if q.k=18 then(b.KI,b.cj)
 else if q.k=19 then({b with head:=q.a},Item.zero)
 else if q.k=20 then({b with mode:=q.n},Item.zero)
 else if q.k=21 then({b with AZ:=Fx b.AZ},Item.zero)
 else if q.k=22 then({b with AK:=DT Db (Be [q.name]) b.AK},Item.zero)
 else if q.k=23 then({b with HP:=q.a},Item.zero)
 else if q.k=24 then(b.FY q.name q.Au q.A6 q.a,b.JG q.name q.Au q.A6)
 else(b,Item.zero)
structure xr(q:dw):Prop where
 name:q.name.length<=1000
 Au:Eb q.Au
 s:q.s.length<=1000
 r: -2147483648<=q.r/\q.r<=2147483647
section
variable{b:BS}{q:dw}{m j:Nat}
def aC1(o:EI b){nm:Ah}{l:List A3}{sp p:Int}:EI (b.FY nm l sp p):=by
 by_cases hs:BS.LW sp;.exact(So o hs).1
 .unfold BS.FY;rw[Ad hs];exact o
def yF(o:EI b):EI {b with AZ:=b.AZ++[Co.zero]}:=by have:=o.aAu (e:=Co.zero) (k:=b.AZ.length) (.inl rfl) (.inl rfl);rw[BW,GV] at this;exact this
def D9{U:Type}{P:U->Prop}{c:Prop}[Decidable c]{x y:U}(h1:P x)(h2:P y):P (if c then x else y):=by split;exact h1;exact h2
def kE{P:BS×Item->Prop}(h1:P (b.Fq q.name q.Au 1,Nk (b.a.len+1)))(h2:P (b.Fq q.name q.Au q.A6,Nk (b.OF q.A6)))(B:P (b.Hn q.name q.Au,Nk (b.a.len+1)))(A:P (b.Re q.r,Item.zero))(z:P (b.EL q.s q.a,Item.zero))(y:P (b.EM q.name q.Au q.n,Item.zero))(x:P (b.CA,Item.zero))(w:P (b.Bf,Item.zero))(v:P (b.Dq q.name,Item.zero))(ZH:P (b.DK q.name,Item.zero))(gU:P (b.IQ,Item.zero))(u:P (b.GR q.Au q.a,Item.zero))(t:P (b.Dd,Item.zero))(p:P ({b with stop:=true},Item.zero))(o:P ({b with FT:=q.b},Item.zero))(l:P ({b with tm:=b.tm++[q.n]},Item.zero))(k:P ({b with AZ:=b.AZ++[Co.zero]},Item.zero))(i:P (b.KI,b.cj))(h:P ({b with head:=q.a},Item.zero))(g:P ({b with mode:=q.n},Item.zero))(f:P ({b with AZ:=Fx b.AZ},Item.zero))(e:P ({b with AK:=DT Db (Be [q.name]) b.AK},Item.zero))(d:P ({b with HP:=q.a},Item.zero))(c:P (b.FY q.name q.Au q.A6 q.a,b.JG q.name q.Au q.A6))(h0:P (b,Item.zero)):P (dx b q):=by unfold dx;exact D9 h1 (D9 h2 (D9 B (D9 A (D9 z (D9 y (D9 x (D9 w (D9 v (D9 ZH (D9 gU (D9 u (D9 t (D9 p (D9 o (D9 l (D9 k (D9 i (D9 h (D9 g (D9 f (D9 e (D9 d (D9 c (h0))))))))))))))))))))))))
def aC2(o:EI b):EI (dx b q).1:=kE (P:=λr=>EI r.1) (Rf (nm:=q.name) (at_:=q.Au) (sp:=1) o) (Rf o) (ZD o) (tI o) (Xi o) (oU o) (cr o) (Xk o) (ZE o) (ZG o) (Sr o) (jG o) (Xj o) (o.of_eq rfl rfl rfl rfl) (o.of_eq rfl rfl rfl rfl) (o.of_eq rfl rfl rfl rfl) (yF o) (om o) (o.of_eq rfl rfl rfl rfl) (o.of_eq rfl rfl rfl rfl) (o.jD (Cl _ _)) (o.Js Cs) (o.of_eq rfl rfl rfl rfl) (aC1 o) o
def Cx.yG{k m:Nat}{h:Int}{x:GQ}(r:Cx b (m+k))(h1:x.Au.length<=(b.a.nd h).Au.length+k\/x.Au.length<=1000)(h2:x.data.length<=(b.a.nd h).data.length+k\/x.data.length<=100000):Cx {b with a:=b.a.set h x} m:=by
 have hn:(b.a.set h x).n.length=b.a.n.length:=by have:=zx (A:=b.a) (h:=h) (x:=x);unfold Ar.len at this;omega
 have c:=r.le (m':=m) Ab;have rn:=r.n;refine⟨by simp only;rw[hn];exact c.n,λy=>?_,λy=>?_,c.AK,c.AZ,c.tm,c.C7,c.cB⟩
 .simp only;rw[JF];split;.rename_i d;have:=r.at_ h;omega
  .exact c.at_ y
 .simp only;rw[JF];split;.have:=r.data h;omega
  .exact c.data y
def Uz{m:Nat}{s:Ah}{p bf:Int}(r:Cx b (m+5))(hs:s.length<=4):Cx {b with a:=BS.Rd b.a s p bf} m:=by
 have M4:∀d,Cx {b with a:=(b.a.add {kind:=5,CK:=d,data:=s}).If (b.a.len+1) p bf} m:=λd=>((r.le (m':=m+1) Ab).FH (KJ (A7 _) Gx)).I8 LB
 have c:=r.le (m':=m) Ab;unfold BS.Rd;split
 .split
  .split;.exact Cx.yG (k:=5) r (.inl Gx) (.inl (by simp only[Aq];omega))
   .exact M4 _
  .exact M4 _
 .exact c
def JL{m:Nat}{s:Ah}{p bf:Int}(r:Cx b (m+5))(hs:s.length<=100000):Cx {b with a:=BS.Iy b.a s p bf} m:=by
 unfold BS.Iy;split;.exact((r.le (m':=m+1) Ab).FH (KJ (A7 _) hs)).I8 LB
 .exact r.le Ab
end
section
variable{b:BS}{q:dw}{m j:Nat}{nm:Ah}
def XJ{l:List A3}{x:Int}(r:Cx b (m+1000))(hl:l.length<=1000):Cx (b.GR l x) m:=by
 unfold BS.GR;split;.refine Cx.yG (k:=1000) r (.inl ?_) (.inl Gx);have:=Sl (l:=(b.a.nd x).Au++BS.plain l);rw[Aq,BS.plain,Av] at this;unfold BS.plain;simp only;omega
 .exact r.le Ab
def ZP:∀{l:List Co} {b:BS},(BS.Lq l b).2.AK.length<=b.AK.length+l.length/\(BS.Lq l b).2.AZ=b.AZ/\(BS.Lq l b).1.length=l.length/\∀e∈(BS.Lq l b).1,∃a∈l,e.name=a.name/\e.Au=a.Au
 |[],b=>⟨by simp[BS.Lq],rfl,rfl,λe he=>by simp[BS.Lq] at he⟩
 |e::l,b=>by
  obtain⟨h1,h2,g,f⟩:=ZP (l:=l) (b:=b.Fq e.name e.Au 1);have i:(b.Fq e.name e.Au 1).AK.length<=b.AK.length+1:=by
   unfold BS.Fq;rw[Af Mg];simp only
   have:(b.FY e.name e.Au 1 (b.place 0).1).AK=b.AK:=by unfold BS.FY;rw[Af Mg]
   rw[Aq,Bl];first|(rw[this];exact Ae _)|exact Ae _
  rw[BS.Lq];refine⟨by simp only[AJ];omega,by simp only;rw[h2,FU],by simp only[AJ,g],λh he=>?_⟩;rcases AG.1 he with rfl|he
  .exact⟨e,Ax,rfl,rfl⟩
  .obtain⟨a,d,c⟩:=f h he;exact⟨a,by simp[d],c⟩
def SF(r:Cx b (m+4*b.AZ.length)):Cx b.Bf m/\b.Bf.AK.length<=b.AK.length+b.AZ.length/\b.Bf.AZ.length=b.AZ.length:=by
 have hk:=dU (b:=b);have a:=ZN (l:=b.AZ.drop b.OG) (b:=b) (m:=m) (r.le (by rw[Bg];omega)) λe he=>r.C7 e (Bu he);obtain⟨h1,h2,c,h⟩:=ZP (l:=b.AZ.drop b.OG) (b:=b);rw[Bg] at h1 c;have hl:b.Bf.AZ.length=b.AZ.length:=by unfold BS.Bf;simp only[Aq,AB,c];omega
 refine⟨⟨a.n,a.at_,a.data,a.AK,?_,a.tm,λe he=>?_,a.cB⟩,by unfold BS.Bf;simp only;omega,hl⟩;.rw[hl];have:=r.AZ;omega
 .unfold BS.Bf at he;simp only at he;rcases Ap.1 he with he|he
  .exact r.C7 e (A0 he)
  .obtain⟨i,g,f,d⟩:=h e he;rw[f,d];exact r.C7 i (Bu g)
def kF{blk anc:Int}{far k:Nat}:∀{c:Nat} {s:BS×Int×Nat},(BS.Pp blk anc far k c s).1.AZ.length<=s.1.AZ.length
 |0,s=>Ae _
 |c+1,s=>by
  refine Bp (kF (c:=c)) ?_;unfold BS.Ig;simp only
  split;.exact Ae _
  .split;.exact C0.length_le
   .have:∀nm l p,(s.1.FY nm l 1 p).AZ=s.1.AZ:=λnm l p=>by unfold BS.FY;rw[Af Mg]
    simp only[this,BV];exact Ae _
def dy:(b.round nm).2.AZ.length<=b.AZ.length+1:=by
 unfold BS.round;simp only
 split
 .have:(b.Dq nm).AZ=b.AZ:=by
   unfold BS.Dq;split;.split<;>rfl
   .rfl
  rw[this];omega
 .split;.exact Bp C0.length_le (Fh _)
  .split;.exact Fh _
   .split;.exact Bp C0.length_le (Fh _)
    .unfold BS.Kf;simp only
     generalize hs:BS.Pp _ _ _ _ _ _=s;have h1:s.1.AZ.length<=b.AZ.length:=by rw[<-hs];exact kF
     have:∀(b2:BS) nm l p,(b2.FY nm l 1 p).AZ=b2.AZ:=λb2 nm l p=>by unfold BS.FY;rw[Af Mg]
     simp only[this,Aq,AJ,AB,Bg];have h2:∀k,(Bz s.1.AZ k).length<=s.1.AZ.length:=λk=>C0.length_le;refine Bp (m:=(Bz s.1.AZ (Fw (b.AZ.getD (Ff nm b.AZ).toNat Co.zero).node s.1.AZ).toNat).length+1) ?_ (Nat.succ_le_succ (Bp (h2 _) h1));omega
def Rl:∀{n:Nat} {b:BS},(BS.Ho n b nm).AZ.length<=b.AZ.length+n
 |0,b=>Ae _
 |n+1,b=>by
  have h:=dy (b:=b) (nm:=nm);unfold BS.Ho;simp only
  split;.have:=Rl (n:=n) (b:=(b.round nm).2);omega
  .omega
structure Sz(b:BS)(j:Nat):Prop where
 rm:Cx b (5000000*j)
 AK:b.AK.length+1200*j<=125000
 AZ:b.AZ.length+10*j<=1100
def Sz.of{b':BS}(h:Sz b (j+1))(r:Cx b' (5000000*j))(h1:b'.AK.length<=b.AK.length+1200)(h2:b'.AZ.length<=b.AZ.length+10):Sz b' j:=⟨r,by have:=h.AK;omega,by have:=h.AZ;omega⟩
def Sz.pU{k:Nat}(h:Sz b (j+1))(hk:k<=5000000:=by omega):Cx b (5000000*j+k):=h.rm.le Ab
def Sz.OH{b':BS}(h:Sz b (j+1))(ha:b'.a=b.a)(ho:b'.AK.Sublist b.AK)(hc:b'.AZ.Sublist b.AZ)(ht:b'.tm.length<=b.tm.length):Sz b' j:=
 h.of ((h.rm.le Ab).sub ha ho hc ht) (by have:=ho.length_le;omega) (by have:=hc.length_le;omega)
def Sz.KI(h:Sz b (j+1)):Sz b.KI j:=by
 unfold BS.KI;split;.exact h.OH rfl (AF _) (AF _) (Ae _)
 .exact h.OH rfl (Cl _ _) (AF _) (Ae _)
def SG{l:List A3}{sp:Int}:(b.Fq nm l sp).AK.length<=b.AK.length+1200:=by
 unfold BS.Fq;split
 .rename_i hs;have:(b.FY nm l sp (b.place 0).1).AK=b.AK:=by unfold BS.FY;rw[Af hs]
  have:=B2 List.length this;simp only[Aq,Bl];omega
 .omega
def pV{l:List A3}:(b.Hn nm l).AZ.length<=b.AZ.length+10:=by
 unfold BS.Hn;simp only
 obtain⟨l',h1,h2⟩:=Sp (l:=(b.Fq nm l 1).AZ) (e:=⟨b.a.len+1,nm,l⟩);rw[h2,Aq,Bl];have:=h1.length_le;rw[FU] at this;omega
def aC3(h:Sz b (j+1))(hq:xr q):Sz (dx b q).1 j:=kE (P:=λr=>Sz r.1 j)
 (h.of (L0 (sp:=1) h.pU hq.Au hq.name) SG (by rw[FU];omega))
 (h.of (L0 h.pU hq.Au hq.name) SG (by rw[FU];omega))
 (h.of (Ux h.pU hq.Au hq.name) SG pV)
 (h.of (Uz h.pU (XC _)) (Fz _ _) (Fz _ _))
 (by
  dsimp only;unfold BS.EL;split;.exact h.of (JL h.pU (by have:=hq.s;omega)) (Fz _ _) (Fz _ _)
  .exact h.of (JL h.pU (by have:=hq.s;omega)) (Fz _ _) (Fz _ _))
 (h.of ((L0 h.pU hq.Au hq.name).eq rfl rfl rfl rfl) SG (by show(b.Fq q.name q.Au 1).AZ.length<=_;rw[FU];omega))
 (by
  dsimp only;unfold BS.CA;split;.exact h.OH rfl (Cs.trans Cs) (AF _) (Ae _)
  .exact h.OH rfl (AF _) (AF _) (Ae _))
 (by dsimp only;have h1:=SF (m:=5000000*j) (h.rm.le (by have:=h.AZ;omega));exact h.of h1.1 (by have:=h.AZ;have:=h1.2.1;omega) (by rw[h1.2.2];omega))
 (by
  dsimp only;unfold BS.Dq;split
  .split;.exact h.OH rfl (Hl.trans Cs) (AF _) (Ae _)
   .exact h.OH rfl (AF _) (AF _) (Ae _)
  .exact h.OH rfl (AF _) (AF _) (Ae _))
 (by
  dsimp only;unfold BS.DK;split;.exact h.KI
  .have h1:=My (n:=8) (b:=b) (k:=b.AK.length) (nm:=q.name) (m:=5000000*j) (Ae _) (h.rm.le (by have:=h.AK;omega));exact h.of h1.1 (by have:=h1.2;omega) (by have:=Rl (n:=8) (b:=b) (nm:=q.name);omega))
 (h.OH rfl (AF _) (AF _) (Ae _))
 (by
  dsimp only;have e:(b.GR q.Au q.a).AK=b.AK/\(b.GR q.Au q.a).AZ=b.AZ:=by unfold BS.GR;split<;>exact⟨rfl,rfl⟩
  exact h.of (XJ (m:=5000000*j) (h.rm.le Ab) hq.Au.1) (by rw[e.1];omega) (by rw[e.2];omega))
 (by
  dsimp only;unfold BS.Dd;split;.exact h.OH rfl (AF _) (AF _) (Ae _)
  .exact h.OH rfl (show(DT Db (Be [Bc]) (DT DM Db b.AK)).Sublist b.AK from Cs.trans Cs) (Cl _ _) (Ax:b.tm.dropLast.length<=b.tm.length))
 (h.OH rfl (AF _) (AF _) (Ae _))
 (h.OH rfl (AF _) (AF _) (Ae _))
 (by dsimp only;have r:=h.rm.le (m':=5000000*j+1) Ab;have c:=r.le (m':=5000000*j) Ab;exact h.of ⟨c.n,c.at_,c.data,c.AK,c.AZ,by have:=r.tm;simp only[Aq,Bl];omega,c.C7,c.cB⟩ (Fz _ _) (Fz _ _))
 (by
  dsimp only;refine h.of ((h.rm.le (m':=5000000*j+1) Ab).oz (e:=Co.zero) Ax (λe he=>?_) ⟨AM,AM,λa ha=>by cases ha⟩) (Fz _ _) Ax;rcases Ap.1 he with he|he
  .exact .inl he
  .exact .inr (by simpa using he))
 (h.KI)
 (h.OH rfl (AF _) (AF _) (Ae _))
 (h.OH rfl (AF _) (AF _) (Ae _))
 (h.OH rfl (AF _) (Cl _ _) (Ae _))
 (h.OH rfl Cs (AF _) (Ae _))
 (h.OH rfl (AF _) (AF _) (Ae _))
 (by
  dsimp only;have e:(b.FY q.name q.Au q.A6 q.a).AK=b.AK/\(b.FY q.name q.Au q.A6 q.a).AZ=b.AZ:=by unfold BS.FY;split<;>exact⟨rfl,rfl⟩
  exact h.of (Lr (m:=5000000*j) (h.rm.le Ab) hq.Au) (by rw[e.1];omega) (by rw[e.2];omega))
 (h.OH rfl (AF _) (AF _) (Ae _))
end
def SH(q:dw)(av:Aa):List Aa:=[I q.k,.str q.name,av,I q.A6,I q.a,.bool q.b,.str q.s,.int .i32 q.r,I q.n]
section
variable{h h':Ai}{bi a:Nat}{o c t:Aa}{G G' F:Nat->Prop}{b:BS}{x:Int}{m j:Nat}{q:dw}
variable{nm:Ah}{av:Aa}{l:List A3}{r:List Aa}{sp p:Int}
def dz(hv:Bb q.Au av)(hl:q.Au.length<=1000)(h:Ai):∃r eB,B9 cx 52 [.agg (SH q av)] h (.agg r) h/\Xy q.name eB r/\Bb q.Au eB:=by have xi:AO=140737488355328:=rfl;obtain⟨u,e,hu⟩:=Bv.Q6 (b:=40) hv Ab;have hc:u.cells=[u]:=Bv.cells hu;refine⟨_,u,?_,⟨I 2,ff,S [],ff,S [],ff,ff,ff,S [],.int .i32 0,rfl⟩,hu⟩;rw[Ag,aAJ,t52,SH];simp only[abS,Nat.reduceLeDiff,↓reduceIte,Br,e,hc]
def aHg(i:Item)(h:Ai):B9 cx 63 [.agg i.row] h (.agg i.row) h:=by rw[Ag,aAK,t63,Item.row];simp only[abS,Nat.reduceLeDiff,↓reduceIte,Br]
set_option maxHeartbeats 4000000 in
def aLM(w:BX h bi a o c t G b)(hc:Di b.AZ c)(ok:EI b)(sz:Sz b (j+1))(hq:xr q)(hv:Bb q.Au av):
  ∃h' o' c' t' G',B9 cx 22 [Pt bi 0,.agg (SH q av)] h (.agg (dx b q).2.row) h'/\BX h' bi a o' c' t' G' (dx b q).1/\Di (dx b q).1.AZ c'/\Ew h (BK bi G) h' (BK bi G'):=by
 unfold dx SH;by_cases d:q.k=1;.rw[Af d];dsimp only;obtain⟨r,eB,D,hr,Gm⟩:=dz (q:=q) hv hq.Au.1 h;rw[SH] at D;obtain⟨h',o',G',r2,w',x'⟩:=tz (m:=5000000*j) w ok sz.pU hr Gm hq.Au hq.name;refine⟨h',o',c,t,G',?_,w',by rw[FU];exact hc,x'⟩;rw[Ag,Fk,t22];simp only[abS,Nat.reduceLeDiff,↓reduceIte,Br,A5 d,D.Ac,r2.Ac];try rfl
 rw[Ad d];by_cases f:q.k=2;.rw[Af f];dsimp only;obtain⟨r,eB,D,hr,Gm⟩:=dz (q:=q) hv hq.Au.1 h;rw[SH] at D;obtain⟨h',o',G',r2,w',x'⟩:=aCN (m:=5000000*j) w ok sz.pU hr Gm hq.Au hq.name q.A6;refine⟨h',o',c,t,G',?_,w',by rw[FU];exact hc,x'⟩;rw[Ag,Fk,t22];simp only[abS,Nat.reduceLeDiff,↓reduceIte,Br,d,A5 f,D.Ac,r2.Ac];try rfl
 rw[Ad f];by_cases g:q.k=3;.rw[Af g];dsimp only;obtain⟨r,eB,D,hr,Gm⟩:=dz (q:=q) hv hq.Au.1 h;rw[SH] at D;obtain⟨h',o',c',G',r2,w',Ns,x'⟩:=aGD (m:=5000000*j) w hc ok sz.pU hr Gm hq.Au hq.name;refine⟨h',o',c',t,G',?_,w',Ns,x'⟩;rw[Ag,Fk,t22];simp only[abS,Nat.reduceLeDiff,↓reduceIte,Br,d,f,A5 g,D.Ac,r2.Ac];try rfl
 rw[Ad g];by_cases i:q.k=4;.rw[Af i];dsimp only;obtain⟨h',G',r2,w',x'⟩:=aGJ (m:=5000000*j) w ok sz.pU q.r hq.r;refine⟨h',o,c,t,G',?_,w',hc,x'⟩;rw[Ag,Fk,t22];simp only[abS,↓reduceIte,Br,d,f,g,A5 i,r2.Ac];try rfl
 rw[Ad i];by_cases y:q.k=5;.rw[Af y];dsimp only;obtain⟨h',G',r2,w',x'⟩:=aGK (m:=5000000*j) w ok sz.pU q.s (by have:=hq.s;omega) q.a;refine⟨h',o,c,t,G',?_,w',hc,x'⟩;rw[Ag,Fk,t22];simp only[abS,↓reduceIte,Br,d,f,g,i,A5 y,r2.Ac];try rfl
 rw[Ad y];by_cases z:q.k=6;.rw[Af z];dsimp only;obtain⟨r,eB,D,hr,Gm⟩:=dz (q:=q) hv hq.Au.1 h;rw[SH] at D;obtain⟨h',o',G',r2,w',x'⟩:=aGL (m:=5000000*j) w ok sz.pU hr Gm hq.Au hq.name q.n;refine⟨h',o',c,t,G',?_,w',by show Di (b.Fq q.name q.Au 1).AZ c;rw[FU];exact hc,x'⟩;rw[Ag,Fk,t22];simp only[abS,↓reduceIte,Br,d,f,g,i,y,A5 z,D.Ac,r2.Ac];try rfl
 rw[Ad z];by_cases A:q.k=7;.rw[Af A];dsimp only;obtain⟨h',o',r2,w',x'⟩:=aGM w sz.rm;refine⟨h',o',c,t,G,?_,w',by have e:b.CA.AZ=b.AZ:=(by unfold BS.CA;split<;>rfl);rw[e];exact hc,x'⟩;rw[Ag,Fk,t22];simp only[abS,↓reduceIte,Br,d,f,g,i,y,z,A5 A,r2.Ac];try rfl
 rw[Ad A];by_cases B:q.k=8;.rw[Af B];dsimp only;obtain⟨h',o',c',G',r2,w',Ns,x'⟩:=aGZ (m:=5000000*j) w hc ok (sz.rm.le (by have:=sz.AZ;omega));refine⟨h',o',c',t,G',?_,w',Ns,x'⟩;rw[Ag,Fk,t22];simp only[abS,↓reduceIte,Br,d,f,g,i,y,z,A,A5 B,r2.Ac];try rfl
 rw[Ad B];by_cases C:q.k=9;.rw[Af C];dsimp only;obtain⟨h',o',r2,w',x'⟩:=aCQ w sz.rm q.name;refine⟨h',o',c,t,G,?_,w',by have e:(b.Dq q.name).AZ=b.AZ:=(by unfold BS.Dq;split;split<;>rfl;rfl);rw[e];exact hc,x'⟩;rw[Ag,Fk,t22];simp only[abS,↓reduceIte,Br,d,f,g,i,y,z,A,B,A5 C,r2.Ac];try rfl
 rw[Ad C];by_cases JY:q.k=10;.rw[Af JY];dsimp only;obtain⟨h',o',c',G',r2,w',Ns,x'⟩:=aHe (m:=5000000*j) w hc ok (sz.rm.le (by have:=sz.AK;omega)) q.name;refine⟨h',o',c',t,G',?_,w',Ns,x'⟩;rw[Ag,Fk,t22];simp only[abS,↓reduceIte,Br,d,f,g,i,y,z,A,B,C,A5 JY,r2.Ac];try rfl
 rw[Ad JY];by_cases Mz:q.k=11;.rw[Af Mz];dsimp only;obtain⟨h',r2,w',x'⟩:=ug w sz.rm;refine⟨h',o,c,t,G,?_,w',hc,x'⟩;rw[Ag,Fk,t22];simp only[abS,↓reduceIte,Br,d,f,g,i,y,z,A,B,C,JY,A5 Mz,r2.Ac];try rfl
 rw[Ad Mz];by_cases Nl:q.k=12;.rw[Af Nl];dsimp only;obtain⟨r,eB,D,hr,Gm⟩:=dz (q:=q) hv hq.Au.1 h;rw[SH] at D;obtain⟨h',G',r2,w',x'⟩:=aGS (m:=5000000*j) w ok sz.pU hr Gm hq.Au q.a;refine⟨h',o,c,t,G',?_,w',by have e:(b.GR q.Au q.a).AZ=b.AZ:=(by unfold BS.GR;split<;>rfl);rw[e];exact hc,x'⟩;rw[Ag,Fk,t22];simp only[abS,↓reduceIte,Br,d,f,g,i,y,z,A,B,C,JY,Mz,A5 Nl,D.Ac,r2.Ac];try rfl
 rw[Ad Nl];by_cases Qd:q.k=13;.rw[Af Qd];dsimp only;obtain⟨h',o',c',t',r2,w',Ns,x'⟩:=aGT w hc sz.rm;refine⟨h',o',c',t',G,?_,w',Ns,x'⟩;rw[Ag,Fk,t22];simp only[abS,↓reduceIte,Br,d,f,g,i,y,z,A,B,C,JY,Mz,Nl,A5 Qd,r2.Ac];try rfl
 rw[Ad Qd];by_cases QH:q.k=14;.rw[Af QH];dsimp only;obtain⟨h',r2,w',x'⟩:=aGW w;refine⟨h',o,c,t,G,?_,w',hc,x'⟩;rw[Ag,Fk,t22];simp only[abS,↓reduceIte,Br,d,f,g,i,y,z,A,B,C,JY,Mz,Nl,Qd,A5 QH,r2.Ac];try rfl
 rw[Ad QH];by_cases TL:q.k=15;.rw[Af TL];dsimp only;have w':BX (put h bi 15 (.bool q.b)) bi a o c t G {b with FT:=q.b}:=w.put rfl rfl w.o w.t;refine⟨put h bi 15 (.bool q.b),o,c,t,G,?_,w',hc,BL⟩;rw[Ag,Fk,t22];simp only[abS,↓reduceIte,Br,d,f,g,i,y,z,A,B,C,JY,Mz,Nl,Qd,QH,A5 TL,w.st (k:=15) (v:= .bool q.b) rfl rfl];try rfl
 rw[Ad TL];by_cases Vd:q.k=16;.rw[Af Vd];dsimp only;have L:=sz.rm.tm;have xi:AO=140737488355328:=rfl;obtain⟨u,N,hu⟩:=Bv.Q6 (b:=8) w.t Ab;have M:=Bv.Zw (b:=8) (a:=q.n) hu Ab;have em:Az (.Ch 1) [I q.n]=some (.sl 1 [DN q.n]):=rfl;have Qz:GI (b.tm++[q.n]) (.sl 1 ((b.tm++[q.n]).map DN)):= .mk;have w':=w.ui Qz;refine⟨put h bi 6 (.sl 1 ((b.tm++[q.n]).map DN)),o,c,_,G,?_,w',hc,BL⟩;rw[Ag,Fk,t22];simp only[abS,↓reduceIte,Br,d,f,g,i,y,z,A,B,C,JY,Mz,Nl,Qd,QH,TL,A5 Vd,w.l6,N,em,M,w.st (k:=6) (v0:=t) rfl (Bv.cells Qz)];try rfl
 rw[Ad Vd];by_cases XK:q.k=17;.rw[Af XK];dsimp only;have X7:=sz.rm.AZ;obtain⟨fs,Jy,Qi⟩:=hc;obtain⟨u,r2,hu⟩:=f63 (h:=h) (id:=bi) (o:=3) (l:=fs) ⟨c,w.pO,Qi⟩ (by rw[<-Jy,Av] at X7;omega);have w':=w.Qm (u:=u) (l:=b.AZ++[Co.zero]);have Ns:Di (b.AZ++[Co.zero]) u:=⟨_,by rw[BU,Jy];rfl,hu⟩;refine⟨put h bi 3 u,o,u,t,G,?_,w',Ns,BL⟩;rw[Ag,Fk,t22];simp only[abS,↓reduceIte,Br,d,f,g,i,y,z,A,B,C,JY,Mz,Nl,Qd,QH,TL,Vd,A5 XK,r2.Ac];try rfl
 rw[Ad XK];by_cases YB:q.k=18;.rw[Af YB];dsimp only;obtain⟨h',o',r2,w',x'⟩:=aCS w sz.rm;have K:=aHg b.cj h';refine⟨h',o',c,t,G,?_,w',by have e:b.KI.AZ=b.AZ:=(by unfold BS.KI;split<;>rfl);rw[e];exact hc,x'⟩;rw[Ag,Fk,t22];simp only[abS,↓reduceIte,Br,Jr,d,f,g,i,y,z,A,B,C,JY,Mz,Nl,Qd,QH,TL,Vd,XK,A5 YB,r2.Ac,K.Ac];try rfl
 rw[Ad YB];by_cases eC:q.k=19;.rw[Af eC];dsimp only;have w':BX (put h bi 7 (I q.a)) bi a o c t G {b with head:=q.a}:=w.put rfl rfl w.o w.t;refine⟨put h bi 7 (I q.a),o,c,t,G,?_,w',hc,BL⟩;rw[Ag,Fk,t22];simp only[abS,↓reduceIte,Br,d,f,g,i,y,z,A,B,C,JY,Mz,Nl,Qd,QH,TL,Vd,XK,YB,A5 eC,w.st (k:=7) (v:= I q.a) rfl rfl];try rfl
 rw[Ad eC];by_cases kG:q.k=20;.rw[Af kG];dsimp only;have w':=w.aCR q.n;refine⟨put h bi 4 (I q.n),o,c,t,G,?_,w',hc,BL⟩;rw[Ag,Fk,t22];simp only[abS,↓reduceIte,Br,d,f,g,i,y,z,A,B,C,JY,Mz,Nl,Qd,QH,TL,Vd,XK,YB,eC,A5 kG,w.st (k:=4) (v:= I q.n) rfl rfl];try rfl
 rw[Ad kG];by_cases uq:q.k=21;.rw[Af uq];dsimp only;have X7:=sz.rm.AZ;obtain⟨fs,Jy,Qi⟩:=hc;obtain⟨u,r2,hu⟩:=f65 (h:=h) (id:=bi) (o:=3) (l:=fs) ⟨c,w.pO,Qi⟩ (by rw[<-Jy,Av] at X7;omega);have w':=w.Qm (u:=u) (l:=Fx b.AZ);have Ns:Di (Fx b.AZ) u:=⟨_,by rw[dR,Jy],hu⟩;refine⟨put h bi 3 u,o,u,t,G,?_,w',Ns,BL⟩;rw[Ag,Fk,t22];simp only[abS,↓reduceIte,Br,d,f,g,i,y,z,A,B,C,JY,Mz,Nl,Qd,QH,TL,Vd,XK,YB,eC,kG,A5 uq,r2.Ac];try rfl
 rw[Ad uq];by_cases E:q.k=22;.rw[Af E];dsimp only;have ho:=sz.rm.AK;have em:Az (.Ch 1) [.str q.name]=some (.sl 1 ([q.name].map Ca)):=El (ws:=[q.name]) rfl Ax;obtain⟨u,r2,hu⟩:=f66 w.sO Ab (CP (ws:=[q.name])) Ax;have w':=w.MU hu;refine⟨put h bi 2 u,u,c,t,G,?_,w',hc,BL⟩;rw[Ag,Fk,t22];simp only[abS,↓reduceIte,Br,d,f,g,i,y,z,A,B,C,JY,Mz,Nl,Qd,QH,TL,Vd,XK,YB,eC,kG,uq,A5 E,em,r2.Ac];try rfl
 rw[Ad E];by_cases H:q.k=23;.rw[Af H];dsimp only;have w':BX (put h bi 8 (I q.a)) bi a o c t G {b with HP:=q.a}:=w.put rfl rfl w.o w.t;refine⟨put h bi 8 (I q.a),o,c,t,G,?_,w',hc,BL⟩;rw[Ag,Fk,t22];simp only[abS,↓reduceIte,Br,d,f,g,i,y,z,A,B,C,JY,Mz,Nl,Qd,QH,TL,Vd,XK,YB,eC,kG,uq,E,A5 H,w.st (k:=8) (v:= I q.a) rfl rfl];try rfl
 rw[Ad H];by_cases J:q.k=24;.rw[Af J];dsimp only;obtain⟨r,eB,D,hr,Gm⟩:=dz (q:=q) hv hq.Au.1 h;rw[SH] at D;obtain⟨h',G',r2,w',x'⟩:=tw (m:=5000000*j) w ok sz.pU hr Gm hq.Au hq.name q.a q.A6;have K:=aHg (b.JG q.name q.Au q.A6) h';refine⟨h',o,c,t,G',?_,w',by have e:(b.FY q.name q.Au q.A6 q.a).AZ=b.AZ:=(by unfold BS.FY;split<;>rfl);rw[e];exact hc,x'⟩;rw[Ag,Fk,t22];simp only[abS,↓reduceIte,Br,Jr,d,f,g,i,y,z,A,B,C,JY,Mz,Nl,Qd,QH,TL,Vd,XK,YB,eC,kG,uq,E,H,A5 J,D.Ac,r2.Ac,K.Ac];try rfl
 rw[Ad J];refine⟨h,o,c,t,G,?_,w,hc,.refl⟩;rw[Ag,Fk,t22];simp only[abS,↓reduceIte,Br,d,f,g,i,y,z,A,B,C,JY,Mz,Nl,Qd,QH,TL,Vd,XK,YB,eC,kG,uq,E,H,J];try rfl
end
def TM:∀l:List Int,(l.map DN).flatten=l.map (Aa.int .i64)
 |[]=>rfl
 |x::l=>by simp[DN,TM l]
def Ł(q:Bool):Ar:={n:=[{kind:=1,CK:=1,CS:=q}],i:=[0]}
def F6(q:Bool):BS:={a:=Ł q,CK:=1,AK:=[],AZ:=[],mode:=1,OE:=0,tm:=[],head:=0,HP:=0,Po:=false,ctx:=Item.zero,fs:=true,FT:=false,b_:=[],skip:=false,sw:=0,stop:=false}
def KP(sp:Int)(nm:Ah)(l:List A3)(q:Bool):BS:=
 {(F6 q).FY Gb [] 1 1 with a:=((F6 q).FY Gb [] 1 1).a.If ((F6 q).JG Gb [] 1).node 1 0,AK:=((F6 q).FY Gb [] 1 1).AK++[(F6 q).JG Gb [] 1],Po:=true,ctx:=⟨0,sp,nm,Iv sp nm l⟩}
def QI(sp:Int)(nm:Ah)(l:List A3)(q:Bool):BS:=if Be [Bc] (KP sp nm l q).ctx then{KP sp nm l q with tm:=[18]} else KP sp nm l q
def kH(sp:Int)(nm:Ah)(l:List A3)(q f:Bool):BS:=if f then{(QI sp nm l q).IQ with HP:= -1} else(QI sp nm l q).IQ
structure Gc where
 Po:Bool
 A6:Int
 name:Ah
 Au:List A3
 CS:Bool
 HP:Bool
def Gc.b(s:Gc):BS:=if s.Po then kH s.A6 s.name s.Au s.CS s.HP else F6 s.CS
def Nn(s:Gc)(av:Aa):List Aa:=[.bool s.Po,I s.A6,.str s.name,av,.bool s.CS,.bool s.HP]
def aC4(q:Bool):EZ (Ł q) 0:=by
 have h0:EZ (⟨[],[]⟩:Ar) 0:=by
  have hn:∀h,¬(⟨[],[]⟩:Ar).has h:=λh d=>by have h1:=d.1;have h2:=d.2;simp at h2;omega
  exact⟨rfl,λh d=>absurd d (hn h),λh d=>absurd d (hn h),λh d=>absurd d (hn h),λh d=>absurd d (hn h),λh d=>absurd d (hn h),λh d=>absurd d (hn h),λh d=>absurd d (hn h),λh d=>absurd d (hn h),λh d=>absurd d (hn h),⟨λ_=>0,λh d=>absurd d (hn h)⟩⟩
 have hx:sY {kind:=1,CK:=1,CS:=q}:=by constructor<;>simp[C8,Gw]
 exact Rc h0 hx (.inl ⟨rfl,rfl⟩) rfl rfl rfl rfl (λh=>absurd h.1 (AM:¬(1:Int)=4))
def SI(q:Bool):EI (F6 q):=by refine⟨aC4 q,⟨⟨Lh 1,Lh 1⟩,rfl⟩,λi hi=>(nomatch hi),JQ,λe he=>(nomatch he),JQ⟩
def eD{q:Bool}(x:Int):(F6 q).a.nd x=if x=1 then{kind:=1,CK:=1,CS:=q} else{}:=by
 unfold Ar.nd;by_cases h:x=1;.subst h;rfl
 .rw[Ad h,Ad];intro d;have h1:=d.1;have h2:=d.2;simp[F6,Ł] at h2;omega
def Qe(q:Bool):Sz (F6 q) 101:=by
 refine⟨⟨by simp[F6,Ł],λx=>?_,λx=>?_,by simp[F6],by simp[F6],by simp[F6],λe he=>(nomatch he),λi hi=>(nomatch hi)⟩,by simp[F6],by simp[F6]⟩;.rw[eD];split<;>simp
 .rw[eD];split<;>simp
section
variable{h h':Ai}{bi a:Nat}{o c t:Aa}{G G' F:Nat->Prop}{b:BS}{x:Int}{m j:Nat}{q:dw}
variable{nm:Ah}{av:Aa}{l:List A3}{r:List Aa}{sp p:Int}
def aLN(h:Ai)(q:Bool):∃h1 h',B9 cx 48 [] h (Pt h.length 0) h1/\B9 cx 49 [Pt h.length 0,.bool q] h1 (I 1) h'/\PA h' h.length (h.length+1) none [⟨{kind:=1,CK:=1,CS:=q},.slnil,.slnil,rfl⟩] (Ł q)/\h'=h++[.cells [.C3 (h.length+1) 0 1 13,.map none],.cells [I 1,I 0,.slnil,I 1,I 0,S [],.slnil,S [],S [],S [],.bool q,I 0,I 0]]:=by
 have xi:AO=140737488355328:=rfl;have g1:∀u:Ai,GP u 13 168 .slnil (.sl 13 [[I 1,I 0,.slnil,I 0,I 0,S [],.slnil,S [],S [],S [],.bool q,I 0,I 0]])=some (u++[.cells [I 1,I 0,.slnil,I 0,I 0,S [],.slnil,S [],S [],S [],.bool q,I 0,I 0]],.C3 u.length 0 1 13):=λu=>rfl;obtain⟨d,e⟩:∃d,d=h++[ED.cells [.slnil,.map none]]:=⟨_,rfl⟩;have A:d[h.length]?=some (.cells [.slnil,.map none]):=by rw[e];simp
 have fA:d.length=h.length+1:=by rw[e];simp
 have g2:=g1 d;rw[fA] at g2;have B:At d h.length 0 .slnil:=⟨_,A,rfl⟩;have w:(d++[ED.cells [I 1,I 0,.slnil,I 0,I 0,S [],.slnil,S [],S [],S [],.bool q,I 0,I 0]])[h.length]?=some (.cells [.slnil,.map none]):=(An Ab).trans A;have J:(d++[ED.cells [I 1,I 0,.slnil,I 0,I 0,S [],.slnil,S [],S [],S [],.bool q,I 0,I 0]])[h.length+1]?=some (.cells [I 1,I 0,.slnil,I 0,I 0,S [],.slnil,S [],S [],S [],.bool q,I 0,I 0]):=by rw[<-fA];simp
 have lS:(d++[ED.cells [I 1,I 0,.slnil,I 0,I 0,S [],.slnil,S [],S [],S [],.bool q,I 0,I 0]]).length=h.length+2:=by rw[Aq,fA];rfl
 have s:d++[ED.cells [I 1,I 0,.slnil,I 0,I 0,S [],.slnil,S [],S [],S [],.bool q,I 0,I 0]]=h++[.cells [.slnil,.map none],.cells [I 1,I 0,.slnil,I 0,I 0,S [],.slnil,S [],S [],S [],.bool q,I 0,I 0]]:=by rw[e,AS];rfl
 generalize d++[ED.cells [I 1,I 0,.slnil,I 0,I 0,S [],.slnil,S [],S [],S [],.bool q,I 0,I 0]]=g at*;have t2:At g h.length 0 .slnil:=⟨_,w,rfl⟩;have D:=t2.store (u:= .C3 (h.length+1) 0 1 13) rfl;have z:=Jn (k:=0) (v:= .C3 (h.length+1) 0 1 13) w;have n:(put g h.length 0 (.C3 (h.length+1) 0 1 13))[h.length+1]?=_:=(CV Ab).trans J;have M:put g h.length 0 (.C3 (h.length+1) 0 1 13)=h++[.cells [.C3 (h.length+1) 0 1 13,.map none],.cells [I 1,I 0,.slnil,I 0,I 0,S [],.slnil,S [],S [],S [],.bool q,I 0,I 0]]:=by rw[IF w,s,B5 _ _ (Ae _),Dy];rfl
 generalize put g h.length 0 (.C3 (h.length+1) 0 1 13)=f at*;have l3:Bj f none (Pt h.length 0)=some (.C3 (h.length+1) 0 1 13):=At.load ⟨_,z,rfl⟩;have L:Az (.FA 13) [.C3 (h.length+1) 0 1 13,I 0]=some (.ptr (some (h.length+1,0))):=Fe (k:= .i64) (i:=0) AM;have t3:At f (h.length+1) 3 (I 0):=⟨_,n,rfl⟩;have C:=t3.store (u:=I 1) rfl;have N:(put f (h.length+1) 3 (I 1))[h.length]?=_:=(CV Ab).trans z;have H:=Jn (k:=3) (v:=I 1) n;have K:put f (h.length+1) 3 (I 1)=h++[.cells [.C3 (h.length+1) 0 1 13,.map none],.cells [I 1,I 0,.slnil,I 1,I 0,S [],.slnil,S [],S [],S [],.bool q,I 0,I 0]]:=by rw[IF n,M,B5 _ _ Ab,S1];rfl
 refine⟨d,put f (h.length+1) 3 (I 1),?_,?_,⟨rfl,rfl,N,H,?_,?_,.inl ⟨rfl,λk=>?_⟩⟩,K⟩;.rw[Ag,py,t48];simp only[abS,↓reduceIte,Br,e]
 .have E:B9 cx 143 [Pt h.length 0,.agg [I 1,I 0,.slnil,I 0,I 0,S [],.slnil,S [],S [],S [],.bool q,I 0,I 0]] d (I 1) f:=by rw[Ag,cQ,Z_];simp only[Cf,Nat.reduceLeDiff,↓reduceIte,Br,bK,B.load,show Az (.Ch 13) [.agg [I 1,I 0,.slnil,I 0,I 0,S [],.slnil,S [],S [],S [],.bool q,I 0,I 0]]=some (.sl 13 [[I 1,I 0,.slnil,I 0,I 0,S [],.slnil,S [],S [],S [],.bool q,I 0,I 0]]) from rfl,g2,D,l3,show Az (.len false) [.C3 (h.length+1) 0 1 13]=some (I 1) from rfl]
  have r2:B9 cx 144 [Pt h.length 0,I 1] f (.ptr (some (h.length+1,0))) f:=by rw[Ag,cR,À];simp only[Cf,bK,l3,show Az (.int .sub) [I 1,I 1]=some (I 0) from rfl,L]
  rw[Ag,oX,t49];simp only[abS,Nat.reduceLeDiff,↓reduceIte,Br,E.Ac,r2.Ac,C]
 .intro p hp;rw[Bd] at hp;subst hp;exact .inl ⟨rfl,rfl⟩
 .simp[Fu,Hp]
 .unfold Ar.inr;split;.rename_i y;have h1:=y.1;have h2:=y.2;simp[Ł] at h2;have:k=1:=Ab;subst this;rfl
  .rfl
def aHi(h:Ai)(q:Bool):∃h1 h2 h' bi G,B9 cx 48 [] h (Pt h.length 0) h1/\B9 cx 49 [Pt h.length 0,.bool q] h1 (I 1) h2/\B9 cx 51 [Pt h.length 0,I 1] h2 (Pt bi 0) h'/\BX h' bi h.length .slnil .slnil .slnil G (F6 q)/\Ew h (λ_=>False) h' (BK bi G):=by
 obtain⟨h1,h2,k,r2,d,g⟩:=aLN h q;obtain⟨r,t,f,K,V,rfl,s,n,_⟩:=aCG (x:=1) d ((Qe q).rm.UZ) ((Qe q).rm.UZ.Bw (SI q).ok 1);have hx:(Ł q).has 1:=⟨Lh 1,Lh 1⟩;have e:(Ł q).nd 1={kind:=1,CK:=1,CS:=q}:=(eD (q:=q) 1).trans (Af rfl);rw[Af hx,e] at f;have wt:PA (h2++t) _ _ _ _ _:=d.DQ λi hi=>An (d.lt i hi);refine⟨h1,h2,h2++t++[.cells (Pw h.length (F6 q) .slnil .slnil .slnil)],(h2++t).length,λi=>i∈Fu h.length (h.length+1) none [⟨{kind:=1,CK:=1,CS:=q},.slnil,.slnil,rfl⟩],k,r2,?_,⟨Ax,.inr ⟨rfl,rfl⟩,.inr ⟨rfl,rfl⟩,?_,?_⟩,?_⟩;.rw[Ag,pz,t51];simp only[abS,Nat.reduceLeDiff,↓reduceIte,Br,f.Ac,aaS];exact⟨λh=>absurd rfl h,λ_=>⟨λh=>absurd rfl h,λ_=>rfl⟩⟩
 .exact⟨_,_,_,wt.DQ λi hi=>An (wt.lt i hi),λi=>Iff.rfl⟩
 .intro hm;exact absurd (wt.lt _ hm) (Dc _)
 .have Ee:h.length<=h2.length:=by rw[g];simp
  refine⟨Ei,λi hi _=>?_,λi hi=> .inr ?_⟩;.rw[AS,An Ab,g,An hi]
  .rcases hi with rfl|hi
   .simp;omega
   .simp[Fu,Hp] at hi;omega
def ur(sp:Int)(nm:Ah)(l:List A3)(q:Bool):EI (KP sp nm l q)/\Sz (KP sp nm l q) 100:=by
 refine⟨?_,?_⟩
 .obtain⟨ZJ,f,w⟩:=So (nm:=Gb) (at_:=[]) (p:=1) (SI q) Mg;have u:=ZJ.I8 (P7 (n:=((F6 q).JG Gb [] 1).node) (p:=1) (b:=0) ZJ.ok) JI;have g:Le ((F6 q).FY Gb [] 1 1).a (((F6 q).FY Gb [] 1 1).a.If ((F6 q).JG Gb [] 1).node 1 0):=JI;have ho:((F6 q).FY Gb [] 1 1).AK=[]:=by unfold BS.FY;rw[Af Mg];rfl
  have s:=u.I_ (i:=(F6 q).JG Gb [] 1) (k:=0) ⟨g.has _ f.has,by rw[g.kind _ f.has];exact f.kind,by rw[g.A6 _ f.has];exact f.A6,by rw[g.name _ f.has];exact f.name⟩ (by simp only[ho];simp);exact s.of_eq rfl rfl (by unfold KP;simp only[ho];rfl) rfl
 .have sz:=Qe q;have e:((F6 q).FY Gb [] 1 1).AK=[]/\((F6 q).FY Gb [] 1 1).AZ=[]:=by unfold BS.FY;rw[Af Mg];exact⟨rfl,rfl⟩
  have v:=Lr (m:=5000000*100+1) (nm:=Gb) (l:=[]) (sp:=1) (p:=1) (sz.rm.le Ab) ⟨AM,λa ha=>(nomatch ha)⟩;have r2:=v.I8 (LB (x:=((F6 q).JG Gb [] 1).node) (p:=1) (bf:=0));have d:=r2.ov (i:=(F6 q).JG Gb [] 1) (l':=((F6 q).FY Gb [] 1 1).AK++[(F6 q).JG Gb [] 1]) Ax (λj hj=>by simpa using hj) (Pq AM);exact⟨⟨d.n,d.at_,d.data,d.AK,d.AZ,d.tm,d.C7,d.cB⟩,by unfold KP;simp only[e.1];show 1+1200*100<=125000;decide,by unfold KP;simp only[e.2];decide⟩
def kI(sp:Int)(nm:Ah)(l:List A3)(q:Bool):EI (QI sp nm l q)/\Sz (QI sp nm l q) 100:=by
 obtain⟨e,d⟩:=ur sp nm l q;unfold QI;split;.have r:=d.rm;exact⟨e.of_eq rfl rfl rfl rfl,⟨⟨r.n,r.at_,r.data,r.AK,r.AZ,Ax,r.C7,r.cB⟩,d.AK,d.AZ⟩⟩
 .exact⟨e,d⟩
def ð(sp:Int)(nm:Ah)(l:List A3)(q f:Bool):EI (kH sp nm l q f)/\Sz (kH sp nm l q f) 100:=by
 obtain⟨Ĩ,d⟩:=kI sp nm l q;have e:Cx (QI sp nm l q).IQ (5000000*100):=d.rm.mode;unfold kH;split;.exact⟨(Sr Ĩ).of_eq rfl rfl rfl rfl,⟨⟨e.n,e.at_,e.data,e.AK,e.AZ,e.tm,e.C7,e.cB⟩,d.AK,d.AZ⟩⟩
 .exact⟨Sr Ĩ,⟨e,d.AK,d.AZ⟩⟩
def BX.aHj(w:BX h bi a o c t G b)(i:Item):∃h',CL h 4 (Pt bi 10) (.agg i.row)=some h'/\BX h' bi a o c t G {b with ctx:=i}/\Ew h (BK bi G) h' (BK bi G):=by refine⟨h.set bi (.cells (Pw a {b with ctx:=i} o c t)),?_,⟨AE w.lt,w.o,w.t,w.w.DQ λj hj=>Ao λe=>w.nb (by rw[e];exact hj),w.nb⟩,⟨by rw[BV];exact Ae _,λj _ hn=>Ao λe=>hn (.inl e.symm),λ_ h=> .inl h⟩⟩;simp only[CL,w.hb];rfl
def aLP(h:Ai)(sp:Int)(nm:Ah)(hv:Bb l av)(hl:Eb l)(q f q':Bool):∃h1 h2 h' bi o t G,B9 cx 48 [] h (Pt h.length 0) h1/\B9 cx 49 [Pt h.length 0,.bool q] h1 (I 1) h2/\B9 cx 50 [Pt h.length 0,I 1,.agg [I sp,.str nm,av,.bool q',.bool f]] h2 (Pt bi 0) h'/\BX h' bi h.length o .slnil t G (kH sp nm l q f)/\Ew h (λ_=>False) h' (BK bi G):=by
 obtain⟨h1,h2,h3,bi,G,N,r2,M,w,x⟩:=aHi h q;have hr:Xy Gb .slnil [I 2,.str Gb,ff,S [],ff,S [],ff,ff,.slnil,ff,S [],.int .i32 0]:=⟨I 2,ff,S [],ff,S [],ff,ff,ff,S [],.int .i32 0,rfl⟩;obtain⟨h4,G4,L,w4,Y⟩:=tw (m:=1000) w (SI q) ((Qe q).rm.le Ab) hr (l:=[]) (.inr ⟨rfl,rfl⟩) ⟨AM,λa ha=>(nomatch ha)⟩ AM 1 1;obtain⟨Ĩ,f4,le4⟩:=So (nm:=Gb) (at_:=[]) (p:=1) (SI q) Mg;have R:=Lr (m:=1000) (nm:=Gb) (l:=[]) (sp:=1) (p:=1) ((Qe q).rm.le Ab) ⟨AM,λa ha=>(nomatch ha)⟩;obtain⟨A,e,K,U,X⟩:=jV (x:=((F6 q).JG Gb [] 1).node) (p:=1) (bf:=0) w4 Ĩ R;have ho:((F6 q).FY Gb [] 1 1).AK=[]:=by unfold BS.FY;rw[Af Mg];rfl
 obtain⟨d,J,B⟩:=f95 U.sO (by simp only[ho];decide) ((F6 q).JG Gb [] 1);have P:=U.MU B;have w7:BX (put (put A bi 2 d) bi 9 tt) bi h.length d .slnil .slnil e _:=P.put (k:=9) (v:=tt) (b':={{{(F6 q).FY Gb [] 1 1 with a:=((F6 q).FY Gb [] 1 1).a.If ((F6 q).JG Gb [] 1).node 1 0} with AK:=((F6 q).FY Gb [] 1 1).AK++[(F6 q).JG Gb [] 1]} with Po:=true}) rfl rfl B P.t;have E:CL (put A bi 2 d) 1 (Pt bi 9) tt=some (put (put A bi 2 d) bi 9 tt):=P.st (k:=9) (v:=tt) (v0:= .bool ((F6 q).FY Gb [] 1 1).Po) rfl rfl;have H:B9 cx 146 [I sp,.str nm,av] (put (put A bi 2 d) bi 9 tt) (.bool (Iv sp nm l)) (put (put A bi 2 d) bi 9 tt):=f96 hv (λa ha=>by have:=(hl.2 a ha).2;have:AO=140737488355328:=rfl;omega) (by have:=hl.1;omega) sp nm _;obtain⟨u,s8,T,W⟩:=w7.aHj ⟨0,sp,nm,Iv sp nm l⟩;have g:BX u bi h.length d .slnil .slnil e (KP sp nm l q):=T;have O:Ew h (λ_=>False) u (BK bi e):=((((x.trans Y).trans X).trans BL).trans BL).trans W;clear T;have n:=g.aGQ;have aRO:(KP sp nm l q).ctx=⟨0,sp,nm,Iv sp nm l⟩:=rfl;obtain⟨aRP,Q⟩:=kI sp nm l q;have z:=pP (ws:=[Bc]) CP AM (KP sp nm l q).ctx u;have key:∃C t9,BX C bi h.length d .slnil t9 e (QI sp nm l q)/\Ew u (BK bi e) C (BK bi e)/\(Be [Bc] (KP sp nm l q).ctx=true->CL u 1 (Pt bi 6) (.sl 1 [[I 18]])=some C)/\(Be [Bc] (KP sp nm l q).ctx=false->C=u):=by
  by_cases s:Be [Bc] (KP sp nm l q).ctx=true;.have hu:GI [18] (.sl 1 [[I 18]]):= .mk;refine⟨put u bi 6 (.sl 1 [[I 18]]),.sl 1 [[I 18]],?_,BL,λ_=>g.st (k:=6) (v0:= .slnil) rfl rfl,λh=>absurd s (by rw[h];decide)⟩;unfold QI;rw[Af s];exact g.ui hu
  .refine⟨u,.slnil,?_,.refl,λh=>absurd h s,λ_=>rfl⟩;unfold QI;rw[Ad s];exact g
 obtain⟨C,t9,Z,V,k1,k2⟩:=key;obtain⟨ZH,xq,fE,ŀ⟩:=ug Z Q.rm;have em:Az (.Ch 1) [I 18]=some (.sl 1 [[I 18]]):=rfl;have D:Ew h (λ_=>False) ZH (BK bi e):=(O.trans V).trans ŀ;have hir:((F6 q).JG Gb [] 1).row=[I ((F6 q).JG Gb [] 1).node,I ((F6 q).JG Gb [] 1).A6,.str ((F6 q).JG Gb [] 1).name,.bool ((F6 q).JG Gb [] 1).Ot]:=rfl;generalize(F6 q).JG Gb [] 1=it at*;have i:CL (put (put A bi 2 d) bi 9 tt) 4 (Pt bi 10) (.agg [I 0,I sp,.str nm,.bool (Iv sp nm l)])=some u:=s8;have y:Az (.Ch 1) [S aTz]=some (.sl 1 ([Bc].map Ca)):=yD;cases s:Be [Bc] (KP sp nm l q).ctx with
 |true=>
  rw[s] at z;have uv:=k1 s;cases f with
  |true=>
   refine⟨h1,h2,put ZH bi 8 (I (-1)),bi,d,t9,e,N,r2,?_,?_,D.trans BL⟩;.rw[Ag,cD,t50];simp only[abS,Nat.reduceLeDiff,↓reduceIte,Br,Jr,M.Ac,L.Ac,K.Ac,J.Ac,E,H.Ac,i,n,y,z.Ac,em,uv,xq.Ac,fE.st (k:=8) (v:=I (-1)) rfl rfl]
   .unfold kH;rw[Af rfl];exact fE.put rfl rfl fE.o fE.t
  |false=>refine⟨h1,h2,ZH,bi,d,t9,e,N,r2,?_,fE,D⟩;rw[Ag,cD,t50];simp only[abS,Nat.reduceLeDiff,↓reduceIte,Br,Jr,M.Ac,L.Ac,K.Ac,J.Ac,E,H.Ac,i,n,y,z.Ac,em,uv,xq.Ac]
 |false=>
  rw[s] at z;have ł:=k2 s;subst ł;cases f with
  |true=>
   refine⟨h1,h2,put ZH bi 8 (I (-1)),bi,d,t9,e,N,r2,?_,?_,D.trans BL⟩;.rw[Ag,cD,t50];simp only[abS,Nat.reduceLeDiff,↓reduceIte,Br,Jr,M.Ac,L.Ac,K.Ac,J.Ac,E,H.Ac,i,n,y,z.Ac,em,xq.Ac,fE.st (k:=8) (v:=I (-1)) rfl rfl]
   .unfold kH;rw[Af rfl];exact fE.put rfl rfl fE.o fE.t
  |false=>refine⟨h1,h2,ZH,bi,d,t9,e,N,r2,?_,fE,D⟩;rw[Ag,cD,t50];simp only[abS,Nat.reduceLeDiff,↓reduceIte,Br,Jr,M.Ac,L.Ac,K.Ac,J.Ac,E,H.Ac,i,n,y,z.Ac,em,xq.Ac]
def aLQ(h:Ai)(s:Gc)(hv:Bb s.Au av)(hl:Eb s.Au):∃h' bi a o c t G,B9 cx 21 [.agg (Nn s av)] h (Pt bi 0) h'/\BX h' bi a o c t G s.b/\Di s.b.AZ c/\Ew h (λ_=>False) h' (BK bi G):=by
 have mh:(KP s.A6 s.name s.Au s.CS).AZ=[]:=by unfold KP;simp only;unfold BS.FY;rw[Af Mg];rfl
 cases hf:s.Po with
 |true=>
  obtain⟨h1,h2,h',bi,o,t,G,f,r2,d,w,x⟩:=aLP h s.A6 s.name hv hl s.CS s.HP s.CS;refine⟨h',bi,h.length,o,.slnil,t,G,?_,by unfold Gc.b;rw[Af hf];exact w,?_,x⟩;.rw[Ag,pd,t21,Nn,hf];simp only[Cf,f.Ac,r2.Ac,d.Ac]
  .have e:s.b.AZ=[]:=by unfold Gc.b kH QI;rw[Af hf];split<;>split<;>exact mh
   rw[e];exact⟨[],rfl,.inr ⟨rfl,rfl⟩⟩
 |false=>
  obtain⟨h1,h2,h',bi,G,f,r2,d,w,x⟩:=aHi h s.CS;have e:s.b=F6 s.CS:=by unfold Gc.b;rw[Ad (by rw[hf];decide)]
  refine⟨h',bi,h.length,.slnil,.slnil,.slnil,G,?_,by rw[e];exact w,by rw[e];exact⟨[],rfl,.inr ⟨rfl,rfl⟩⟩,x⟩;rw[Ag,pd,t21,Nn,hf];simp only[Cf,f.Ac,r2.Ac,d.Ac]
def Gc.ok(s:Gc):EI s.b/\Sz s.b 100:=by
 unfold Gc.b;split;.exact ð _ _ _ _ _
 .have h:=Qe s.CS;exact⟨SI _,⟨h.rm.le Ab,by have:=h.AK;omega,by have:=h.AZ;omega⟩⟩
end
def Ox(h:Ai)(lo:Nat)(v:Aa)(l:List Int):Prop:=(v= .slnil/\l=[])\/∃id,lo<=id/\v= .C3 id 0 l.length 1/\h[id]?=some (.cells (l.map (Aa.int .i64)))
def UA(h:Ai)(lo:Nat)(v:Aa)(l:List Co):Prop:=(v= .slnil/\l=[])\/∃id,∃fs:List C1,lo<=id/\v= .C3 id 0 fs.length 3/\h[id]?=some (.cells (fs.map C1.row).flatten)/\fs.map (·.c)=l
section
variable{h h':Ai}{lo lo':Nat}{v:Aa}
def Ox.cells{l:List Int}(hv:Ox h lo v l):v.cells=[v]:=by rcases hv with⟨rfl,_⟩|⟨id,_,rfl,_⟩<;>rfl
def UA.cells{l:List Co}(hv:UA h lo v l):v.cells=[v]:=by rcases hv with⟨rfl,_⟩|⟨id,fs,_,rfl,_⟩<;>rfl
def Ox.DQ{l:List Int}(hv:Ox h lo v l)(hf:∀i,lo<=i->i<h.length->h'[i]?=h[i]?):Ox h' lo v l:=by
 rcases hv with hv|⟨id,h1,h2,d⟩
 .exact .inl hv
 .exact .inr ⟨id,h1,h2,by rw[hf id h1 (Aj.1 d).1];exact d⟩
def UA.DQ{l:List Co}(hv:UA h lo v l)(hf:∀i,lo<=i->i<h.length->h'[i]?=h[i]?):UA h' lo v l:=by
 rcases hv with hv|⟨id,fs,h1,h2,d,e⟩
 .exact .inl hv
 .exact .inr ⟨id,fs,h1,h2,by rw[hf id h1 (Aj.1 d).1];exact d,e⟩
def Ox.Vb{l:List Int}(hv:Ox h lo v l):N4 h v l:=by
 rcases hv with⟨rfl,rfl⟩|⟨id,_,rfl,hc⟩
 .exact⟨rfl,λk hk=>by simp at hk⟩
 .refine⟨rfl,λk hlt=>⟨Pt id k,by have:=Fe (id:=id) (z:=1) (k:= .i64) hlt;rwa [FW] at this,?_⟩⟩;simp only[Bj,hc,Gr];simp[hlt]
def aHk{h u:Ai}{V:Aa}{L:List Int}(i:Ox (h++u) h.length V L)(hb:L.length<=1000000000)(x:Int):∃d g,GP (h++u) 1 8 V (.sl 1 [[I x]])=some (h++d,g)/\Ox (h++d) h.length g (L++[x]):=by
 have xi:AO=140737488355328:=rfl;rcases i with⟨rfl,rfl⟩|⟨id,HV,rfl,hc⟩
 .exact⟨u++[.cells [I x]],.C3 (h++u).length 0 1 1,by rw[<-AS];rfl,.inr ⟨(h++u).length,Ax,rfl,Ax⟩⟩
 .have hr:∀r∈L.map DN,r.length=1:=Pd (f:=DN) (λ_=>rfl) L;have Ns:(h++u)[id]?=some (.cells (L.map DN).flatten):=by rw[TM];exact hc
  have hg:=Q4 (b:=8) (Aw:=L.map DN) (r2:=[[I x]]) (v:= .sl 1 [[I x]]) hr AM Ns .mk Ax (by rw[Av];simp;omega);rw[Av] at hg;have e:(h++u).set id .DF++[ED.cells (L.map DN++[[I x]]).flatten]=h++(u.set (id-h.length) .DF++[.cells ((L++[x]).map (Aa.int .i64))]):=by rw[B5 _ _ HV,AS,Ko,TM,BU];rfl
  rw[e] at hg;have lS:(h++(u.set (id-h.length) ED.DF++[.cells ((L++[x]).map (Aa.int .i64))]))=(h++u.set (id-h.length) ED.DF)++[.cells ((L++[x]).map (Aa.int .i64))]:=by rw[AS]
  have sG:(h++u.set (id-h.length) ED.DF).length=(h++u).length:=Ax;refine⟨_,_,hg,.inr ⟨(h++u).length,Ax,Ax,?_⟩⟩;rw[lS,<-sG,BI (Ae _),Dy];rfl
end
structure SS where
 mode:Int
 OE:Int
 tm:List Int
 AK:List Int
 AZ:List Co
 head:Int
 HP:Int
 fs:Bool
 FT:Bool
 b_:Ah
 skip:Bool
 sw:Int
 stop:Bool
def BS.Z8(b:BS):SS:=⟨b.mode,b.OE,b.tm,b.AK.map Item.node,b.AZ,b.head,b.HP,b.fs,b.FT,b.b_,b.skip,b.sw,b.stop⟩
def XL(s:SS)(t o c:Aa):List Aa:=[I s.mode,I s.OE,t,o,c,I s.head,I s.HP,.bool s.fs,.bool s.FT,.str s.b_,.bool s.skip,I s.sw,.bool s.stop]
structure UB(h:Ai)(lo:Nat)(s:SS)(t o c:Aa):Prop where
 t:GI s.tm t
 o:Ox h lo o s.AK
 c:UA h lo c s.AZ
section
variable{h h':Ai}{bi a lo:Nat}{o c t:Aa}{G G' F:Nat->Prop}{b:BS}{x:Int}{m:Nat}
def UB.DQ{s:SS}(w:UB h lo s t o c)(hf:∀i,lo<=i->i<h.length->h'[i]?=h[i]?):UB h' lo s t o c:=⟨w.t,w.o.DQ hf,w.c.DQ hf⟩
def pW{h:Ai}{n:Nat}(hn:n<=1000000000):RB h 3 48 [I 0,S [],.slnil] (I (n:Int)) (I (n:Int))=some (h++[.cells (List.replicate n [I 0,S [],.slnil]).flatten],.C3 h.length 0 n 3):=by
 have hm:AO=140737488355328:=rfl;unfold RB;simp only
 rw[Af ⟨Ab,Ab,Ab,rfl⟩];rfl
def aLR(w:BX h bi a o c t G b)(hc:Di b.AZ c)(rm:Cx b m):∃t' o' c' u,B9 cx 34 [Pt bi 0] h (.agg (XL b.Z8 t' o' c')) (h++u)/\UB (h++u) h.length b.Z8 t' o' c':=by
 have xi:AO=140737488355328:=rfl;have ho:=rm.AK;have X7:=rm.AZ;have M:=rm.tm;obtain⟨t',e0,Ir⟩:=æ w.t Ab h;have B:t'.cells=[t']:=Bv.cells Ir;obtain⟨fs,Jy,hv⟩:=hc;have Io:b.AZ.length=fs.length:=by rw[<-Jy,Av]
 have s:=Bv.F0 w.o;have O5:Ev cx 34 [Pt bi 0] h λr h'=>∃t' o' c' u,r= .agg (XL b.Z8 t' o' c')/\h'=h++u/\UB (h++u) h.length b.Z8 t' o' c':=by
  unfold Ev;rw[aAF,t34];simp only[abS,Nat.reduceLeDiff,↓reduceIte,Br,(HT w).Ac,w.ld,Pw,e0.Ac,Dl,B,s];refine En (i:=0) (λz:Aa×Nat=>[.agg [I b.mode,I b.OE,t',z.1,.slnil,I b.head,I b.HP,.bool b.fs,.bool b.FT,.str b.b_,.bool b.skip,I b.sw,.bool b.stop],I (z.2:Int)]) (λz h1=>z.2<=b.AK.length/\∃u,h1=h++u/\Ox (h++u) h.length z.1 ((b.AK.take z.2).map Item.node)) (λz=>b.AK.length-z.2) (λz h1=>∃u,h1=h++u/\Ox (h++u) h.length z.1 (b.AK.map Item.node)) (.slnil,0) rfl ⟨A7 _,[],Ax,.inl ⟨rfl,Ax⟩⟩ ?_ ?_
  .rintro⟨V,n⟩ h1 ⟨hn,u,rfl,l⟩;simp only at hn l;have N:=l.cells;rcases Bi n b.AK.length with hlt|GX
   .have q:=Bv.Df (k:= .i64) w.o hlt;rw[Item.row] at q;obtain⟨E,U,g1,j⟩:=aHk l (by rw[Av,AB];omega) b.AK[n].node;have g:=j.cells;have em:Az (.Ch 1) [I b.AK[n].node]=some (.sl 1 [[I b.AK[n].node]]):=rfl;simp only[abS,Nat.reduceLeDiff,↓reduceIte,(Ab:(n:Int)<(b.AK.length:Int)),q,em,g1,g,CI (Ab:n<9223372036854775807)];exact .next (U,n+1) rfl ⟨hlt,E,rfl,by rw[AQ hlt,BU];exact j⟩ Gx
   .rw[A8 GX] at l;simp only[abS,↓reduceIte,(Ab:¬(n:Int)<(b.AK.length:Int))];exact .HM (V,n) rfl ⟨u,rfl,l⟩
  .rintro⟨O,W⟩ h1 ⟨u,rfl,p⟩;simp only at p;have P:=p.cells;have w1:=w.JX (u:=u);have A:=w1.l3;have lc:=Bv.F0 hv;simp only[abS,↓reduceIte,A,lc];refine mC (pW (h:=h++u) (n:=fs.length) Ab) ?_;obtain⟨d,f⟩:∃d,d=h++u:=⟨_,rfl⟩;rw[<-f] at p⊢;have T:(d++[ED.cells (List.replicate fs.length [I 0,S [],.slnil]).flatten])[d.length]?=some (.cells (List.replicate fs.length [I 0,S [],.slnil]).flatten):=Ax;have y:Bj (d++[ED.cells (List.replicate fs.length [I 0,S [],.slnil]).flatten]) none (Pt bi 3)=some c:=by rw[f];exact(w1.JX).l3
   have ë:(List.replicate fs.length [I 0,S [],Aa.slnil]).flatten.length=fs.length*3:=by rw[Gt (z:=3) (by intro r hr;rw[(List.mem_replicate.1 hr).2];rfl),Fs]
   have R:DS (.copy 3) (d++[ED.cells (List.replicate fs.length [I 0,S [],.slnil]).flatten]) [.C3 d.length 0 fs.length 3,c]=some (d++[ED.cells (fs.map C1.row).flatten],I (fs.length:Int)):=by
    have Q:Ha (d++[ED.cells (List.replicate fs.length [I 0,S [],.slnil]).flatten]) 3 c=some (fs.map C1.row):=by
     rcases hv with rfl|⟨rfl,h0⟩
     .simp[Ha]
     .rw[h0];rfl
    simp only[DS,qY,Q,T];rw[Af ⟨trivial,Ax,by rw[ë];omega⟩];have h1:(List.replicate fs.length [I 0,S [],Aa.slnil]).flatten.drop (0+(fs.map C1.row).length*3)=[]:=AT (by rw[ë,Av];omega);rw[h1,PJ,BT,BB,Av,B5 _ _ (Ae _),Dy];rfl
   have K:Az (.len false) [.C3 d.length 0 fs.length 3]=some (I (fs.length:Int)):=rfl;simp only[abS,↓reduceIte,y,R,K];refine En (i:=2) (λn:Nat=>[I (n:Int)]) (λn h1=>n<=fs.length/\∃Kz:List C1,h1=d++[.cells (Kz.map C1.row).flatten]/\Kz.length=fs.length/\Kz.map (·.c)=b.AZ) (λn=>fs.length-n) (λn h1=>∃Kz:List C1,h1=d++[.cells (Kz.map C1.row).flatten]/\Kz.length=fs.length/\Kz.map (·.c)=b.AZ) 0 rfl ⟨A7 _,fs,rfl,rfl,Jy⟩ ?_ ?_
   .rintro n h1 ⟨hn,Kz,rfl,fA,è⟩;rcases Bi n fs.length with hlt|GX
    .have dX:n<Kz.length:=by omega
     have C:Kz[n].c=b.AZ[n]'(by omega):=by simp only[<-è,ET]
     have aM:=(rm.C7 Kz[n].c (by rw[C];exact AY _)).2.1;have q:Az (.FA 3) [.C3 d.length 0 fs.length 3,I (n:Int)]=some (Pt d.length (n*3)):=Fe hlt;have D:(d++[ED.cells (Kz.map C1.row).flatten])[d.length]?=some (.cells (Kz.map C1.row).flatten):=Ax;have hg:(Kz.map C1.row)[n]?=some Kz[n].row:=by rw[Cd,As dX];rfl
     have L:Bj (d++[ED.cells (Kz.map C1.row).flatten]) none (Pt d.length (n*3+2))=some Kz[n].v:=by simp only[Bj,D,Gr];exact Pv (Tu Kz) AM hg
     obtain⟨av,J,fo⟩:=f45 (h:=d++[ED.cells (Kz.map C1.row).flatten]) Kz[n].ok Ab;have aLS:av.cells=[av]:=Bv.cells fo;have H:CL (d++[ED.cells (Kz.map C1.row).flatten]) 1 (Pt d.length (n*3+2)) av=some (d++[.cells ((Kz.set n ⟨Kz[n].c,av,fo⟩).map C1.row).flatten]):=by have e:=TH (Aw:=Kz.map C1.row) (i:=n) (k:=2) (v:=av) (Tu Kz) (by simpa using dX) AM;simp only[CL,D,aLS,Bl,Nq];rw[Af (by rw[Gt (Tu Kz),Av];omega),e,B5 _ _ (Ae _),Dy,GO,ET];rfl
     simp only[abS,(Ab:(n:Int)<(fs.length:Int)),q,L,J.Ac,H,CI (Ab:n<9223372036854775807)];refine .next (n+1) rfl ⟨hlt,_,rfl,by rw[BV];exact fA,?_⟩ Ab
     rw[GO,è];have Ù:n<b.AZ.length:=Ab;show b.AZ.set n Kz[n].c=b.AZ;rw[C,Jd]
    .simp only[abS,(Ab:¬(n:Int)<(fs.length:Int))];exact .HM n rfl ⟨Kz,rfl,fA,è⟩
   .rintro n h1 ⟨Kz,rfl,fA,è⟩;simp only[Cf,↓reduceIte];refine⟨_,rfl,t',O,.C3 d.length 0 fs.length 3,u++[.cells (Kz.map C1.row).flatten],rfl,by rw[f,AS],Ir,?_,?_⟩;.rw[<-AS,<-f];exact p.DQ λi _ hi=>An hi
    .rw[<-AS,<-f];exact .inr ⟨d.length,Kz,by rw[f];simp,by rw[fA],Ax,è⟩
 obtain⟨r,h',hr,t',o',c',u,rfl,rfl,hs⟩:=O5.ret;exact⟨t',o',c',u,hr,hs⟩
end
structure pX(h:Ai)(v:Aa)(fs:List C1):Prop where
 len:Az (.len false) [v]=some (I (fs.length:Int))
 at_:∀k (hk:k<fs.length),∃id o,Az (.FA 3) [v,I (k:Int)]=some (Pt id o)/\Bj h none (Pt id o)=some (I fs[k].c.node)/\Bj h none (Pt id (o+1))=some (.str fs[k].c.name)/\Bj h none (Pt id (o+2))=some fs[k].v
def NRd(h:Ai)(x:GQ)(r:List Aa):Prop:=∃K V,r=[I x.kind,I x.Hi,K,I x.CK,I x.A6,.str x.name,V,.str x.data,.str x.JV,.str x.sys,.bool x.CS,I x.cont,I x.EG]/\N4 h K x.Bw/\Mx h V x.Au/\K.cells=[K]/\V.cells=[V]
section
variable{h h':Ai}{lo lo':Nat}{v v':Aa}
def UA.at_{l:List Co}(hv:UA h lo v l):∃fs:List C1,fs.map (·.c)=l/\pX h v fs:=by
 rcases hv with⟨rfl,rfl⟩|⟨id,fs,_,rfl,hc,e⟩
 .exact⟨[],rfl,rfl,λk hk=>by simp at hk⟩
 .refine⟨fs,e,rfl,λk hk=>⟨id,k*3,Fe hk,?_⟩⟩;have hg:(fs.map C1.row)[k]?=some fs[k].row:=by rw[Cd,As hk];rfl
  have ld:∀j,j<3->Bj h none (Pt id (k*3+j))=fs[k].row[j]?:=λj hj=>by simp only[Bj,hc,Gr];exact Pv (Tu fs) hj hg
  have l0:=ld 0 AM;rw[Bk] at l0;exact⟨l0,ld 1 AM,ld 2 AM⟩
def f18{l:List Int}(hv:N4 h v l)(Gm:N4 h v' l)(hb:l.length<=1000000000):B9 cx 85 [v,v'] h tt h:=by
 rw[Ag,aAN,t85];simp only[abS,hv.len,Gm.len,Cy,Cn];refine BM (λn:Nat=>[ff,I (n:Int)]) (λn h1=>n<=l.length/\h1=h) (λn=>l.length-n) 0 rfl ⟨A7 _,rfl⟩ ?_;rintro n h1 ⟨hn,rfl⟩;rcases Bi n l.length with hlt|GX
 .obtain⟨p,a1,a2⟩:=hv.at_ n hlt;obtain⟨p',b1,b2⟩:=Gm.at_ n hlt;simp only[abS,hv.len,(Ab:(n:Int)<(l.length:Int)),a1,a2,b1,b2,Cy,Cn,CI (Ab:n<9223372036854775807)];exact Bq.next (n+1) rfl ⟨hlt,rfl⟩ Ab
 .simp only[abS,hv.len,(Ab:¬(n:Int)<(l.length:Int))]
def aHl(y:A3):Az (.geq true [.i,.s,.s]) [.agg y.row,.agg y.row]=some (.bool false):=by rw[WJ];simp[A3.row,DO,LG]
def f87{fs ñ:List C1}(hv:pX h v fs)(Gm:pX h v' ñ)(he:fs.map (·.c)=ñ.map (·.c))(hb:fs.length<=1000000000)(ha:∀e∈fs,e.c.Au.length<=1000000000):B9 cx 86 [v,v'] h tt h:=by
 have hl:ñ.length=fs.length:=by have:=B2 List.length he;simpa using this.symm
 have l1:=hv.len;have g:=Gm.len;rw[hl] at g;rw[Ag,aAO,t86];simp only[abS,l1,g,Cy,Cn];refine BM (λn:Nat=>[ff,I (n:Int)]) (λn h1=>n<=fs.length/\h1=h) (λn=>fs.length-n) 0 rfl ⟨A7 _,rfl⟩ ?_;rintro n h1 ⟨hn,rfl⟩;rcases Bi n fs.length with hlt|GX
 .have dL:n<ñ.length:=by omega
  have i:ñ[n].c=fs[n].c:=by have:=B2 (λl=>l[n]?) he;simp only[Cd,As hlt,As dL,By,Bx] at this;exact this.symm
  obtain⟨id,o,a1,a2,a3,a4⟩:=hv.at_ n hlt;obtain⟨Fo,o',b1,b2,b3,b4⟩:=Gm.at_ n dL;rw[i] at b2 b3;have fo:Bb fs[n].c.Au fs[n].v:=fs[n].ok;have aHm:Bb fs[n].c.Au ñ[n].v:=by rw[<-i];exact ñ[n].ok
  have iI:=ha _ (AY hlt);have d:=Bv.F0 fo;have p:=Bv.F0 aHm;generalize fs[n].v=av at*;generalize ñ[n].v=eB at*;generalize fs[n].c.Au=b at*;simp only[abS,l1,(Ab:(n:Int)<(fs.length:Int)),a1,a2,a3,a4,b1,b2,b3,b4,Cy,Cn,d,p];refine BM (λj:Nat=>[ff,I (j:Int)]) (λj h2=>j<=b.length/\h2=h1) (λj=>b.length-j) 0 rfl ⟨A7 _,rfl⟩ ?_;rintro j h2 ⟨hj,rfl⟩;rcases Bi j b.length with Y4|q
  .have s:=Bv.Df (k:= .i64) fo Y4;have r:=Bv.Df (k:= .i64) aHm Y4;have ŝ:(A3.row b[j]).length=3:=rfl;have f:(A3.row b[j]).take 3=A3.row b[j]:=rfl;simp only[abS,a1,a4,b1,b4,d,(Ab:(j:Int)<(b.length:Int)),s,r,ŝ,f,Ae,aHl,CI (Ab:j<9223372036854775807)];exact Bq.next (j+1) rfl ⟨Y4,rfl⟩ Ab
  .simp only[abS,a1,a4,d,(Ab:¬(j:Int)<(b.length:Int)),CI (Ab:n<9223372036854775807)];exact Bq.next (n+1) rfl ⟨hlt,rfl⟩ Ab
 .simp only[abS,l1,(Ab:¬(n:Int)<(fs.length:Int))]
def f22{s:SS}{t o c t' o' c':Aa}(w:UB h lo s t o c)(w':UB h lo' s t' o' c')(b1:s.tm.length<=1000000000)(b2:s.AK.length<=1000000000)(b3:s.AZ.length<=1000000000)(b4:∀e∈s.AZ,e.Au.length<=1000000000):B9 cx 33 [.agg (XL s t o c),.agg (XL s t' o' c')] h tt h:=by
 obtain⟨fs,d,he⟩:=w.c.at_;obtain⟨ñ,b,aU⟩:=w'.c.at_;have g:=f18 w.o.Vb w'.o.Vb b2;have r2:=f87 he aU (d.trans b.symm) (by rw[<-d,Av] at b3;exact b3) (λe hm=>b4 e.c (by rw[<-d];exact OC hm));have p:t.cells=[t]:=Bv.cells w.t;have f:t'.cells=[t']:=Bv.cells w'.t;have q:=w.o.cells;have i:=w'.o.cells;have r:=w.c.cells;have l:=w'.c.cells;have l1:=Bv.F0 w.t;have j:=Bv.F0 w'.t;rw[Ag,aAE,t33,XL,XL];simp only[abS,l1,j,Cy,Cn,g.Ac,r2.Ac];refine BM (λn:Nat=>[ff,I (n:Int)]) (λn h1=>n<=s.tm.length/\h1=h) (λn=>s.tm.length-n) 0 rfl ⟨A7 _,rfl⟩ ?_;rintro n h1 ⟨hn,rfl⟩;rcases Bi n s.tm.length with hlt|GX
 .have a1:=Bv.Df (k:= .i64) w.t hlt;have a2:=Bv.Df (k:= .i64) w'.t hlt;rw[DN] at a1 a2;simp only[abS,l1,(Ab:(n:Int)<(s.tm.length:Int)),a1,a2,Cy,Cn,CI (Ab:n<9223372036854775807)];exact Bq.next (n+1) rfl ⟨hlt,rfl⟩ Ab
 .simp only[abS,l1,(Ab:¬(n:Int)<(s.tm.length:Int)),Cn,GS]
end
def aC6{A:Ar}{k:Nat}(hk:k<A.n.length):A.has ((k:Int)+1)/\A.nd ((k:Int)+1)=A.n[k]:=by
 have h1:A.has ((k:Int)+1):=by unfold Ar.has;omega
 refine⟨h1,?_⟩;unfold Ar.nd;rw[Af h1,AR,(Ab:((k:Int)+1).toNat-1=k),As hk];rfl
section
variable{h h':Ai}{a n:Nat}{m:Option Nat}{ps:List PN}{A:Ar}{x:Int}
end
def PB(h:Ai)(bi:Nat)(b:BS)(F:Nat->Prop):Prop:=∃a o c t G,BX h bi a o c t G b/\Di b.AZ c/\F=BK bi G
structure Fin(b:BS)(j:Nat):Prop where
 ok:EI b
 sz:Sz b j
section
variable{h h':Ai}{bi wi:Nat}{b:BS}{F F2:Nat->Prop}{q:dw}{av:Aa}{j:Nat}
def PB.lt(w:PB h bi b F){i:Nat}(hi:F i):i<h.length:=by
 obtain⟨a,o,c,t,G,w,_,rfl⟩:=w;rcases hi with rfl|hi
 .exact w.lt
 .exact w.w.lt hi
def PB.DQ(w:PB h bi b F)(hf:∀i,F i->h'[i]?=h[i]?):PB h' bi b F:=by obtain⟨a,o,c,t,G,w,hc,rfl⟩:=w;exact⟨a,o,c,t,G,w.DQ hf,hc,rfl⟩
def PB.JX(w:PB h bi b F){u:Ai}:PB (h++u) bi b F:=w.DQ λi hi=>An (w.lt hi)
def Fin.le{k:Nat}(f:Fin b j)(hk:k<=j):Fin b k:=⟨f.ok,f.sz.rm.le Ab,by have:=f.sz.AK;omega,by have:=f.sz.AZ;omega⟩
def Fin.do(f:Fin b (j+1))(hq:xr q):Fin (dx b q).1 j:=⟨aC2 f.ok,aC3 f.sz hq⟩
def Gc.HM(s:Gc):Fin s.b 100:=⟨s.ok.1,s.ok.2⟩
def aLU(w:PB h bi b F)(f:Fin b (j+1))(hq:xr q)(hv:Bb q.Au av):∃h' F',B9 cx 22 [Pt bi 0,.agg (SH q av)] h (.agg (dx b q).2.row) h'/\PB h' bi (dx b q).1 F'/\Ew h F h' F':=by obtain⟨a,o,c,t,G,w,hc,rfl⟩:=w;obtain⟨h',o',c',t',d,r,w',Ns,x⟩:=aLM w hc f.ok f.sz hq hv;exact⟨h',_,r,⟨a,o',c',t',d,w',Ns,rfl⟩,x⟩
def aLV(s:Gc)(hv:Bb s.Au av)(hl:Eb s.Au)(h:Ai):∃h' bi F,B9 cx 21 [.agg (Nn s av)] h (Pt bi 0) h'/\PB h' bi s.b F/\Ew h (λ_=>False) h' F:=by obtain⟨h',bi,a,o,c,t,G,r,w,hc,x⟩:=aLQ h s hv hl;exact⟨h',bi,_,r,⟨a,o,c,t,G,w,hc,rfl⟩,x⟩
end
structure QO where
 q:dw
 v:Aa
 ok:Bb q.Au v
def QO.row(x:QO):List Aa:=SH x.q x.v
def QO.DP{x:QO}:x.row.length=9:=rfl
def QO.KH{x:QO}:x.row.take 9=x.row:=rfl
def XM(l:List QO)(v:Aa):Prop:=Bv 9 (l.map QO.row) v
def KQ:BS->List QO->BS
 |b,[]=>b
 |b,x::l=>KQ (dx b x.q).1 l
def XN:∀{l:List QO} {b:BS} {x:QO},KQ b (l++[x])=(dx (KQ b l) x.q).1
 |[],_,_=>rfl
 |y::l,b,x=>by rw[CJ,KQ,XN,KQ]
def SJ:∀{l:List QO} {b:BS} {j:Nat},Fin b (j+l.length)->(∀x∈l,xr x.q)->Fin (KQ b l) j
 |[],_,_,f,_=>f
 |x::l,b,j,f,hq=>by rw[KQ];exact SJ (Fin.do (j:=j+l.length) (f.le (by simp only[AJ];omega)) (hq x Ax)) λy hy=>hq y (by simp[hy])
end Go.Am
end
section
end
