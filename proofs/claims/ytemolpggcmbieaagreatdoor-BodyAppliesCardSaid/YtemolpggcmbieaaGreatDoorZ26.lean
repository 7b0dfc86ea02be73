/- Lemmas -/
import Derived.Test.YtemolpggcmbieaaGreatDoorZ25
set_option linter.all false
noncomputable section
set_option maxRecDepth 100000
section
namespace Go.Am
open Go
section
variable{h h':Ah}{bi a ai:Nat}{o c t:Aa}{G G' F:Nat->Prop}{b b':BS}{x:Int}{m:Nat}
variable{nm:Ak}{av:Aa}{l:List A7}{r:List Aa}{sp p:Int}{e:C1}{at_ mk last:Int}{anc far:Item}
def Dj.find(hc:Dj b.AY c)(w:BX h bi a o c t G b)(rm:Cd b m)(nm:Ak):Ca cx 209 [Pt bi 3,.str nm] h (I (Fj nm b.AY)) h:=by obtain⟨fs,Jn,hv⟩:=hc;have ha:=rm.AY;have:=aFT w.lO hv (by rw[<-Jn,As] at ha;omega) nm;rwa [xV,Jn] at this
def XJ(d:h.length<=ai)(x:Ew h (Ml ai bi G) h' (Ml ai bi G')):Ew h (BM bi G) h' (BM bi G'):=
 ⟨x.len,λi hi hn=>x.old i hi λhg=>by
  rcases hg with rfl|hg
  .omega
  .exact hn hg,λi hi=>by
  rcases x.BM i (.inr hi) with(rfl|h)|h
  .exact .inr d
  .exact .inl h
  .exact .inr h⟩
def XK{nm:Ak}{l:List Cp}(h:0<=Fj nm l):∃p:Nat,∃hp:p<l.length,Fj nm l=(p:Int):=by
 have key:∀r:List Cp,Xf nm r<r.length:=by
  intro r;induction r with
  |nil=>show(-1:Int)<0;decide
  |cons x r ih=>rw[Xf];simp only[AJ];split<;>(try split)<;>omega
 have:=key l.reverse;rw[YQ] at this;refine⟨(Fj nm l).toNat,?_,Ac⟩;unfold Fj at h⊢;omega
def é{l:List Cp}{f:Nat}(hn:((l.map Cp.node).filter λn=>decide (n≠0)).Nodup)(hf:f<l.length)(h0:l[f].node≠0):FC l[f].node l=(f:Int):=by
 unfold FC;rw[Ag h0];refine L4 hf (by simp[Xe]) λj hj h=>?_;by_cases he:l[j].node=l[f].node
 .exfalso;have:l=l.take j++l[j]::l.drop (j+1):=by rw[<-Az hj,Cx]
  rw[this,BP,A0,EN,GR,Af (by simpa[he] using h0),BQ] at hn;have hm:l[f]∈l.take j:=List.mem_take_iff_getElem.2 ⟨f,Ac,rfl⟩;exact hn.2.2 l[f].node (Dk.2 ⟨OK hm,by simpa using h0⟩) l[j].node Ax he.symm
 .simp[Xe,he]
def jZ{v:Ej}:Ew h (Am.Ml ai bi G) (h.set ai v) (Am.Ml ai bi G):=⟨by rw[BY];exact Ab _,λi _ hn=>Ao λe=>hn (.inl e.symm),λ_ h=> .inl h⟩
def aCW(hc:h[ai]?=some (.cells (Ft e at_ mk anc far last)))(i:Item):CH h 4 (Pt ai 5) (.agg i.row)=some (h.set ai (.cells (Ft e at_ mk i far last))):=by simp only[CH,hc];rfl
def aCX(hc:h[ai]?=some (.cells (Ft e at_ mk anc far last)))(i:Item):CH h 4 (Pt ai 9) (.agg i.row)=some (h.set ai (.cells (Ft e at_ mk anc i last))):=by simp only[CH,hc];rfl
def aCY(hc:h[ai]?=some (.cells (Ft e at_ mk anc far last))):Bi h (some 3) (Pt ai 0)=some (.agg e.row):=by simp only[Bi,hc];rfl
def YG{A:Ar}{n x:Int}{l:List Int}:BS.Dm A n (l++[x])=(BS.Dm A n l).If n x 0:=by unfold BS.Dm;rw[List.foldl_append];rfl
def aLB(w:BX h bi a o c t G b)(hc:Dj b.AY c)(ok:E6 b)(rm:Cd b (m+4*b.AL.length+10))(nm:Ak):
  ∃h' o' c' G',Ca cx 122 [Pt bi 0,.str nm] h (.bool (b.round nm).1) h'/\BX h' bi a o' c' t G' (b.round nm).2/\Dj (b.round nm).2.AY c'/\Ew h (BM bi G) h' (BM bi G'):=by
 have ho:=rm.AL;have Vq:=rm.AY;have r1:=hc.find w rm nm;by_cases hf:Fj nm b.AY<0
 .obtain⟨h2,o2,r2,Q,x2⟩:=aCU w rm nm;have e:b.round nm=(false,b.Dw nm):=by unfold BS.round;simp only;rw[Af hf]
  have ea:(b.Dw nm).AY=b.AY:=by
   unfold BS.Dw;split;.split<;>rfl
   .rfl
  rw[e];refine⟨h2,o2,c,G,?_,Q,by rw[ea];exact hc,x2⟩;rw[Ae,N8,jJ];simp only[abS,Nat.reduceLeDiff,↓reduceIte,Bv,r1.Ad,hf,r2.Ad]
 obtain⟨f,Im,ef⟩:=XK (TX.1 hf);have xc:¬(f:Int)<0:=Ac;rw[ef] at r1;have Ow:=hc;obtain⟨fs,Jn,hv⟩:=Ow;have aRm:b.AY.length=fs.length:=by rw[<-Jn,As]
 have L:fs[f].c=b.AY[f]:=by simp only[<-Jn,EV]
 have l3:=w.l3;have e1:=Bz.Dh (k:= .i64) hv (Ac:f<fs.length);generalize hfe:fs[f]=fe at*;have ue:b.AY.getD f Cp.zero=fe.c:=by rw[AP,Au Im];exact L.symm
 have hv3:fe.v.cells=[fe.v]:=Bz.cells fe.ok;have w1:=w.JL (u:=[.cells (Ft fe (f:Int) (f:Int) Item.zero Item.zero 0)]);have ł:(h++[Ej.cells (Ft fe (f:Int) (f:Int) Item.zero Item.zero 0)])[h.length]?=some (.cells (Ft fe (f:Int) (f:Int) Item.zero Item.zero 0)):=Ax;have x1:Ew h (BM bi G) (h++[Ej.cells (Ft fe (f:Int) (f:Int) Item.zero Item.zero 0)]) (BM bi G):=w.DZ;have RN:¬BM bi G h.length:=by
  rintro(e|hg);.exact absurd w.lt Ac
  .exact absurd (w.w.lt hg) (Dd _)
 obtain⟨E,A⟩:∃E,E=h++[Ej.cells (Ft fe (f:Int) (f:Int) Item.zero Item.zero 0)]:=⟨_,rfl⟩;rw[<-A] at w1 ł x1;have l0:Bi E none (Pt h.length 0)=some (I fe.c.node):=At.load ⟨_,ł,rfl⟩;have r2:=YC w1.sA Ac fe.c.node;have aJ:Ft fe (f:Int) (f:Int) Item.zero Item.zero 0=[I fe.c.node,.str fe.c.name,fe.v,I (f:Int),I (f:Int),I 0,I 0,S [],ff,I 0,I 0,S [],ff,I 0]:=rfl;rw[aJ] at A;rw[C1.row] at e1;by_cases hk:AX (BU fe.c.node) b.AL<0
 .obtain⟨h2,c2,Y,Q,K9,_,x2⟩:=yA w1 hc rm ł RN Im ⟨Ac,Ac⟩ ⟨Ac,Ac⟩;have e:b.round nm=(false,{b with AY:=BB b.AY f}):=by unfold BS.round;simp only;rw[Ag hf,ef,BH,ue,Af hk]
  rw[e];refine⟨h2,o,c2,G,?_,Q,K9,XJ (Ab _) ((Ey x1 h.length).trans x2)⟩;rw[Ae,N8,jJ];simp only[abS,Nat.reduceLeDiff,↓reduceIte,Bv,r1.Ad,xc,l3,e1,<-A,l0,r2.Ad,hk,Y.Ad]
 obtain⟨k,ek⟩:∃k:Nat,AX (BU fe.c.node) b.AL=(k:Int):=⟨_,(HY (TX.1 hk)).symm⟩;obtain⟨Y0,hkq,_⟩:=K0 ek;have Ü:¬(k:Int)<0:=Ac;rw[ek] at r2;by_cases hkz:k=0
 .have e:b.round nm=(false,b):=by unfold BS.round;simp only;rw[Ag hf,ef,BH,ue,Ag hk,Af (.inl (by rw[ek,hkz];rfl))]
  rw[e];refine⟨E,o,c,G,?_,w1,hc,x1⟩;rw[Ae,N8,jJ];simp only[abS,Nat.reduceLeDiff,↓reduceIte,Bv,r1.Ad,xc,l3,e1,<-A,l0,r2.Ad,Ü,A6 (Ac:(k:Int)=0)]
 have ê:¬(k:Int)=0:=Ac;have Y:=aFO w1.sA Ac 1 fe.c.node;by_cases K:Pq (BU fe.c.node) (N0 1) b.AL.reverse=false
 .have e:b.round nm=(false,b):=by unfold BS.round;simp only;rw[Ag hf,ef,BH,ue,Ag hk,Af (.inr K)]
  rw[e];refine⟨E,o,c,G,?_,w1,hc,x1⟩;rw[K] at Y;rw[Ae,N8,jJ];simp only[abS,Nat.reduceLeDiff,↓reduceIte,Bv,r1.Ad,xc,l3,e1,<-A,l0,r2.Ad,Ü,ê,Y.Ad]
 have aLC:Pq (BU fe.c.node) (N0 1) b.AL.reverse=true:=by simpa using K
 rw[aLC] at Y;have r4:=aKS w1.sA Ac fe.c.node;have hor:¬(AX (BU fe.c.node) b.AL=0\/Pq (BU fe.c.node) (N0 1) b.AL.reverse=false):=by rw[ek];rintro(h|h);exact ê h;exact K h
 by_cases hfa:Et fe.c.node b.AL<0
 .have e:b.round nm=(false,{b with AL:=I5 fe.c.node b.AL,AY:=BB b.AY f}):=by unfold BS.round;simp only;rw[Ag hf,ef,BH,ue,Ag hk,Ag hor,Af hfa]
  obtain⟨u,r5,hu⟩:=aFS w1.sO Ac fe.c.node;have Q:=w1.Mk hu;have uf:(put E bi 2 u)[h.length]?=_:=(CU (λe=>RN (.inl e))).trans ł;obtain⟨h3,c3,r6,w3,Zg,_,x3⟩:=yA Q hc ((rm.le (m':=0) Ac).sub rfl Hk (AD _) (Ab _)) uf RN Im ⟨Ac,Ac⟩ ⟨Ac,Ac⟩;rw[e];refine⟨h3,u,c3,G,?_,w3,Zg,XJ (Ab _) ((Ey (x1.trans BN) h.length).trans x3)⟩;rw[Ae,N8,jJ];simp only[abS,Nat.reduceLeDiff,↓reduceIte,Bv,r1.Ad,xc,l3,e1,<-A,l0,r2.Ad,Ü,ê,Y.Ad,r4.Ad,hfa,r5.Ad,r6.Ad]
 obtain⟨N,hN,eN⟩:∃N:Nat,k+1+N<b.AL.length/\Et fe.c.node b.AL=((k+1+N:Nat):Int):=by
  have aCZ:=hfa;rw[Mw,Ag hk,ek,BH] at aCZ⊢;unfold Gk at aCZ⊢;split at aCZ;.rename_i j hj;have:=(KC.1 hj).1;rw[Bj] at this;exact⟨j,Ac,Ac⟩
  .omega
 obtain⟨d,hfb⟩:∃d,d=b.AL[k+1+N]:=⟨_,rfl⟩;obtain⟨an,han⟩:∃an,an=b.AL[k-1]'(by omega):=⟨_,rfl⟩;have yv:b.AL.getD (k+1+N) Item.zero=d:=by rw[AP,Au hN,hfb];rfl
 have hga:b.AL.getD (k-1) Item.zero=an:=by rw[AP,Au Ac,han];rfl
 have e:b.round nm=(true,BS.Kq fe.c d.node an.node (BS.Pu d.node an.node (k+1+N) k N (b,d.node,f))):=by
  unfold BS.round;simp only
  rw[Ag hf,ef,BH,ue,Ag hk,Ag hor,Ag hfa,ek,eN,BH,BH,yv,hga,(Ac:k+1+N-1 -k=N)]
 have ë:=ok.op d (by rw[hfb];exact A5 _);have aLD:b.AL[k].node=fe.c.node:=by simpa[BU] using hkq
 have aG2:b.a.has fe.c.node:=by rw[<-aLD];exact(ok.op _ (A5 _)).1
 have aLE:b.AY[f].node≠0:=by rw[<-L];have:=aG2.1;omega
 have dx:=é ok.gj Im aLE;rw[<-L] at dx;have Rc:=rm.C5 _ (A5 Im);rw[<-L] at Rc;have xh:=MN (n:=k) Ac Ac;have r5:=U5 w1.sA ((k-1:Nat):Int);rw[HI Ac,<-han] at r5;have r6:=U5 w1.sA ((k+1+N:Nat):Int);rw[HI hN,<-hfb] at r6;have s5:=aCW ł an;have fD:h.length<E.length:=(Aj.1 ł).1;have hbn:h.length≠bi:=λe=>RN (.inl e);have uf:(E.set h.length (.cells (Ft fe f f an Item.zero 0)))[h.length]?=_:=AA fD;have Q:BX (E.set h.length (.cells (Ft fe f f an Item.zero 0))) bi a o c t G b:=w1.DT λj hj=>Ao λe=>RN (by rw[e];exact hj);have x2:=(Ey x1 h.length).trans (jZ (v:= .cells (Ft fe f f an Item.zero 0)));generalize E.set h.length (.cells (Ft fe f f an Item.zero 0))=H2 at*;have s6:=aCX uf d;have lK:h.length<H2.length:=(Aj.1 uf).1;have W:(H2.set h.length (.cells (Ft fe f f an d 0)))[h.length]?=_:=AA lK;have w3:BX (H2.set h.length (.cells (Ft fe f f an d 0))) bi a o c t G b:=Q.DT λj hj=>Ao λe=>RN (by rw[e];exact hj);have x3:=x2.trans (jZ (v:= .cells (Ft fe f f an d 0)));generalize H2.set h.length (.cells (Ft fe f f an d 0))=H3 at*;have l9:Bi H3 none (Pt h.length 9)=some (I d.node):=At.load ⟨_,W,rfl⟩;have t13:At H3 h.length 13 (I 0):=⟨_,W,rfl⟩;have s7:=t13.store (u:= I d.node) rfl;have st4:=Ju (k:=13) (v:= I d.node) W;have w4:BX (put H3 h.length 13 (I d.node)) bi a o c t G b:=w3.DT λj hj=>CU λe=>RN (by rw[<-e];exact hj);have x4:=x3.trans (PE (k:=13) (v:= I d.node));generalize put H3 h.length 13 (I d.node)=H4 at*;have i0:jY H4 bi a h.length t G fe an d k N (m+10) (b,d.node,f) N H4 o c G (b,d.node,f):=
  ⟨Ab _,w4,hc,ok,rm.le Ac,ë.1,by rw[dx];exact st4,RN,.refl,by rw[dx];omega,by show f<=1000000000;omega,rfl,Hb,rfl,aG2⟩
 have le0:=(bX (blk:=d.node) (anc:=an.node) (far:=k+1+N) (k:=k) (c:=N) (s:=(b,d.node,f)) ok ë.1).2.2;obtain⟨h5,o5,c5,G5,s',r7,es,i⟩:=aGX i0 Ac ek hN;rw[<-es] at le0 e;obtain⟨q,hq,Þ,hq0,hq2,hq3⟩:=JT i.f_;have J:=i.st;rw[Þ] at J;have hmk:=i.mkb;have gh:h.length≠bi:=hbn;have l5:Bi h5 none (Pt h.length 5)=some (I an.node):=At.load ⟨_,J,rfl⟩;obtain⟨u6,r8⟩:=ß i.w i.ok.ba i.rm an.node;have w6:=i.w.JL (u:=u6);have w6':=i.w.DZ (u:=u6);have hl5:h.length<h5.length:=(Aj.1 J).1;have st6:(h5++u6)[h.length]?=_:=(An hl5).trans J;have l13:Bi (h5++u6) none (Pt h.length 13)=some (I s'.2.1):=At.load ⟨_,st6,rfl⟩;have hl6:h.length<(h5++u6).length:=by rw[Ap];omega
 obtain⟨h7,G7,r9,w7,x7⟩:=jU (x:=s'.2.1) (p:=(s'.1.place an.node).1) (bf:=(s'.1.place an.node).2) w6 i.ok.ba i.rm;have hn7:¬BM bi G7 h.length:=λhg=>by
  rcases x7.BM h.length hg with hg|hg
  .exact i.hn hg
  .omega
 have H:h7[h.length]?=_:=(x7.old h.length hl6 i.hn).trans st6;have l3b:Bi h7 (some 3) (Pt h.length 0)=some (.agg fe.row):=aCY H;have l9b:Bi h7 none (Pt h.length 9)=some (I d.node):=At.load ⟨_,H,rfl⟩;obtain⟨r,xm,hr⟩:=uc fe h7;have le7:Le s'.1.a (s'.1.a.HU s'.2.1 (s'.1.place an.node).1 (s'.1.place an.node).2):=I7;have ok7:=i.ok.IH (N5 (n:=s'.2.1) (p:=(s'.1.place an.node).1) (b:=(s'.1.place an.node).2) i.ok.ok) le7;have X:=i.rm.IH (LF (x:=s'.2.1) (p:=(s'.1.place an.node).1) (bf:=(s'.1.place an.node).2));obtain⟨b2,Qm⟩:∃b2,b2={s'.1 with a:=s'.1.a.HU s'.2.1 (s'.1.place an.node).1 (s'.1.place an.node).2}:=⟨_,rfl⟩;have rK:b2.AL=s'.1.AL:=by rw[Qm]
 have K9:b2.AY=s'.1.AY:=by rw[Qm]
 have le2:Le s'.1.a b2.a:=by rw[Qm];exact le7
 rw[<-Qm] at w7 ok7 X;obtain⟨P,G8,r11,w8,x8⟩:=th (m:=m+7) w7 ok7.ba (X.le Ac) hr fe.ok Rc.2 Rc.1 d.node 1;obtain⟨B,fr,le8⟩:=Uv (nm:=fe.c.name) (at_:=fe.c.Av) (p:=d.node) ok7 Mh;have C:=Lw (m:=m+7) (nm:=fe.c.name) (l:=fe.c.Av) (sp:=1) (p:=d.node) (X.le Ac) Rc.2;obtain⟨g,hnw⟩:∃g,g=b2.JP fe.c.name fe.c.Av 1:=⟨_,rfl⟩;obtain⟨b3,ž⟩:∃b3,b3=b2.Fz fe.c.name fe.c.Av 1 d.node:=⟨_,rfl⟩;have ho3:b3.AL=s'.1.AL:=by rw[ž,<-rK];unfold BS.Fz;rw[Af Mh]
 have Zg:b3.AY=s'.1.AY:=by rw[ž,<-K9];unfold BS.Fz;rw[Af Mh]
 rw[<-hnw] at r11 fr;rw[<-ž] at w8 B fr le8 C;have hl7:h.length<h7.length:=(Aj.1 H).1;have hn8:¬BM bi G8 h.length:=λhg=>by
  rcases x8.BM h.length hg with hg|hg
  .exact hn7 hg
  .omega
 have V:P[h.length]?=_:=(x8.old h.length hl7 hn7).trans H;have l9c:Bi P none (Pt h.length 9)=some (I d.node):=At.load ⟨_,V,rfl⟩;obtain⟨kv,r12,hkv⟩:∃v,Ca cx 189 [Pt a 0,I d.node] P v P/\Jf (b3.a.nd d.node).Bw v:=by obtain⟨n',m',ps,wa⟩:=w8.w.pa;exact ĳ wa C.UY (C.UY.Bw B.ok d.node)
 have aRt:(b3.a.nd d.node).Bw.length<=1000000000:=C.UY.Bw B.ok d.node;have Vh:g.row=[I g.node,I g.A9,.str g.name,.bool g.Oz]:=rfl;rw[C1.row] at xm l3b;have Pb:Ev cx 122 [Pt bi 0,.str nm] h λr h'=>r= .bool true/\∃o' c' G',BX h' bi a o' c' t G' (BS.Kq fe.c d.node an.node s')/\Dj (BS.Kq fe.c d.node an.node s').AY c'/\Ew h (BM bi G) h' (BM bi G'):=by
  unfold Ev;rw[N8,jJ];simp only[abS,Nat.reduceLeDiff,↓reduceIte,Bv,r1.Ad,xc,l3,e1,<-A,l0,r2.Ad,Ü,ê,Y.Ad,r4.Ad,eN,(Ac:¬((k+1+N:Nat):Int)<0),xh,r5.Ad,r6.Ad,s5,s6,l9,s7];simp only[abS,r7.Ad,l5,r8.Ad];simp only[abS,l13,r9.Ad];simp only[Ci,l3b,l9b];simp only[abS,↓reduceIte,JB,xm.Ad,C8,r11.Ad,l9b];simp only[Ci,w8.l0,l9c,r12.Ad,Bz.Ha hkv];have x8':Ew h (Ml h.length bi G) P (Ml h.length bi G8):=(((x4.trans i.x).trans (Ey w6' h.length)).trans (Ey x7 h.length)).trans (Ey x8 h.length);refine Ex (i:=0) (λj:Nat=>[I (j:Int)]) (λj D=>j<=(b3.a.nd d.node).Bw.length/\∃M,BX D bi a o5 c5 t M {b3 with a:=BS.Dm b3.a g.node ((b3.a.nd d.node).Bw.take j)}/\E6 {b3 with a:=BS.Dm b3.a g.node ((b3.a.nd d.node).Bw.take j)}/\Cd {b3 with a:=BS.Dm b3.a g.node ((b3.a.nd d.node).Bw.take j)} (m+7)/\Ew P (BM bi G8) D (BM bi M)) (λj=>(b3.a.nd d.node).Bw.length-j)
   (λj D=>j=(b3.a.nd d.node).Bw.length/\∃M,BX D bi a o5 c5 t M {b3 with a:=BS.Dm b3.a g.node ((b3.a.nd d.node).Bw.take j)}/\E6 {b3 with a:=BS.Dm b3.a g.node ((b3.a.nd d.node).Bw.take j)}/\Cd {b3 with a:=BS.Dm b3.a g.node ((b3.a.nd d.node).Bw.take j)} (m+7)/\Ew P (BM bi G8) D (BM bi M)) 0 rfl ⟨Bd _,G8,w8,B,C,.refl⟩ ?_ ?_
  .rintro j D ⟨hj,M,w9,z,y,x9⟩;rcases Bk j (b3.a.nd d.node).Bw.length with hlt|Hh
   .have e9:=Bz.Dh (k:= .i64) hkv hlt;obtain⟨YE,O,Z,fG,Ń⟩:=jU (x:=(b3.a.nd d.node).Bw[j]) (p:=g.node) (bf:=0) w9 z.ba y;have lej:=(Mz (n:=g.node) (l:=(b3.a.nd d.node).Bw.take j) B.ok).2;rw[TK (by show((BS.Dm b3.a g.node ((b3.a.nd d.node).Bw.take j)).nd g.node).kind=4;rw[lej.kind _ fr.has];exact fr.kind)] at fG;have hs:BS.Dm b3.a g.node ((b3.a.nd d.node).Bw.take (j+1))=(BS.Dm b3.a g.node ((b3.a.nd d.node).Bw.take j)).If g.node (b3.a.nd d.node).Bw[j] 0:=by rw[AS hlt,YG]
    rw[Cu] at e9;simp only[abS,(Ac:(j:Int)<((b3.a.nd d.node).Bw.length:Int)),e9,Z.Ad,CR (Ac:j<9223372036854775807)];refine .next (j+1) rfl ⟨hlt,O,by rw[hs];exact fG,?_,?_,x9.trans Ń⟩ Ac
    .have:=z.IH (P7 (p:=g.node) (n:=(b3.a.nd d.node).Bw[j]) (b:=0) z.ok) P9;rw[hs];exact this
    .have:=y.IH (Ks (p:=g.node) (x:=(b3.a.nd d.node).Bw[j]) (bf:=0));rw[hs];exact this
   .simp only[abS,(Ac:¬(j:Int)<((b3.a.nd d.node).Bw.length:Int))];exact .ID j rfl ⟨Ac,M,w9,z,y,x9⟩
  .rintro j D ⟨rfl,M,w9,z,y,x9⟩;rw[BZ] at w9 z y;have hl8:h.length<P.length:=(Aj.1 V).1;have hn9:¬BM bi M h.length:=λhg=>by
    rcases x9.BM h.length hg with hg|hg
    .exact hn8 hg
    .omega
   have U:D[h.length]?=_:=(x9.old h.length hl8 hn8).trans V;have l9d:Bi D none (Pt h.length 9)=some (I d.node):=At.load ⟨_,U,rfl⟩;have le9:=(Mz (n:=g.node) (l:=(b3.a.nd d.node).Bw) B.ok).2;have lef:Le b.a (BS.Dm b3.a g.node (b3.a.nd d.node).Bw):=((le0.trans le2).trans le8).trans le9;obtain⟨YE,O,Z,fG,Ń⟩:=jU (x:=g.node) (p:=d.node) (bf:=0) w9 z.ba y;rw[TK (by show((BS.Dm b3.a g.node (b3.a.nd d.node).Bw).nd d.node).kind=4;rw[lef.kind _ ë.1];exact ë.2.1)] at fG;have hl9:h.length<D.length:=(Aj.1 U).1;have aLK:¬BM bi O h.length:=λhg=>by
    rcases Ń.BM h.length hg with hg|hg
    .exact hn9 hg
    .omega
   have aG5:YE[h.length]?=_:=(Ń.old h.length hl9 hn9).trans U;have l3c:Bi YE none (Pt h.length 3)=some (I (q:Int)):=At.load ⟨_,aG5,rfl⟩;have aLL:=y.IH (Ks (p:=d.node) (x:=g.node) (bf:=0));have aLM:Dj ({b3 with a:=(BS.Dm b3.a g.node (b3.a.nd d.node).Bw).If d.node g.node 0}:BS).AY c5:=by simp only;rw[Zg];exact i.hc
   have hqa:=i.rm.AY;obtain⟨bE,sB,r14,T,aG6,ì,x11⟩:=yA fG aLM aLL aG5 aLK (k:=q) (by simp only;rw[Zg];exact hq) ⟨Ac,Ac⟩ ⟨Ac,Ac⟩;simp only at T aG6;have l1:Bi bE none (Pt h.length 1)=some (.str fe.c.name):=At.load ⟨_,ì,rfl⟩;have l2:Bi bE none (Pt h.length 2)=some fe.v:=At.load ⟨_,ì,rfl⟩;have l4:Bi bE none (Pt h.length 4)=some (I (down q (s'.2.2:Int))):=At.load ⟨_,ì,rfl⟩;obtain⟨fs2,aC2,Qv⟩:=aG6;have aRx:b3.AY.length=s'.1.AY.length:=by rw[Zg]
   have aRy:fs2.length<=900000000:=by have h1:=B5 List.length aC2;rw[As,Jg (by rw[Zg];exact hq)] at h1;omega
   have aLy:=Rc.2.1;obtain⟨u1,e2,he2,r15,aK⟩:=aK3 (h:=bE) (id:=bi) (o:=3) (l:=fs2) ⟨sB,T.lO,Qv⟩ Ac (e:=⟨{fe.c with node:=g.node},fe.v,fe.ok⟩) (by unfold gi;simp only;omega) (down q (s'.2.2:Int));have aLO:Ca cx 214 [Pt bi 3,.agg [I g.node,.str fe.c.name,fe.v],I (down q (s'.2.2:Int))] bE (.tuple []) (put bE bi 3 u1):=r15;obtain⟨dW,dw⟩:∃dW:Nat,dW=if q<s'.2.2 then s'.2.2 -1 else s'.2.2:=⟨_,rfl⟩
   have ug:down q (s'.2.2:Int)=(dW:Int):=by rw[dw];unfold down;split<;>split<;>omega
   have w12:=T.PD (u:=u1) (l:=(BB b3.AY q).take (Gt dW (BB b3.AY q).length)++{fe.c with node:=g.node}::(BB b3.AY q).drop (Gt dW (BB b3.AY q).length));have aLP:Dj ((BB b3.AY q).take (Gt dW (BB b3.AY q).length)++{fe.c with node:=g.node}::(BB b3.AY q).drop (Gt dW (BB b3.AY q).length)) u1:=by refine⟨_,?_,aK⟩;rw[ug,BP,A0,GO,K6,aC2,he2,<-aC2,As]
   have hob:=i.rm.AL;obtain⟨u2,r16,Ql⟩:=sg w12.sO (by simp only;rw[ho3];omega) fe.c.node;have R:=w12.Mk Ql;have mJ:(Di fe.c.node b3.AL).length<=s'.1.AL.length:=by rw[<-ho3];exact Gv.length_le
   have aLR:(put (put bE bi 3 u1) bi 2 u2)[h.length]?=_:=(CU gh).trans ((CU gh).trans ì);have l9e:Bi (put (put bE bi 3 u1) bi 2 u2) none (Pt h.length 9)=some (I d.node):=At.load ⟨_,aLR,rfl⟩;have r17:=YC R.sA Hb d.node;have hli: -1<=AX (BU d.node) (Di fe.c.node b3.AL)/\AX (BU d.node) (Di fe.c.node b3.AL)<=(Di fe.c.node b3.AL).length:=by rcases DY (q:=BU d.node) (l:=Di fe.c.node b3.AL) with⟨h,_⟩|⟨n,h1,h2,_⟩<;>omega
   have add:=Vn (a:=AX (BU d.node) (Di fe.c.node b3.AL)) (b:=1) Ac Ac;obtain⟨u3,r18,hu3⟩:=aKV R.sO Hb g (AX (BU d.node) (Di fe.c.node b3.AL)+1);have w14:=R.Mk hu3;simp only[abS,Nat.reduceLeDiff,↓reduceIte,Bv,JB,l9d,Z.Ad,l3c,r14.Ad,l1,l2,hv3,l4,aLO.Ad,r16.Ad,l9e,r17.Ad,add,r18.Ad];have hE:BS.Kq fe.c d.node an.node s'={b3 with a:=(BS.Dm b3.a g.node (b3.a.nd d.node).Bw).If d.node g.node 0,AY:=(BB b3.AY q).take (Gt dW (BB b3.AY q).length)++{fe.c with node:=g.node}::(BB b3.AY q).drop (Gt dW (BB b3.AY q).length),AL:=(Di fe.c.node b3.AL).take (Iw (AX (BU d.node) (Di fe.c.node b3.AL)+1) (Di fe.c.node b3.AL).length)++g::(Di fe.c.node b3.AL).drop (Iw (AX (BU d.node) (Di fe.c.node b3.AL)+1) (Di fe.c.node b3.AL).length)}:=by
    have Ÿ:FC fe.c.node b3.AY=(q:Int):=by rw[Zg];exact Þ
    unfold BS.Kq;simp only
    rw[<-Qm,<-ž,<-hnw,Ÿ,BH,<-dw]
   rw[hE];refine⟨_,rfl,rfl,u3,u1,O,w14,aLP,XJ (Ab _) ?_⟩;exact((((x8'.trans (Ey (x9.trans Ń) h.length)).trans x11).trans (Ey BN h.length)).trans (Ey BN h.length)).trans (Ey BN h.length)
 obtain⟨r,h',hr,rfl,o',c',G',w',Ow,x'⟩:=Pb.ret;rw[e];exact⟨h',o',c',G',hr,w',Ow,x'⟩
end
section
variable{h h':Ah}{bi a ai:Nat}{o c t:Aa}{G G' F:Nat->Prop}{b b':BS}{x:Int}{m:Nat}
variable{nm:Ak}{av:Aa}{l:List A7}{r:List Aa}{sp p:Int}{e:C1}{at_ mk last:Int}{anc far:Item}
def dy{blk anc:Int}{far i:Nat}{l:Int}{mk:Nat}:(BS.Ig blk anc far i b l mk).1.AL.length<=b.AL.length:=by
 have h1:(BB b.AL i).length<=b.AL.length:=C0.length_le;unfold BS.Ig;simp only
 split;.exact h1
 .split;.exact h1
  .have Qu:∀nm l p,(b.Fz nm l 1 p).AL=b.AL:=λnm l p=>by unfold BS.Fz;rw[Af Mh]
   simp only[Qu,BY];exact Ab _
def ZN{blk anc:Int}{far k m:Nat}:∀{c:Nat} {s:BS×Int×Nat},Cd s.1 (m+4*c)->Cd (BS.Pu blk anc far k c s).1 m/\(BS.Pu blk anc far k c s).1.AL.length<=s.1.AL.length
 |0,s,r=>⟨r.le Ac,Ab _⟩
 |c+1,s,r=>by have d:=XI (blk:=blk) (anc:=anc) (far:=far) (i:=k+(c+1)) (l:=s.2.1) (mk:=s.2.2) (m:=m+4*c) (r.le Ac);have h:=ZN (blk:=blk) (anc:=anc) (far:=far) (k:=k) (m:=m) (c:=c) (s:=BS.Ig blk anc far (k+(c+1)) s.1 s.2.1 s.2.2) d;exact⟨h.1,Bp h.2 dy⟩
def kC{fe:Cp}{blk anc:Int}{s:BS×Int×Nat}(r:Cd s.1 (m+4))(Rc:fe.name.length<=1000/\EM fe.Av):Cd (BS.Kq fe blk anc s) m/\(BS.Kq fe blk anc s).AL.length<=s.1.AL.length+1:=by
 unfold BS.Kq;simp only
 generalize tD:s.1.place anc=pb;have j:=r.IH (LF (x:=s.2.1) (p:=pb.1) (bf:=pb.2));generalize Qm:({s.1 with a:=s.1.a.HU s.2.1 pb.1 pb.2}:BS)=b2 at j;have rK:b2.AL=s.1.AL:=by rw[<-Qm]
 have d:=Lw (m:=m+1) (nm:=fe.name) (l:=fe.Av) (sp:=1) (p:=blk) (j.le Ac) Rc.2;have Qu:(b2.Fz fe.name fe.Av 1 blk).AL=b2.AL:=by unfold BS.Fz;rw[Af Mh]
 have g:(b2.JP fe.name fe.Av 1).name.length<=1000:=Pv Rc.1;generalize b2.Fz fe.name fe.Av 1 blk=b3 at*;generalize b2.JP fe.name fe.Av 1=n at*;have q:=d.IH ((QF (n:=n.node) (l:=(b3.a.nd blk).Bw)).trans (Ks (p:=blk) (x:=n.node) (bf:=0)));have MG:∀{U:Type} (l:List U) (k:Nat) (y:U),(l.take k++y::l.drop k).length=l.length+1/\∀z∈l.take k++y::l.drop k,z∈l\/z=y:=λl k y=>⟨by rw[Ap,AJ,AB,Bj];omega,λz hz=>by
  rcases Aq.1 hz with hz|hz
  .exact .inl (A4 hz)
  .rcases AE.1 hz with rfl|hz
   .exact .inr rfl
   .exact .inl (Bu hz)⟩
 have hr:=Gv (n:=fe.node) (l:=b3.AL);have hd:=C0 (l:=b3.AY) (k:=(FC fe.node b3.AY).toNat);have f:=q.le (m':=m) Ac;refine⟨⟨f.n,f.at_,f.data,?_,?_,f.tm,λe he=>?_,λi hi=>?_⟩,?_⟩;.simp only[(MG _ _ _).1];have:=hr.length_le;have:=d.AL;omega
 .simp only[(MG _ _ _).1];have:=hd.length_le;have:=d.AY;omega
 .rcases(MG _ _ _).2 e he with he|rfl
  .exact d.C5 e (hd.subset he)
  .exact Rc
 .rcases(MG _ _ _).2 i hi with hi|rfl
  .exact d.ZG i (hr.subset hi)
  .exact g
 .simp only[(MG _ _ _).1];have h1:=hr.length_le;have h2:=B5 List.length (Qu.trans rK);omega
def XL(r:Cd b (m+4*b.AL.length+10))(nm:Ak):Cd (b.round nm).2 m/\(b.round nm).2.AL.length<=b.AL.length+1:=by
 have d:Cd b m:=r.le Ac;unfold BS.round;simp only
 split
 .have key:(b.Dw nm).a=b.a/\List.Sublist (b.Dw nm).AL b.AL/\(b.Dw nm).AY=b.AY/\(b.Dw nm).tm=b.tm:=by
   unfold BS.Dw;split
   .split;.exact⟨rfl,Hk.trans Ct,rfl,rfl⟩
    .exact⟨rfl,AD _,rfl,rfl⟩
   .exact⟨rfl,AD _,rfl,rfl⟩
  exact⟨d.sub key.1 key.2.1 (by rw[key.2.2.1];exact AD _) (by rw[key.2.2.2];exact Ab _),Bp key.2.1.length_le (Fm _)⟩
 .rename_i hf;obtain⟨f,Im,g⟩:=XK (TX.1 hf);have ue:b.AY.getD (Fj nm b.AY).toNat Cp.zero=b.AY[f]:=by rw[g,BH,AP,Au Im];rfl
  have Rc:=r.C5 _ (A5 Im);rw[ue];split;.exact⟨d.sub rfl (AD _) C0 (Ab _),Fm _⟩
  .split;.exact⟨d,Fm _⟩
   .split;.exact⟨d.sub rfl Hk C0 (Ab _),Bp Hk.length_le (Fm _)⟩
    .rename_i hk _ hfa;have hlt:(Et b.AY[f].node b.AL).toNat-1 -(AX (BU b.AY[f].node) b.AL).toNat<=b.AL.length:=by
      rw[Mw];split;.omega
      .unfold Gk;split;.rename_i j hj;have:=(KC.1 hj).1;rw[Bj] at this;omega
       .omega
     have h1:=ZN (blk:=(b.AL.getD (Et b.AY[f].node b.AL).toNat Item.zero).node) (anc:=(b.AL.getD ((AX (BU b.AY[f].node) b.AL).toNat-1) Item.zero).node) (far:=(Et b.AY[f].node b.AL).toNat) (k:=(AX (BU b.AY[f].node) b.AL).toNat) (m:=m+4) (c:=(Et b.AY[f].node b.AL).toNat-1 -(AX (BU b.AY[f].node) b.AL).toNat) (s:=(b,(b.AL.getD (Et b.AY[f].node b.AL).toNat Item.zero).node,(Fj nm b.AY).toNat)) (r.le Ac);have h2:=kC (fe:=b.AY[f]) (blk:=(b.AL.getD (Et b.AY[f].node b.AL).toNat Item.zero).node) (anc:=(b.AL.getD ((AX (BU b.AY[f].node) b.AL).toNat-1) Item.zero).node) h1.1 Rc;exact⟨h2.1,Bp h2.2 (Nat.succ_le_succ h1.2)⟩
def MB:∀{n:Nat} {b:BS} {k:Nat},b.AL.length<=k->Cd b (m+n*(4*(k+n)+10))->Cd (BS.Hn n b nm) m/\(BS.Hn n b nm).AL.length<=k+n
 |0,b,k,hk,r=>⟨r.le Ac,hk⟩
 |n+1,b,k,hk,r=>by
  have e:(n+1)*(4*(k+(n+1))+10)=n*(4*(k+1+n)+10)+(4*(k+(n+1))+10):=by rw[BE,Eh,(Ac:k+(n+1)=k+1+n)]
  rw[e] at r;have h1:=XL (m:=m+n*(4*(k+1+n)+10)) (r.le Ac) nm;unfold BS.Hn;simp only
  split;.have h2:=MB (n:=n) (k:=k+1) Ac h1.1;exact⟨h2.1,Ac⟩
  .exact⟨h1.1.le Ac,Ac⟩
def aG8(w:BX h bi a o c t G b)(hc:Dj b.AY c)(ok:E6 b)(rm:Cd b (m+8*(4*(b.AL.length+8)+10)))(nm:Ak):
  ∃h' o' c' G',Ca cx 49 [Pt bi 0,.str nm] h (.tuple []) h'/\BX h' bi a o' c' t G' (b.DN nm)/\Dj (b.DN nm).AY c'/\Ew h (BM bi G) h' (BM bi G'):=by
 have ho:=rm.AL;have D:=aCO w rm;have em:Ay (.Cl 1) [.str nm]=some (.sl 1 ([nm].map Cc)):=Es (ws:=[nm]) rfl Ax;have r2:Ca cx 100 [.agg (E4 b.AL).row,.sl 1 ([nm].map Cc)] h (.bool (Bf [nm] (E4 b.AL))) h:=pI (ws:=[nm]) CO Ax _ h;have K:=hc.at w rm (E4 b.AL).node;have J:b.IQ.AY=b.AY:=by unfold BS.IQ;split<;>rfl
 by_cases h1:Bf [nm] (E4 b.AL)=true/\FC (E4 b.AL).node b.AY<0
 .obtain⟨h2,v,N,s,q⟩:=ã w rm;have e:b.DN nm=b.IQ:=by unfold BS.DN;rw[Af h1]
  rw[e];refine⟨h2,v,c,G,?_,s,by rw[J];exact hc,q⟩;rw[h1.1] at r2;rw[Ae,oU,t49];simp only[abS,JB,(HV w).Ad,D.Ad,em,r2.Ad,K.Ad,h1.2,N.Ad]
 have e:b.DN nm=BS.Hn 8 b nm:=by unfold BS.DN;rw[Ag h1]
 rw[e];have Pb:Ev cx 49 [Pt bi 0,.str nm] h λr h'=>r= .tuple []/\∃o' c' G',BX h' bi a o' c' t G' (BS.Hn 8 b nm)/\Dj (BS.Hn 8 b nm).AY c'/\Ew h (BM bi G) h' (BM bi G'):=by
  unfold Ev;rw[oU,t49];have ID:∀(Q:Kj) (k:FO->List Aa->IT),(∀x vs h1,(x= .exit 0\/x= .ret)->(∃o' c' G',BX h1 bi a o' c' t G' (BS.Hn 8 b nm)/\Dj (BS.Hn 8 b nm).AY c'/\Ew h (BM bi G) h1 (BM bi G'))->W cx (k x vs) Q h1)->
    W cx (.loop 5 [I 0] (λd=> .op (.int .lss) [g d 0,I 8] λv14=> .AH v14 (.call 122 [Pt bi 0,.str nm] λC=> .op (.un .not) [C] λv16=> .AH v16 (.ret .ret [g d 0]) (.op (.int .add) [g d 0,I 1] λB=> .ret .normal [B])) (.ret (.exit 0) [g d 0])) k) Q h:=by
   intro Q k hk;refine B1 (λn:Nat=>[I ((8 -n:Nat):Int)]) (λn h1=>n<=8/\∃H y z b1,BX h1 bi a H y t z b1/\Dj b1.AY y/\E6 b1/\Cd b1 (m+n*(4*(b.AL.length+8)+10))/\b1.AL.length<=b.AL.length+(8 -n)/\BS.Hn 8 b nm=BS.Hn n b1 nm/\Ew h (BM bi G) h1 (BM bi z)) (λn=>n) 8 rfl ⟨Ab _,o,c,G,b,w,hc,ok,rm,Ac,rfl,.refl⟩ ?_;rintro n h1 ⟨hn,H,y,z,b1,w1,Yk,ZI,f,fD,j,A⟩;cases n with
   |zero=>simp only[abS,(AI:¬((8 -0:Nat):Int)<8)];exact hk _ _ _ (.inl rfl) ⟨H,y,z,by rw[j];exact w1,by rw[j];exact Yk,A⟩
   |succ n=>
    have hsp:(n+1)*(4*(b.AL.length+8)+10)=n*(4*(b.AL.length+8)+10)+(4*(b.AL.length+8)+10):=by rw[BE,Eh]
    rw[hsp] at f;have aG9:Cd b1 (m+n*(4*(b.AL.length+8)+10)+4*b1.AL.length+10):=f.le Ac;obtain⟨h2,v,L,M,u,s,K9,q⟩:=aLB w1 Yk ZI aG9 nm;obtain⟨pJ,lK⟩:=XL aG9 nm;have E:=(jI (nm:=nm) ZI).1;have hlt:((8 -(n+1):Nat):Int)<8:=Ac;have inc:Ay (.int .add) [I ((8 -(n+1):Nat):Int),I 1]=some (I ((8 -n:Nat):Int)):=by have:=CR (n:=8 -(n+1)) Ac;rwa [(Ac:8 -(n+1)+1=8 -n)] at this
    have i:BS.Hn (n+1) b1 nm=if(b1.round nm).1 then BS.Hn n (b1.round nm).2 nm else(b1.round nm).2:=rfl
    cases hr:(b1.round nm).1 with
    |true=>rw[hr] at u i;simp only[abS,hlt,u.Ad,inc];exact By.next n rfl ⟨Ac,v,L,M,_,s,K9,E,pJ,Ac,j.trans i,A.trans q⟩ Ac
    |false=>rw[hr] at u i;simp only[abS,hlt,u.Ad];exact hk _ _ _ (.inr rfl) ⟨v,L,M,by rw[j,i];exact s,by rw[j,i];exact K9,A.trans q⟩
  by_cases h2:Bf [nm] (E4 b.AL)=true
  .have O:¬FC (E4 b.AL).node b.AY<0:=λh=>h1 ⟨h2,h⟩;rw[h2] at r2;simp only[abS,JB,(HV w).Ad,D.Ad,em,r2.Ad,K.Ad,O];refine ID _ _ ?_;rintro x vs h1 (rfl|rfl) ⟨o',c',G',a1,a2,a3⟩;.simp only[Ci];exact⟨_,rfl,rfl,o',c',G',a1,a2,a3⟩
   .simp only[Ci];exact⟨_,rfl,rfl,o',c',G',a1,a2,a3⟩
  .have h2:Bf [nm] (E4 b.AL)=false:=by simpa using h2
   rw[h2] at r2;simp only[abS,JB,(HV w).Ad,D.Ad,em,r2.Ad];refine ID _ _ ?_;rintro x vs h1 (rfl|rfl) ⟨o',c',G',a1,a2,a3⟩;.simp only[Ci];exact⟨_,rfl,rfl,o',c',G',a1,a2,a3⟩
   .simp only[Ci];exact⟨_,rfl,rfl,o',c',G',a1,a2,a3⟩
 obtain⟨r,h',hr,rfl,o',c',G',w',Ow,x'⟩:=Pb.ret;exact⟨h',o',c',G',hr,w',Ow,x'⟩
end
structure dz where
 k:Int
 name:Ak
 Av:List A7
 A9:Int
 a:Int
 b:Bool
 s:Ak
 r:Int
 n:Int
def Np(h:Int):Item:=⟨h,0,[],false⟩
def d_(b:BS)(q:dz):BS×Item:=
 if q.k=1 then(b.E5 q.name q.Av 1,Np (b.a.len+1))
 else if q.k=2 then(b.E5 q.name q.Av q.A9,Np (b.No q.A9))
 else if q.k=3 then(b.Hm q.name q.Av,Np (b.a.len+1))
 else if q.k=4 then(b.OM q.r,Item.zero)
 else if q.k=5 then(b.DM q.s q.a,Item.zero)
 else if q.k=6 then(b.Eu q.name q.Av q.n,Item.zero)
 else if q.k=7 then(b.CD,Item.zero)
 else if q.k=8 then(b.Bg,Item.zero)
 else if q.k=9 then(b.Dw q.name,Item.zero)
 else if q.k=10 then(b.DN q.name,Item.zero)
 else if q.k=11 then(b.IY,Item.zero)
 else if q.k=12 then(b.GM q.Av q.a,Item.zero)
 else if q.k=13 then(b.De,Item.zero)
 else if q.k=14 then({b with stop:=true},Item.zero)
 else if q.k=15 then({b with F5:=q.b},Item.zero)
 else if q.k=16 then({b with tm:=b.tm++[q.n]},Item.zero)
 else if q.k=17 then({b with AY:=b.AY++[Cp.zero]},Item.zero)
 else if q.k=18 then(b.IQ,b.oI)
 else if q.k=19 then({b with head:=q.a},Item.zero)
 else if q.k=20 then({b with mode:=q.n},Item.zero)
 else if q.k=21 then({b with AY:=FD b.AY},Item.zero)
 else if q.k=22 then({b with AL:=DV Db (Bf [q.name]) b.AL},Item.zero)
 else if q.k=23 then({b with HQ:=q.a},Item.zero)
 else if q.k=24 then(b.Fz q.name q.Av q.A9 q.a,b.JP q.name q.Av q.A9)
 else(b,Item.zero)
structure í(q:dz):Prop where
 name:q.name.length<=1000
 Av:EM q.Av
 s:q.s.length<=1000
 r: -2147483648<=q.r/\q.r<=2147483647
section
variable{b:BS}{q:dz}{m j:Nat}
def aC3(o:E6 b){nm:Ak}{l:List A7}{sp p:Int}:E6 (b.Fz nm l sp p):=by
 by_cases hs:BS.Lu sp;.exact(Uv o hs).1
 .unfold BS.Fz;rw[Ag hs];exact o
def yB(o:E6 b):E6 {b with AY:=b.AY++[Cp.zero]}:=by have:=o.aAv (e:=Cp.zero) (k:=b.AY.length) (.inl rfl) (.inl rfl);rw[BZ,GQ] at this;exact this
def Eb{U:Type}{P:U->Prop}{c:Prop}[Decidable c]{x y:U}(h1:P x)(h2:P y):P (if c then x else y):=by split;exact h1;exact h2
def kD{P:BS×Item->Prop}(h1:P (b.E5 q.name q.Av 1,Np (b.a.len+1)))(h2:P (b.E5 q.name q.Av q.A9,Np (b.No q.A9)))(B:P (b.Hm q.name q.Av,Np (b.a.len+1)))(A:P (b.OM q.r,Item.zero))(z:P (b.DM q.s q.a,Item.zero))(y:P (b.Eu q.name q.Av q.n,Item.zero))(x:P (b.CD,Item.zero))(w:P (b.Bg,Item.zero))(v:P (b.Dw q.name,Item.zero))(YE:P (b.DN q.name,Item.zero))(bE:P (b.IY,Item.zero))(u:P (b.GM q.Av q.a,Item.zero))(t:P (b.De,Item.zero))(p:P ({b with stop:=true},Item.zero))(o:P ({b with F5:=q.b},Item.zero))(l:P ({b with tm:=b.tm++[q.n]},Item.zero))(k:P ({b with AY:=b.AY++[Cp.zero]},Item.zero))(i:P (b.IQ,b.oI))(h:P ({b with head:=q.a},Item.zero))(g:P ({b with mode:=q.n},Item.zero))(f:P ({b with AY:=FD b.AY},Item.zero))(e:P ({b with AL:=DV Db (Bf [q.name]) b.AL},Item.zero))(d:P ({b with HQ:=q.a},Item.zero))(c:P (b.Fz q.name q.Av q.A9 q.a,b.JP q.name q.Av q.A9))(h0:P (b,Item.zero)):P (d_ b q):=by unfold d_;exact Eb h1 (Eb h2 (Eb B (Eb A (Eb z (Eb y (Eb x (Eb w (Eb v (Eb YE (Eb bE (Eb u (Eb t (Eb p (Eb o (Eb l (Eb k (Eb i (Eb h (Eb g (Eb f (Eb e (Eb d (Eb c (h0))))))))))))))))))))))))
def aC4(o:E6 b):E6 (d_ b q).1:=kD (P:=λr=>E6 r.1) (Rb (nm:=q.name) (at_:=q.Av) (sp:=1) o) (Rb o) (ZC o) (sZ o) (Xk o) (oP o) (cu o) (Xm o) (ZD o) (ZF o) (Sk o) (jG o) (Xl o) (o.of_eq rfl rfl rfl rfl) (o.of_eq rfl rfl rfl rfl) (o.of_eq rfl rfl rfl rfl) (yB o) (oj o) (o.of_eq rfl rfl rfl rfl) (o.of_eq rfl rfl rfl rfl) (o.jD (Ch _ _)) (o.II Ct) (o.of_eq rfl rfl rfl rfl) (aC3 o) o
def Cd.yC{k m:Nat}{h:Int}{x:GL}(r:Cd b (m+k))(h1:x.Av.length<=(b.a.nd h).Av.length+k\/x.Av.length<=1000)(h2:x.data.length<=(b.a.nd h).data.length+k\/x.data.length<=100000):Cd {b with a:=b.a.set h x} m:=by
 have hn:(b.a.set h x).n.length=b.a.n.length:=by have:=A_ (A:=b.a) (h:=h) (x:=x);unfold Ar.len at this;omega
 have c:=r.le (m':=m) Ac;have rn:=r.n;refine⟨by simp only;rw[hn];exact c.n,λy=>?_,λy=>?_,c.AL,c.AY,c.tm,c.C5,c.ZG⟩
 .simp only;rw[JO];split;.rename_i d;have:=r.at_ h;omega
  .exact c.at_ y
 .simp only;rw[JO];split;.have:=r.data h;omega
  .exact c.data y
def Uy{m:Nat}{s:Ak}{p bf:Int}(r:Cd b (m+5))(hs:s.length<=4):Cd {b with a:=BS.Ra b.a s p bf} m:=by
 have M5:∀d,Cd {b with a:=(b.a.add {kind:=5,Cy:=d,data:=s}).HU (b.a.len+1) p bf} m:=λd=>((r.le (m':=m+1) Ac).FQ (KW (Bd _) Hb)).IH LF
 have c:=r.le (m':=m) Ac;unfold BS.Ra;split
 .split
  .split;.exact Cd.yC (k:=5) r (.inl Hb) (.inl (by simp only[Ap];omega))
   .exact M5 _
  .exact M5 _
 .exact c
def JU{m:Nat}{s:Ak}{p bf:Int}(r:Cd b (m+5))(hs:s.length<=100000):Cd {b with a:=BS.Iy b.a s p bf} m:=by
 unfold BS.Iy;split;.exact((r.le (m':=m+1) Ac).FQ (KW (Bd _) hs)).IH LF
 .exact r.le Ac
end
section
variable{b:BS}{q:dz}{m j:Nat}{nm:Ak}
def XM{l:List A7}{x:Int}(r:Cd b (m+1000))(hl:l.length<=1000):Cd (b.GM l x) m:=by
 unfold BS.GM;split;.refine Cd.yC (k:=1000) r (.inl ?_) (.inl Hb);have:=Sf (l:=(b.a.nd x).Av++BS.plain l);rw[Ap,BS.plain,As] at this;unfold BS.plain;simp only;omega
 .exact r.le Ac
def ZO:∀{l:List Cp} {b:BS},(BS.Lv l b).2.AL.length<=b.AL.length+l.length/\(BS.Lv l b).2.AY=b.AY/\(BS.Lv l b).1.length=l.length/\∀e∈(BS.Lv l b).1,∃a∈l,e.name=a.name/\e.Av=a.Av
 |[],b=>⟨by simp[BS.Lv],rfl,rfl,λe he=>by simp[BS.Lv] at he⟩
 |e::l,b=>by
  obtain⟨h1,h2,g,f⟩:=ZO (l:=l) (b:=b.E5 e.name e.Av 1);have i:(b.E5 e.name e.Av 1).AL.length<=b.AL.length+1:=by
   unfold BS.E5;rw[Af Mh];simp only
   have:(b.Fz e.name e.Av 1 (b.place 0).1).AL=b.AL:=by unfold BS.Fz;rw[Af Mh]
   rw[Ap,Bc];first|(rw[this];exact Ab _)|exact Ab _
  rw[BS.Lv];refine⟨by simp only[AJ];omega,by simp only;rw[h2,E7],by simp only[AJ,g],λh he=>?_⟩;rcases AE.1 he with rfl|he
  .exact⟨e,Ax,rfl,rfl⟩
  .obtain⟨a,d,c⟩:=f h he;exact⟨a,by simp[d],c⟩
def SB(r:Cd b (m+4*b.AY.length)):Cd b.Bg m/\b.Bg.AL.length<=b.AL.length+b.AY.length/\b.Bg.AY.length=b.AY.length:=by
 have hk:=dQ (b:=b);have a:=ZM (l:=b.AY.drop b.ON) (b:=b) (m:=m) (r.le (by rw[Bj];omega)) λe he=>r.C5 e (Bu he);obtain⟨h1,h2,c,h⟩:=ZO (l:=b.AY.drop b.ON) (b:=b);rw[Bj] at h1 c;have hl:b.Bg.AY.length=b.AY.length:=by unfold BS.Bg;simp only[Ap,AB,c];omega
 refine⟨⟨a.n,a.at_,a.data,a.AL,?_,a.tm,λe he=>?_,a.ZG⟩,by unfold BS.Bg;simp only;omega,hl⟩;.rw[hl];have:=r.AY;omega
 .unfold BS.Bg at he;simp only at he;rcases Aq.1 he with he|he
  .exact r.C5 e (A4 he)
  .obtain⟨i,g,f,d⟩:=h e he;rw[f,d];exact r.C5 i (Bu g)
def kE{blk anc:Int}{far k:Nat}:∀{c:Nat} {s:BS×Int×Nat},(BS.Pu blk anc far k c s).1.AY.length<=s.1.AY.length
 |0,s=>Ab _
 |c+1,s=>by
  refine Bp (kE (c:=c)) ?_;unfold BS.Ig;simp only
  split;.exact Ab _
  .split;.exact C0.length_le
   .have:∀nm l p,(s.1.Fz nm l 1 p).AY=s.1.AY:=λnm l p=>by unfold BS.Fz;rw[Af Mh]
    simp only[this,BY];exact Ab _
def ee:(b.round nm).2.AY.length<=b.AY.length+1:=by
 unfold BS.round;simp only
 split
 .have:(b.Dw nm).AY=b.AY:=by
   unfold BS.Dw;split;.split<;>rfl
   .rfl
  rw[this];omega
 .split;.exact Bp C0.length_le (Fm _)
  .split;.exact Fm _
   .split;.exact Bp C0.length_le (Fm _)
    .unfold BS.Kq;simp only
     generalize hs:BS.Pu _ _ _ _ _ _=s;have h1:s.1.AY.length<=b.AY.length:=by rw[<-hs];exact kE
     have:∀(b2:BS) nm l p,(b2.Fz nm l 1 p).AY=b2.AY:=λb2 nm l p=>by unfold BS.Fz;rw[Af Mh]
     simp only[this,Ap,AJ,AB,Bj];have h2:∀k,(BB s.1.AY k).length<=s.1.AY.length:=λk=>C0.length_le;refine Bp (m:=(BB s.1.AY (FC (b.AY.getD (Fj nm b.AY).toNat Cp.zero).node s.1.AY).toNat).length+1) ?_ (Nat.succ_le_succ (Bp (h2 _) h1));omega
def Rk:∀{n:Nat} {b:BS},(BS.Hn n b nm).AY.length<=b.AY.length+n
 |0,b=>Ab _
 |n+1,b=>by
  have h:=ee (b:=b) (nm:=nm);unfold BS.Hn;simp only
  split;.have:=Rk (n:=n) (b:=(b.round nm).2);omega
  .omega
structure Sz(b:BS)(j:Nat):Prop where
 rm:Cd b (5000000*j)
 AL:b.AL.length+1200*j<=125000
 AY:b.AY.length+10*j<=1100
def Sz.of{b':BS}(h:Sz b (j+1))(r:Cd b' (5000000*j))(h1:b'.AL.length<=b.AL.length+1200)(h2:b'.AY.length<=b.AY.length+10):Sz b' j:=⟨r,by have:=h.AL;omega,by have:=h.AY;omega⟩
def Sz.pO{k:Nat}(h:Sz b (j+1))(hk:k<=5000000:=by omega):Cd b (5000000*j+k):=h.rm.le Ac
def Sz.OO{b':BS}(h:Sz b (j+1))(ha:b'.a=b.a)(ho:b'.AL.Sublist b.AL)(hc:b'.AY.Sublist b.AY)(ht:b'.tm.length<=b.tm.length):Sz b' j:=
 h.of ((h.rm.le Ac).sub ha ho hc ht) (by have:=ho.length_le;omega) (by have:=hc.length_le;omega)
def Sz.IQ(h:Sz b (j+1)):Sz b.IQ j:=by
 unfold BS.IQ;split;.exact h.OO rfl (AD _) (AD _) (Ab _)
 .exact h.OO rfl (Ch _ _) (AD _) (Ab _)
def SC{l:List A7}{sp:Int}:(b.E5 nm l sp).AL.length<=b.AL.length+1200:=by
 unfold BS.E5;split
 .rename_i hs;have:(b.Fz nm l sp (b.place 0).1).AL=b.AL:=by unfold BS.Fz;rw[Af hs]
  have:=B5 List.length this;simp only[Ap,Bc];omega
 .omega
def pP{l:List A7}:(b.Hm nm l).AY.length<=b.AY.length+10:=by
 unfold BS.Hm;simp only
 obtain⟨l',h1,h2⟩:=Si (l:=(b.E5 nm l 1).AY) (e:=⟨b.a.len+1,nm,l⟩);rw[h2,Ap,Bc];have:=h1.length_le;rw[E7] at this;omega
def aC5(h:Sz b (j+1))(hq:í q):Sz (d_ b q).1 j:=kD (P:=λr=>Sz r.1 j)
 (h.of (JR (sp:=1) h.pO hq.Av hq.name) SC (by rw[E7];omega))
 (h.of (JR h.pO hq.Av hq.name) SC (by rw[E7];omega))
 (h.of (Uw h.pO hq.Av hq.name) SC pP)
 (h.of (Uy h.pO (XF _)) (FG _ _) (FG _ _))
 (by
  dsimp only;unfold BS.DM;split;.exact h.of (JU h.pO (by have:=hq.s;omega)) (FG _ _) (FG _ _)
  .exact h.of (JU h.pO (by have:=hq.s;omega)) (FG _ _) (FG _ _))
 (h.of ((JR h.pO hq.Av hq.name).eq rfl rfl rfl rfl) SC (by show(b.E5 q.name q.Av 1).AY.length<=_;rw[E7];omega))
 (by
  dsimp only;unfold BS.CD;split;.exact h.OO rfl (Ct.trans Ct) (AD _) (Ab _)
  .exact h.OO rfl (AD _) (AD _) (Ab _))
 (by dsimp only;have h1:=SB (m:=5000000*j) (h.rm.le (by have:=h.AY;omega));exact h.of h1.1 (by have:=h.AY;have:=h1.2.1;omega) (by rw[h1.2.2];omega))
 (by
  dsimp only;unfold BS.Dw;split
  .split;.exact h.OO rfl (Hk.trans Ct) (AD _) (Ab _)
   .exact h.OO rfl (AD _) (AD _) (Ab _)
  .exact h.OO rfl (AD _) (AD _) (Ab _))
 (by
  dsimp only;unfold BS.DN;split;.exact h.IQ
  .have h1:=MB (n:=8) (b:=b) (k:=b.AL.length) (nm:=q.name) (m:=5000000*j) (Ab _) (h.rm.le (by have:=h.AL;omega));exact h.of h1.1 (by have:=h1.2;omega) (by have:=Rk (n:=8) (b:=b) (nm:=q.name);omega))
 (h.OO rfl (AD _) (AD _) (Ab _))
 (by
  dsimp only;have e:(b.GM q.Av q.a).AL=b.AL/\(b.GM q.Av q.a).AY=b.AY:=by unfold BS.GM;split<;>exact⟨rfl,rfl⟩
  exact h.of (XM (m:=5000000*j) (h.rm.le Ac) hq.Av.1) (by rw[e.1];omega) (by rw[e.2];omega))
 (by
  dsimp only;unfold BS.De;split;.exact h.OO rfl (AD _) (AD _) (Ab _)
  .exact h.OO rfl (show(DV Db (Bf [Bb]) (DV DQ Db b.AL)).Sublist b.AL from Ct.trans Ct) (Ch _ _) (Ax:b.tm.dropLast.length<=b.tm.length))
 (h.OO rfl (AD _) (AD _) (Ab _))
 (h.OO rfl (AD _) (AD _) (Ab _))
 (by dsimp only;have r:=h.rm.le (m':=5000000*j+1) Ac;have c:=r.le (m':=5000000*j) Ac;exact h.of ⟨c.n,c.at_,c.data,c.AL,c.AY,by have:=r.tm;simp only[Ap,Bc];omega,c.C5,c.ZG⟩ (FG _ _) (FG _ _))
 (by
  dsimp only;refine h.of ((h.rm.le (m':=5000000*j+1) Ac).tF (e:=Cp.zero) Ax (λe he=>?_) ⟨AI,AI,λa ha=>by cases ha⟩) (FG _ _) Ax;rcases Aq.1 he with he|he
  .exact .inl he
  .exact .inr (by simpa using he))
 (h.IQ)
 (h.OO rfl (AD _) (AD _) (Ab _))
 (h.OO rfl (AD _) (AD _) (Ab _))
 (h.OO rfl (AD _) (Ch _ _) (Ab _))
 (h.OO rfl Ct (AD _) (Ab _))
 (h.OO rfl (AD _) (AD _) (Ab _))
 (by
  dsimp only;have e:(b.Fz q.name q.Av q.A9 q.a).AL=b.AL/\(b.Fz q.name q.Av q.A9 q.a).AY=b.AY:=by unfold BS.Fz;split<;>exact⟨rfl,rfl⟩
  exact h.of (Lw (m:=5000000*j) (h.rm.le Ac) hq.Av) (by rw[e.1];omega) (by rw[e.2];omega))
 (h.OO rfl (AD _) (AD _) (Ab _))
end
def SD(q:dz)(av:Aa):List Aa:=[I q.k,.str q.name,av,I q.A9,I q.a,.bool q.b,.str q.s,.int .i32 q.r,I q.n]
section
variable{h h':Ah}{bi a:Nat}{o c t:Aa}{G G' F:Nat->Prop}{b:BS}{x:Int}{m j:Nat}{q:dz}
variable{nm:Ak}{av:Aa}{l:List A7}{r:List Aa}{sp p:Int}
def ej(hv:A8 q.Av av)(hl:q.Av.length<=1000)(h:Ah):∃r YH,Ca cx 40 [.agg (SD q av)] h (.agg r) h/\XB q.name YH r/\A8 q.Av YH:=by have zm:AK=140737488355328:=rfl;obtain⟨u,e,hu⟩:=Bz.Po (b:=40) hv Ac;have hc:u.cells=[u]:=Bz.cells hu;refine⟨_,u,?_,⟨I 2,ff,S [],ff,S [],ff,ff,ff,S [],.int .i32 0,rfl⟩,hu⟩;rw[Ae,aAI,t40,SD];simp only[abS,Nat.reduceLeDiff,↓reduceIte,Bv,e,hc]
def aHa(i:Item)(h:Ah):Ca cx 55 [.agg i.row] h (.agg i.row) h:=by rw[Ae,aAJ,t55,Item.row];simp only[abS,Nat.reduceLeDiff,↓reduceIte,Bv]
set_option maxHeartbeats 4000000 in
def aLT(w:BX h bi a o c t G b)(hc:Dj b.AY c)(ok:E6 b)(sz:Sz b (j+1))(hq:í q)(hv:A8 q.Av av):
  ∃h' o' c' t' G',Ca cx 18 [Pt bi 0,.agg (SD q av)] h (.agg (d_ b q).2.row) h'/\BX h' bi a o' c' t' G' (d_ b q).1/\Dj (d_ b q).1.AY c'/\Ew h (BM bi G) h' (BM bi G'):=by
 unfold d_ SD;by_cases d:q.k=1;.rw[Af d];dsimp only;obtain⟨r,YH,D,hr,Gc⟩:=ej (q:=q) hv hq.Av.1 h;rw[SD] at D;obtain⟨h',o',G',r2,w',x'⟩:=dh (m:=5000000*j) w ok sz.pO hr Gc hq.Av hq.name;refine⟨h',o',c,t,G',?_,w',by rw[E7];exact hc,x'⟩;rw[Ae,Fq,S1];simp only[abS,Nat.reduceLeDiff,↓reduceIte,Bv,A6 d,D.Ad,r2.Ad];try rfl
 rw[Ag d];by_cases f:q.k=2;.rw[Af f];dsimp only;obtain⟨r,YH,D,hr,Gc⟩:=ej (q:=q) hv hq.Av.1 h;rw[SD] at D;obtain⟨h',o',G',r2,w',x'⟩:=aCQ (m:=5000000*j) w ok sz.pO hr Gc hq.Av hq.name q.A9;refine⟨h',o',c,t,G',?_,w',by rw[E7];exact hc,x'⟩;rw[Ae,Fq,S1];simp only[abS,Nat.reduceLeDiff,↓reduceIte,Bv,d,A6 f,D.Ad,r2.Ad];try rfl
 rw[Ag f];by_cases g:q.k=3;.rw[Af g];dsimp only;obtain⟨r,YH,D,hr,Gc⟩:=ej (q:=q) hv hq.Av.1 h;rw[SD] at D;obtain⟨h',o',c',G',r2,w',Ow,x'⟩:=aGx (m:=5000000*j) w hc ok sz.pO hr Gc hq.Av hq.name;refine⟨h',o',c',t,G',?_,w',Ow,x'⟩;rw[Ae,Fq,S1];simp only[abS,Nat.reduceLeDiff,↓reduceIte,Bv,d,f,A6 g,D.Ad,r2.Ad];try rfl
 rw[Ag g];by_cases i:q.k=4;.rw[Af i];dsimp only;obtain⟨h',G',r2,w',x'⟩:=aGD (m:=5000000*j) w ok sz.pO q.r hq.r;refine⟨h',o,c,t,G',?_,w',hc,x'⟩;rw[Ae,Fq,S1];simp only[abS,↓reduceIte,Bv,d,f,g,A6 i,r2.Ad];try rfl
 rw[Ag i];by_cases y:q.k=5;.rw[Af y];dsimp only;obtain⟨h',G',r2,w',x'⟩:=aGE (m:=5000000*j) w ok sz.pO q.s (by have:=hq.s;omega) q.a;refine⟨h',o,c,t,G',?_,w',hc,x'⟩;rw[Ae,Fq,S1];simp only[abS,↓reduceIte,Bv,d,f,g,i,A6 y,r2.Ad];try rfl
 rw[Ag y];by_cases z:q.k=6;.rw[Af z];dsimp only;obtain⟨r,YH,D,hr,Gc⟩:=ej (q:=q) hv hq.Av.1 h;rw[SD] at D;obtain⟨h',o',G',r2,w',x'⟩:=aCT (m:=5000000*j) w ok sz.pO hr Gc hq.Av hq.name q.n;refine⟨h',o',c,t,G',?_,w',by show Dj (b.E5 q.name q.Av 1).AY c;rw[E7];exact hc,x'⟩;rw[Ae,Fq,S1];simp only[abS,↓reduceIte,Bv,d,f,g,i,y,A6 z,D.Ad,r2.Ad];try rfl
 rw[Ag z];by_cases A:q.k=7;.rw[Af A];dsimp only;obtain⟨h',o',r2,w',x'⟩:=aGF w sz.rm;refine⟨h',o',c,t,G,?_,w',by have e:b.CD.AY=b.AY:=(by unfold BS.CD;split<;>rfl);rw[e];exact hc,x'⟩;rw[Ae,Fq,S1];simp only[abS,↓reduceIte,Bv,d,f,g,i,y,z,A6 A,r2.Ad];try rfl
 rw[Ag A];by_cases B:q.k=8;.rw[Af B];dsimp only;obtain⟨h',o',c',G',r2,w',Ow,x'⟩:=aGU (m:=5000000*j) w hc ok (sz.rm.le (by have:=sz.AY;omega));refine⟨h',o',c',t,G',?_,w',Ow,x'⟩;rw[Ae,Fq,S1];simp only[abS,↓reduceIte,Bv,d,f,g,i,y,z,A,A6 B,r2.Ad];try rfl
 rw[Ag B];by_cases C:q.k=9;.rw[Af C];dsimp only;obtain⟨h',o',r2,w',x'⟩:=aCU w sz.rm q.name;refine⟨h',o',c,t,G,?_,w',by have e:(b.Dw q.name).AY=b.AY:=(by unfold BS.Dw;split;split<;>rfl;rfl);rw[e];exact hc,x'⟩;rw[Ae,Fq,S1];simp only[abS,↓reduceIte,Bv,d,f,g,i,y,z,A,B,A6 C,r2.Ad];try rfl
 rw[Ag C];by_cases IS:q.k=10;.rw[Af IS];dsimp only;obtain⟨h',o',c',G',r2,w',Ow,x'⟩:=aG8 (m:=5000000*j) w hc ok (sz.rm.le (by have:=sz.AL;omega)) q.name;refine⟨h',o',c',t,G',?_,w',Ow,x'⟩;rw[Ae,Fq,S1];simp only[abS,↓reduceIte,Bv,d,f,g,i,y,z,A,B,C,A6 IS,r2.Ad];try rfl
 rw[Ag IS];by_cases MC:q.k=11;.rw[Af MC];dsimp only;obtain⟨h',r2,w',x'⟩:=tz w sz.rm;refine⟨h',o,c,t,G,?_,w',hc,x'⟩;rw[Ae,Fq,S1];simp only[abS,↓reduceIte,Bv,d,f,g,i,y,z,A,B,C,IS,A6 MC,r2.Ad];try rfl
 rw[Ag MC];by_cases Nq:q.k=12;.rw[Af Nq];dsimp only;obtain⟨r,YH,D,hr,Gc⟩:=ej (q:=q) hv hq.Av.1 h;rw[SD] at D;obtain⟨h',G',r2,w',x'⟩:=aGM (m:=5000000*j) w ok sz.pO hr Gc hq.Av q.a;refine⟨h',o,c,t,G',?_,w',by have e:(b.GM q.Av q.a).AY=b.AY:=(by unfold BS.GM;split<;>rfl);rw[e];exact hc,x'⟩;rw[Ae,Fq,S1];simp only[abS,↓reduceIte,Bv,d,f,g,i,y,z,A,B,C,IS,MC,A6 Nq,D.Ad,r2.Ad];try rfl
 rw[Ag Nq];by_cases Oe:q.k=13;.rw[Af Oe];dsimp only;obtain⟨h',o',c',t',r2,w',Ow,x'⟩:=aGN w hc sz.rm;refine⟨h',o',c',t',G,?_,w',Ow,x'⟩;rw[Ae,Fq,S1];simp only[abS,↓reduceIte,Bv,d,f,g,i,y,z,A,B,C,IS,MC,Nq,A6 Oe,r2.Ad];try rfl
 rw[Ag Oe];by_cases QI:q.k=14;.rw[Af QI];dsimp only;obtain⟨h',r2,w',x'⟩:=aGR w;refine⟨h',o,c,t,G,?_,w',hc,x'⟩;rw[Ae,Fq,S1];simp only[abS,↓reduceIte,Bv,d,f,g,i,y,z,A,B,C,IS,MC,Nq,Oe,A6 QI,r2.Ad];try rfl
 rw[Ag QI];by_cases TL:q.k=15;.rw[Af TL];dsimp only;have w':BX (put h bi 15 (.bool q.b)) bi a o c t G {b with F5:=q.b}:=w.put rfl rfl w.o w.t;refine⟨put h bi 15 (.bool q.b),o,c,t,G,?_,w',hc,BN⟩;rw[Ae,Fq,S1];simp only[abS,↓reduceIte,Bv,d,f,g,i,y,z,A,B,C,IS,MC,Nq,Oe,QI,A6 TL,w.st (k:=15) (v:= .bool q.b) rfl rfl];try rfl
 rw[Ag TL];by_cases Vb:q.k=16;.rw[Af Vb];dsimp only;have L:=sz.rm.tm;have zm:AK=140737488355328:=rfl;obtain⟨u,N,hu⟩:=w.t.1.Po Ac;have M:=Bz.Zw (b:=8) (a:=q.n) hu Ac;have em:Ay (.Cl 1) [I q.n]=some (.sl 1 [Cu q.n]):=rfl;have Ql:Jf (b.tm++[q.n]) (.sl 1 ((b.tm++[q.n]).map Cu)):= .mk;have w':=w.ub (Sw.gK (l:=b.tm) (m:=q.n));refine⟨put h bi 6 (.sl 1 ((b.tm++[q.n]).map Cu)),o,c,_,G,?_,w',hc,BN⟩;rw[Ae,Fq,S1];simp only[abS,↓reduceIte,Bv,d,f,g,i,y,z,A,B,C,IS,MC,Nq,Oe,QI,TL,A6 Vb,w.l6,N,em,M,w.st (k:=6) (v0:=t) rfl (Bz.cells Ql)];try rfl
 rw[Ag Vb];by_cases XN:q.k=17;.rw[Af XN];dsimp only;have Vq:=sz.rm.AY;obtain⟨fs,Jn,Qv⟩:=hc;obtain⟨u,r2,hu⟩:=f63 (h:=h) (id:=bi) (o:=3) (l:=fs) ⟨c,w.lO,Qv⟩ (by rw[<-Jn,As] at Vq;omega);have w':=w.PD (u:=u) (l:=b.AY++[Cp.zero]);have Ow:Dj (b.AY++[Cp.zero]) u:=⟨_,by rw[BP,Jn];rfl,hu⟩;refine⟨put h bi 3 u,o,u,t,G,?_,w',Ow,BN⟩;rw[Ae,Fq,S1];simp only[abS,↓reduceIte,Bv,d,f,g,i,y,z,A,B,C,IS,MC,Nq,Oe,QI,TL,Vb,A6 XN,r2.Ad];try rfl
 rw[Ag XN];by_cases Uz:q.k=18;.rw[Af Uz];dsimp only;obtain⟨h',o',r2,w',x'⟩:=ã w sz.rm;have K:=aHa b.oI h';refine⟨h',o',c,t,G,?_,w',by have e:b.IQ.AY=b.AY:=(by unfold BS.IQ;split<;>rfl);rw[e];exact hc,x'⟩;rw[Ae,Fq,S1];simp only[abS,↓reduceIte,Bv,JB,d,f,g,i,y,z,A,B,C,IS,MC,Nq,Oe,QI,TL,Vb,XN,A6 Uz,r2.Ad,K.Ad];try rfl
 rw[Ag Uz];by_cases dX:q.k=19;.rw[Af dX];dsimp only;have w':BX (put h bi 7 (I q.a)) bi a o c t G {b with head:=q.a}:=w.put rfl rfl w.o w.t;refine⟨put h bi 7 (I q.a),o,c,t,G,?_,w',hc,BN⟩;rw[Ae,Fq,S1];simp only[abS,↓reduceIte,Bv,d,f,g,i,y,z,A,B,C,IS,MC,Nq,Oe,QI,TL,Vb,XN,Uz,A6 dX,w.st (k:=7) (v:= I q.a) rfl rfl];try rfl
 rw[Ag dX];by_cases kF:q.k=20;.rw[Af kF];dsimp only;have w':=w.aCV q.n;refine⟨put h bi 4 (I q.n),o,c,t,G,?_,w',hc,BN⟩;rw[Ae,Fq,S1];simp only[abS,↓reduceIte,Bv,d,f,g,i,y,z,A,B,C,IS,MC,Nq,Oe,QI,TL,Vb,XN,Uz,dX,A6 kF,w.st (k:=4) (v:= I q.n) rfl rfl];try rfl
 rw[Ag kF];by_cases uh:q.k=21;.rw[Af uh];dsimp only;have Vq:=sz.rm.AY;obtain⟨fs,Jn,Qv⟩:=hc;obtain⟨u,r2,hu⟩:=f65 (h:=h) (id:=bi) (o:=3) (l:=fs) ⟨c,w.lO,Qv⟩ (by rw[<-Jn,As] at Vq;omega);have w':=w.PD (u:=u) (l:=FD b.AY);have Ow:Dj (FD b.AY) u:=⟨_,by rw[dN,Jn],hu⟩;refine⟨put h bi 3 u,o,u,t,G,?_,w',Ow,BN⟩;rw[Ae,Fq,S1];simp only[abS,↓reduceIte,Bv,d,f,g,i,y,z,A,B,C,IS,MC,Nq,Oe,QI,TL,Vb,XN,Uz,dX,kF,A6 uh,r2.Ad];try rfl
 rw[Ag uh];by_cases E:q.k=22;.rw[Af E];dsimp only;have ho:=sz.rm.AL;have em:Ay (.Cl 1) [.str q.name]=some (.sl 1 ([q.name].map Cc)):=Es (ws:=[q.name]) rfl Ax;obtain⟨u,r2,hu⟩:=f66 w.sO Ac (CO (ws:=[q.name])) Ax;have w':=w.Mk hu;refine⟨put h bi 2 u,u,c,t,G,?_,w',hc,BN⟩;rw[Ae,Fq,S1];simp only[abS,↓reduceIte,Bv,d,f,g,i,y,z,A,B,C,IS,MC,Nq,Oe,QI,TL,Vb,XN,Uz,dX,kF,uh,A6 E,em,r2.Ad];try rfl
 rw[Ag E];by_cases H:q.k=23;.rw[Af H];dsimp only;have w':BX (put h bi 8 (I q.a)) bi a o c t G {b with HQ:=q.a}:=w.put rfl rfl w.o w.t;refine⟨put h bi 8 (I q.a),o,c,t,G,?_,w',hc,BN⟩;rw[Ae,Fq,S1];simp only[abS,↓reduceIte,Bv,d,f,g,i,y,z,A,B,C,IS,MC,Nq,Oe,QI,TL,Vb,XN,Uz,dX,kF,uh,E,A6 H,w.st (k:=8) (v:= I q.a) rfl rfl];try rfl
 rw[Ag H];by_cases J:q.k=24;.rw[Af J];dsimp only;obtain⟨r,YH,D,hr,Gc⟩:=ej (q:=q) hv hq.Av.1 h;rw[SD] at D;obtain⟨h',G',r2,w',x'⟩:=th (m:=5000000*j) w ok sz.pO hr Gc hq.Av hq.name q.a q.A9;have K:=aHa (b.JP q.name q.Av q.A9) h';refine⟨h',o,c,t,G',?_,w',by have e:(b.Fz q.name q.Av q.A9 q.a).AY=b.AY:=(by unfold BS.Fz;split<;>rfl);rw[e];exact hc,x'⟩;rw[Ae,Fq,S1];simp only[abS,↓reduceIte,Bv,JB,d,f,g,i,y,z,A,B,C,IS,MC,Nq,Oe,QI,TL,Vb,XN,Uz,dX,kF,uh,E,H,A6 J,D.Ad,r2.Ad,K.Ad];try rfl
 rw[Ag J];refine⟨h,o,c,t,G,?_,w,hc,.refl⟩;rw[Ae,Fq,S1];simp only[abS,↓reduceIte,Bv,d,f,g,i,y,z,A,B,C,IS,MC,Nq,Oe,QI,TL,Vb,XN,Uz,dX,kF,uh,E,H,J];try rfl
end
def TM:∀l:List Int,(l.map Cu).flatten=l.map (Aa.int .i64)
 |[]=>rfl
 |x::l=>by simp[Cu,TM l]
def ń(q:Bool):Ar:={n:=[{kind:=1,Cy:=1,CS:=q}],i:=[0]}
def Ga(q:Bool):BS:={a:=ń q,Cy:=1,AL:=[],AY:=[],mode:=1,Nn:=0,tm:=[],head:=0,HQ:=0,Ps:=false,ctx:=Item.zero,fs:=true,F5:=false,cj:=[],skip:=false,sw:=0,stop:=false}
def K4(sp:Int)(nm:Ak)(l:List A7)(q:Bool):BS:=
 {(Ga q).Fz Gd [] 1 1 with a:=((Ga q).Fz Gd [] 1 1).a.HU ((Ga q).JP Gd [] 1).node 1 0,AL:=((Ga q).Fz Gd [] 1 1).AL++[(Ga q).JP Gd [] 1],Ps:=true,ctx:=⟨0,sp,nm,Iv sp nm l⟩}
def QJ(sp:Int)(nm:Ak)(l:List A7)(q:Bool):BS:=if Bf [Bb] (K4 sp nm l q).ctx then{K4 sp nm l q with tm:=[18]} else K4 sp nm l q
def kG(sp:Int)(nm:Ak)(l:List A7)(q f:Bool):BS:=if f then{(QJ sp nm l q).IY with HQ:= -1} else(QJ sp nm l q).IY
structure GF where
 Ps:Bool
 A9:Int
 name:Ak
 Av:List A7
 CS:Bool
 HQ:Bool
def GF.b(s:GF):BS:=if s.Ps then kG s.A9 s.name s.Av s.CS s.HQ else Ga s.CS
def Qo(s:GF)(av:Aa):List Aa:=[.bool s.Ps,I s.A9,.str s.name,av,.bool s.CS,.bool s.HQ]
def aC6(q:Bool):EY (ń q) 0:=by
 have h0:EY (⟨[],[]⟩:Ar) 0:=by
  have hn:∀h,¬(⟨[],[]⟩:Ar).has h:=λh d=>by have h1:=d.1;have h2:=d.2;simp at h2;omega
  exact⟨rfl,λh d=>absurd d (hn h),λh d=>absurd d (hn h),λh d=>absurd d (hn h),λh d=>absurd d (hn h),λh d=>absurd d (hn h),λh d=>absurd d (hn h),λh d=>absurd d (hn h),λh d=>absurd d (hn h),λh d=>absurd d (hn h),⟨λ_=>0,λh d=>absurd d (hn h)⟩⟩
 have hx:sQ {kind:=1,Cy:=1,CS:=q}:=by constructor<;>simp[C7,Gu]
 exact Q9 h0 hx (.inl ⟨rfl,rfl⟩) rfl rfl rfl rfl (λh=>absurd h.1 (AI:¬(1:Int)=4))
def SE(q:Bool):E6 (Ga q):=by refine⟨aC6 q,⟨⟨Ny 1,Ny 1⟩,rfl⟩,λi hi=>(nomatch hi),J3,λe he=>(nomatch he),J3⟩
def dY{q:Bool}(x:Int):(Ga q).a.nd x=if x=1 then{kind:=1,Cy:=1,CS:=q} else{}:=by
 unfold Ar.nd;by_cases h:x=1;.subst h;rfl
 .rw[Ag h,Ag];intro d;have h1:=d.1;have h2:=d.2;simp[Ga,ń] at h2;omega
def Qf(q:Bool):Sz (Ga q) 101:=by
 refine⟨⟨by simp[Ga,ń],λx=>?_,λx=>?_,by simp[Ga],by simp[Ga],by simp[Ga],λe he=>(nomatch he),λi hi=>(nomatch hi)⟩,by simp[Ga],by simp[Ga]⟩;.rw[dY];split<;>simp
 .rw[dY];split<;>simp
section
variable{h h':Ah}{bi a:Nat}{o c t:Aa}{G G' F:Nat->Prop}{b:BS}{x:Int}{m j:Nat}{q:dz}
variable{nm:Ak}{av:Aa}{l:List A7}{r:List Aa}{sp p:Int}
def aLU(h:Ah)(q:Bool):∃h1 h',Ca cx 35 [] h (Pt h.length 0) h1/\Ca cx 36 [Pt h.length 0,.bool q] h1 (I 1) h'/\PA h' h.length (h.length+1) none [⟨{kind:=1,Cy:=1,CS:=q},.slnil,.slnil,rfl⟩] (ń q)/\h'=h++[.cells [.CW (h.length+1) 0 1 13,.map none],.cells [I 1,I 0,.slnil,I 1,I 0,S [],.slnil,S [],S [],S [],.bool q,I 0,I 0]]:=by
 have zm:AK=140737488355328:=rfl;have g1:∀u:Ah,FT u 13 168 .slnil (.sl 13 [[I 1,I 0,.slnil,I 0,I 0,S [],.slnil,S [],S [],S [],.bool q,I 0,I 0]])=some (u++[.cells [I 1,I 0,.slnil,I 0,I 0,S [],.slnil,S [],S [],S [],.bool q,I 0,I 0]],.CW u.length 0 1 13):=λu=>rfl;obtain⟨d,e⟩:∃d,d=h++[Ej.cells [.slnil,.map none]]:=⟨_,rfl⟩;have A:d[h.length]?=some (.cells [.slnil,.map none]):=by rw[e];simp
 have fD:d.length=h.length+1:=by rw[e];simp
 have g2:=g1 d;rw[fD] at g2;have B:At d h.length 0 .slnil:=⟨_,A,rfl⟩;have w:(d++[Ej.cells [I 1,I 0,.slnil,I 0,I 0,S [],.slnil,S [],S [],S [],.bool q,I 0,I 0]])[h.length]?=some (.cells [.slnil,.map none]):=(An Ac).trans A;have J:(d++[Ej.cells [I 1,I 0,.slnil,I 0,I 0,S [],.slnil,S [],S [],S [],.bool q,I 0,I 0]])[h.length+1]?=some (.cells [I 1,I 0,.slnil,I 0,I 0,S [],.slnil,S [],S [],S [],.bool q,I 0,I 0]):=by rw[<-fD];simp
 have lK:(d++[Ej.cells [I 1,I 0,.slnil,I 0,I 0,S [],.slnil,S [],S [],S [],.bool q,I 0,I 0]]).length=h.length+2:=by rw[Ap,fD];rfl
 have s:d++[Ej.cells [I 1,I 0,.slnil,I 0,I 0,S [],.slnil,S [],S [],S [],.bool q,I 0,I 0]]=h++[.cells [.slnil,.map none],.cells [I 1,I 0,.slnil,I 0,I 0,S [],.slnil,S [],S [],S [],.bool q,I 0,I 0]]:=by rw[e,AQ];rfl
 generalize d++[Ej.cells [I 1,I 0,.slnil,I 0,I 0,S [],.slnil,S [],S [],S [],.bool q,I 0,I 0]]=g at*;have t2:At g h.length 0 .slnil:=⟨_,w,rfl⟩;have D:=t2.store (u:= .CW (h.length+1) 0 1 13) rfl;have z:=Ju (k:=0) (v:= .CW (h.length+1) 0 1 13) w;have n:(put g h.length 0 (.CW (h.length+1) 0 1 13))[h.length+1]?=_:=(CU Ac).trans J;have M:put g h.length 0 (.CW (h.length+1) 0 1 13)=h++[.cells [.CW (h.length+1) 0 1 13,.map none],.cells [I 1,I 0,.slnil,I 0,I 0,S [],.slnil,S [],S [],S [],.bool q,I 0,I 0]]:=by rw[HO w,s,BL _ _ (Ab _),DB];rfl
 generalize put g h.length 0 (.CW (h.length+1) 0 1 13)=f at*;have l3:Bi f none (Pt h.length 0)=some (.CW (h.length+1) 0 1 13):=At.load ⟨_,z,rfl⟩;have L:Ay (.FH 13) [.CW (h.length+1) 0 1 13,I 0]=some (.ptr (some (h.length+1,0))):=Fi (k:= .i64) (i:=0) AI;have t3:At f (h.length+1) 3 (I 0):=⟨_,n,rfl⟩;have C:=t3.store (u:=I 1) rfl;have N:(put f (h.length+1) 3 (I 1))[h.length]?=_:=(CU Ac).trans z;have H:=Ju (k:=3) (v:=I 1) n;have K:put f (h.length+1) 3 (I 1)=h++[.cells [.CW (h.length+1) 0 1 13,.map none],.cells [I 1,I 0,.slnil,I 1,I 0,S [],.slnil,S [],S [],S [],.bool q,I 0,I 0]]:=by rw[HO n,M,BL _ _ Ac,SU];rfl
 refine⟨d,put f (h.length+1) 3 (I 1),?_,?_,⟨rfl,rfl,N,H,?_,?_,.inl ⟨rfl,λk=>?_⟩⟩,K⟩;.rw[Ae,ov,t35];simp only[abS,↓reduceIte,Bv,e]
 .have E:Ca cx 95 [Pt h.length 0,.agg [I 1,I 0,.slnil,I 0,I 0,S [],.slnil,S [],S [],S [],.bool q,I 0,I 0]] d (I 1) f:=by rw[Ae,o8,t95];simp only[Ci,Nat.reduceLeDiff,↓reduceIte,Bv,bK,B.load,show Ay (.Cl 13) [.agg [I 1,I 0,.slnil,I 0,I 0,S [],.slnil,S [],S [],S [],.bool q,I 0,I 0]]=some (.sl 13 [[I 1,I 0,.slnil,I 0,I 0,S [],.slnil,S [],S [],S [],.bool q,I 0,I 0]]) from rfl,g2,D,l3,show Ay (.len false) [.CW (h.length+1) 0 1 13]=some (I 1) from rfl]
  have r2:Ca cx 96 [Pt h.length 0,I 1] f (.ptr (some (h.length+1,0))) f:=by rw[Ae,o9,t96];simp only[Ci,bK,l3,show Ay (.int .sub) [I 1,I 1]=some (I 0) from rfl,L]
  rw[Ae,oR,t36];simp only[abS,Nat.reduceLeDiff,↓reduceIte,Bv,E.Ad,r2.Ad,C]
 .intro p hp;rw[AU] at hp;subst hp;exact .inl ⟨rfl,rfl⟩
 .simp[FA,Ho]
 .unfold Ar.inr;split;.rename_i y;have h1:=y.1;have h2:=y.2;simp[ń] at h2;have:k=1:=Ac;subst this;rfl
  .rfl
def aHc(h:Ah)(q:Bool):∃h1 h2 h' bi G,Ca cx 35 [] h (Pt h.length 0) h1/\Ca cx 36 [Pt h.length 0,.bool q] h1 (I 1) h2/\Ca cx 38 [Pt h.length 0,I 1] h2 (Pt bi 0) h'/\BX h' bi h.length .slnil .slnil .slnil G (Ga q)/\Ew h (λ_=>False) h' (BM bi G):=by
 obtain⟨h1,h2,k,r2,d,g⟩:=aLU h q;obtain⟨r,t,f,K,V,rfl,s,n,_⟩:=aCI (x:=1) d ((Qf q).rm.UY) ((Qf q).rm.UY.Bw (SE q).ok 1);have hx:(ń q).has 1:=⟨Ny 1,Ny 1⟩;have e:(ń q).nd 1={kind:=1,Cy:=1,CS:=q}:=(dY (q:=q) 1).trans (Af rfl);rw[Af hx,e] at f;have wt:PA (h2++t) _ _ _ _ _:=d.DT λi hi=>An (d.lt i hi);refine⟨h1,h2,h2++t++[.cells (Oc h.length (Ga q) .slnil .slnil .slnil)],(h2++t).length,λi=>i∈FA h.length (h.length+1) none [⟨{kind:=1,Cy:=1,CS:=q},.slnil,.slnil,rfl⟩],k,r2,?_,⟨Ax,.inr ⟨rfl,rfl⟩,Sw.nil,?_,?_⟩,?_⟩;.rw[Ae,oz,t38];simp only[abS,Nat.reduceLeDiff,↓reduceIte,Bv,f.Ad,aaS];exact⟨λh=>absurd rfl h,λ_=>⟨λh=>absurd rfl h,λ_=>rfl⟩⟩
 .exact⟨_,_,_,wt.DT λi hi=>An (wt.lt i hi),λi=>Iff.rfl⟩
 .intro hm;exact absurd (wt.lt _ hm) (Dd _)
 .have Ek:h.length<=h2.length:=by rw[g];simp
  refine⟨Ed,λi hi _=>?_,λi hi=> .inr ?_⟩;.rw[AQ,An Ac,g,An hi]
  .rcases hi with rfl|hi
   .simp;omega
   .simp[FA,Ho] at hi;omega
def ui(sp:Int)(nm:Ak)(l:List A7)(q:Bool):E6 (K4 sp nm l q)/\Sz (K4 sp nm l q) 100:=by
 refine⟨?_,?_⟩
 .obtain⟨ZI,f,w⟩:=Uv (nm:=Gd) (at_:=[]) (p:=1) (SE q) Mh;have u:=ZI.IH (N5 (n:=((Ga q).JP Gd [] 1).node) (p:=1) (b:=0) ZI.ok) I7;have g:Le ((Ga q).Fz Gd [] 1 1).a (((Ga q).Fz Gd [] 1 1).a.HU ((Ga q).JP Gd [] 1).node 1 0):=I7;have ho:((Ga q).Fz Gd [] 1 1).AL=[]:=by unfold BS.Fz;rw[Af Mh];rfl
  have s:=u.K_ (i:=(Ga q).JP Gd [] 1) (k:=0) ⟨g.has _ f.has,by rw[g.kind _ f.has];exact f.kind,by rw[g.A9 _ f.has];exact f.A9,by rw[g.name _ f.has];exact f.name⟩ (by simp only[ho];simp);exact s.of_eq rfl rfl (by unfold K4;simp only[ho];rfl) rfl
 .have sz:=Qf q;have e:((Ga q).Fz Gd [] 1 1).AL=[]/\((Ga q).Fz Gd [] 1 1).AY=[]:=by unfold BS.Fz;rw[Af Mh];exact⟨rfl,rfl⟩
  have v:=Lw (m:=5000000*100+1) (nm:=Gd) (l:=[]) (sp:=1) (p:=1) (sz.rm.le Ac) ⟨AI,λa ha=>(nomatch ha)⟩;have r2:=v.IH (LF (x:=((Ga q).JP Gd [] 1).node) (p:=1) (bf:=0));have d:=r2.tE (i:=(Ga q).JP Gd [] 1) (l':=((Ga q).Fz Gd [] 1 1).AL++[(Ga q).JP Gd [] 1]) Ax (λj hj=>by simpa using hj) (Pv AI);exact⟨⟨d.n,d.at_,d.data,d.AL,d.AY,d.tm,d.C5,d.ZG⟩,by unfold K4;simp only[e.1];show 1+1200*100<=125000;decide,by unfold K4;simp only[e.2];decide⟩
def kH(sp:Int)(nm:Ak)(l:List A7)(q:Bool):E6 (QJ sp nm l q)/\Sz (QJ sp nm l q) 100:=by
 obtain⟨e,d⟩:=ui sp nm l q;unfold QJ;split;.have r:=d.rm;exact⟨e.of_eq rfl rfl rfl rfl,⟨⟨r.n,r.at_,r.data,r.AL,r.AY,Ax,r.C5,r.ZG⟩,d.AL,d.AY⟩⟩
 .exact⟨e,d⟩
def î(sp:Int)(nm:Ak)(l:List A7)(q f:Bool):E6 (kG sp nm l q f)/\Sz (kG sp nm l q f) 100:=by
 obtain⟨ī,d⟩:=kH sp nm l q;have e:Cd (QJ sp nm l q).IY (5000000*100):=d.rm.mode;unfold kG;split;.exact⟨(Sk ī).of_eq rfl rfl rfl rfl,⟨⟨e.n,e.at_,e.data,e.AL,e.AY,e.tm,e.C5,e.ZG⟩,d.AL,d.AY⟩⟩
 .exact⟨Sk ī,⟨e,d.AL,d.AY⟩⟩
def BX.aHd(w:BX h bi a o c t G b)(i:Item):∃h',CH h 4 (Pt bi 10) (.agg i.row)=some h'/\BX h' bi a o c t G {b with ctx:=i}/\Ew h (BM bi G) h' (BM bi G):=by refine⟨h.set bi (.cells (Oc a {b with ctx:=i} o c t)),?_,⟨AA w.lt,w.o,w.t,w.w.DT λj hj=>Ao λe=>w.nb (by rw[e];exact hj),w.nb⟩,⟨by rw[BY];exact Ab _,λj _ hn=>Ao λe=>hn (.inl e.symm),λ_ h=> .inl h⟩⟩;simp only[CH,w.hb];rfl
def aLW(h:Ah)(sp:Int)(nm:Ak)(hv:A8 l av)(hl:EM l)(q f q':Bool):∃h1 h2 h' bi o t G,Ca cx 35 [] h (Pt h.length 0) h1/\Ca cx 36 [Pt h.length 0,.bool q] h1 (I 1) h2/\Ca cx 37 [Pt h.length 0,I 1,.agg [I sp,.str nm,av,.bool q',.bool f]] h2 (Pt bi 0) h'/\BX h' bi h.length o .slnil t G (kG sp nm l q f)/\Ew h (λ_=>False) h' (BM bi G):=by
 obtain⟨h1,h2,h3,bi,G,O,r2,N,w,x⟩:=aHc h q;have hr:XB Gd .slnil [I 2,.str Gd,ff,S [],ff,S [],ff,ff,.slnil,ff,S [],.int .i32 0]:=⟨I 2,ff,S [],ff,S [],ff,ff,ff,S [],.int .i32 0,rfl⟩;obtain⟨h4,G4,M,w4,Z⟩:=th (m:=1000) w (SE q).ba ((Qf q).rm.le Ac) hr (l:=[]) (.inr ⟨rfl,rfl⟩) ⟨AI,λa ha=>(nomatch ha)⟩ AI 1 1;obtain⟨ī,f4,le4⟩:=Uv (nm:=Gd) (at_:=[]) (p:=1) (SE q) Mh;have T:=Lw (m:=1000) (nm:=Gd) (l:=[]) (sp:=1) (p:=1) ((Qf q).rm.le Ac) ⟨AI,λa ha=>(nomatch ha)⟩;obtain⟨B,g,L,V,Y⟩:=jU (x:=((Ga q).JP Gd [] 1).node) (p:=1) (bf:=0) w4 ī.ba T;have ho:((Ga q).Fz Gd [] 1 1).AL=[]:=by unfold BS.Fz;rw[Af Mh];rfl
 obtain⟨d,K,C⟩:=f95 V.sO (by simp only[ho];decide) ((Ga q).JP Gd [] 1);have Q:=V.Mk C;have w7:BX (put (put B bi 2 d) bi 9 tt) bi h.length d .slnil .slnil g _:=Q.put (k:=9) (v:=tt) (b':={{{(Ga q).Fz Gd [] 1 1 with a:=((Ga q).Fz Gd [] 1 1).a.HU ((Ga q).JP Gd [] 1).node 1 0} with AL:=((Ga q).Fz Gd [] 1 1).AL++[(Ga q).JP Gd [] 1]} with Ps:=true}) rfl rfl C Q.t;have H:CH (put B bi 2 d) 1 (Pt bi 9) tt=some (put (put B bi 2 d) bi 9 tt):=Q.st (k:=9) (v:=tt) (v0:= .bool ((Ga q).Fz Gd [] 1 1).Ps) rfl rfl;have J:Ca cx 99 [I sp,.str nm,av] (put (put B bi 2 d) bi 9 tt) (.bool (Iv sp nm l)) (put (put B bi 2 d) bi 9 tt):=f96 hv (λa ha=>by have:=(hl.2 a ha).2;have:AK=140737488355328:=rfl;omega) (by have:=hl.1;omega) sp nm _;obtain⟨y,s8,U,X⟩:=w7.aHd ⟨0,sp,nm,Iv sp nm l⟩;have i:BX y bi h.length d .slnil .slnil g (K4 sp nm l q):=U;have P:Ew h (λ_=>False) y (BM bi g):=((((x.trans Z).trans Y).trans BN).trans BN).trans X;clear U;have s:=i.aGK;have aRJ:(K4 sp nm l q).ctx=⟨0,sp,nm,Iv sp nm l⟩:=rfl;obtain⟨aRK,R⟩:=kH sp nm l q;have A:=pI (ws:=[Bb]) CO AI (K4 sp nm l q).ctx y;have key:∃D t9,BX D bi h.length d .slnil t9 g (QJ sp nm l q)/\Ew y (BM bi g) D (BM bi g)/\(Bf [Bb] (K4 sp nm l q).ctx=true->CH y 1 (Pt bi 6) (.sl 1 [[I 18]])=some D)/\(Bf [Bb] (K4 sp nm l q).ctx=false->D=y):=by
  by_cases u:Bf [Bb] (K4 sp nm l q).ctx=true;.have hu:Jf [18] (.sl 1 [[I 18]]):= .mk;refine⟨put y bi 6 (.sl 1 [[I 18]]),.sl 1 [[I 18]],?_,BN,λ_=>i.st (k:=6) (v0:= .slnil) rfl rfl,λh=>absurd u (by rw[h];decide)⟩;unfold QJ;rw[Af u];exact i.ub ⟨.inl hu,λe=>by injection e with _ e;simp at e⟩
  .refine⟨y,.slnil,?_,.refl,λh=>absurd h u,λ_=>rfl⟩;unfold QJ;rw[Ag u];exact i
 obtain⟨D,t9,w9,W,k1,k2⟩:=key;obtain⟨YE,xm,fG,Ń⟩:=tz w9 R.rm;have em:Ay (.Cl 1) [I 18]=some (.sl 1 [[I 18]]):=rfl;have E:Ew h (λ_=>False) YE (BM bi g):=(P.trans W).trans Ń;have hir:((Ga q).JP Gd [] 1).row=[I ((Ga q).JP Gd [] 1).node,I ((Ga q).JP Gd [] 1).A9,.str ((Ga q).JP Gd [] 1).name,.bool ((Ga q).JP Gd [] 1).Oz]:=rfl;generalize(Ga q).JP Gd [] 1=it at*;have n:CH (put (put B bi 2 d) bi 9 tt) 4 (Pt bi 10) (.agg [I 0,I sp,.str nm,.bool (Iv sp nm l)])=some y:=s8;have z:Ay (.Cl 1) [S aTv]=some (.sl 1 ([Bb].map Cc)):=xZ;cases u:Bf [Bb] (K4 sp nm l q).ctx with
 |true=>
  rw[u] at A;have uj:=k1 u;cases f with
  |true=>
   refine⟨h1,h2,put YE bi 8 (I (-1)),bi,d,t9,g,O,r2,?_,?_,E.trans BN⟩;.rw[Ae,bZ,t37];simp only[abS,Nat.reduceLeDiff,↓reduceIte,Bv,JB,N.Ad,M.Ad,L.Ad,K.Ad,H,J.Ad,n,s,z,A.Ad,em,uj,xm.Ad,fG.st (k:=8) (v:=I (-1)) rfl rfl]
   .unfold kG;rw[Af rfl];exact fG.put rfl rfl fG.o fG.t
  |false=>refine⟨h1,h2,YE,bi,d,t9,g,O,r2,?_,fG,E⟩;rw[Ae,bZ,t37];simp only[abS,Nat.reduceLeDiff,↓reduceIte,Bv,JB,N.Ad,M.Ad,L.Ad,K.Ad,H,J.Ad,n,s,z,A.Ad,em,uj,xm.Ad]
 |false=>
  rw[u] at A;have Ņ:=k2 u;subst Ņ;cases f with
  |true=>
   refine⟨h1,h2,put YE bi 8 (I (-1)),bi,d,t9,g,O,r2,?_,?_,E.trans BN⟩;.rw[Ae,bZ,t37];simp only[abS,Nat.reduceLeDiff,↓reduceIte,Bv,JB,N.Ad,M.Ad,L.Ad,K.Ad,H,J.Ad,n,s,z,A.Ad,em,xm.Ad,fG.st (k:=8) (v:=I (-1)) rfl rfl]
   .unfold kG;rw[Af rfl];exact fG.put rfl rfl fG.o fG.t
  |false=>refine⟨h1,h2,YE,bi,d,t9,g,O,r2,?_,fG,E⟩;rw[Ae,bZ,t37];simp only[abS,Nat.reduceLeDiff,↓reduceIte,Bv,JB,N.Ad,M.Ad,L.Ad,K.Ad,H,J.Ad,n,s,z,A.Ad,em,xm.Ad]
def aLX(h:Ah)(s:GF)(hv:A8 s.Av av)(hl:EM s.Av):∃h' bi a o c t G,Ca cx 17 [.agg (Qo s av)] h (Pt bi 0) h'/\BX h' bi a o c t G s.b/\Dj s.b.AY c/\Ew h (λ_=>False) h' (BM bi G):=by
 have mf:(K4 s.A9 s.name s.Av s.CS).AY=[]:=by unfold K4;simp only;unfold BS.Fz;rw[Af Mh];rfl
 cases hf:s.Ps with
 |true=>
  obtain⟨h1,h2,h',bi,o,t,G,f,r2,d,w,x⟩:=aLW h s.A9 s.name hv hl s.CS s.HQ s.CS;refine⟨h',bi,h.length,o,.slnil,t,G,?_,by unfold GF.b;rw[Af hf];exact w,?_,x⟩;.rw[Ae,ot,t17,Qo,hf];simp only[Ci,f.Ad,r2.Ad,d.Ad]
  .have e:s.b.AY=[]:=by unfold GF.b kG QJ;rw[Af hf];split<;>split<;>exact mf
   rw[e];exact⟨[],rfl,.inr ⟨rfl,rfl⟩⟩
 |false=>
  obtain⟨h1,h2,h',bi,G,f,r2,d,w,x⟩:=aHc h s.CS;have e:s.b=Ga s.CS:=by unfold GF.b;rw[Ag (by rw[hf];decide)]
  refine⟨h',bi,h.length,.slnil,.slnil,.slnil,G,?_,by rw[e];exact w,by rw[e];exact⟨[],rfl,.inr ⟨rfl,rfl⟩⟩,x⟩;rw[Ae,ot,t17,Qo,hf];simp only[Ci,f.Ad,r2.Ad,d.Ad]
def GF.ok(s:GF):E6 s.b/\Sz s.b 100:=by
 unfold GF.b;split;.exact î _ _ _ _ _
 .have h:=Qf s.CS;exact⟨SE _,⟨h.rm.le Ac,by have:=h.AL;omega,by have:=h.AY;omega⟩⟩
end
def OE(h:Ah)(lo:Nat)(v:Aa)(l:List Int):Prop:=(v= .slnil/\l=[])\/∃id,lo<=id/\v= .CW id 0 l.length 1/\h[id]?=some (.cells (l.map (Aa.int .i64)))
def UA(h:Ah)(lo:Nat)(v:Aa)(l:List Cp):Prop:=(v= .slnil/\l=[])\/∃id,∃fs:List C1,lo<=id/\v= .CW id 0 fs.length 3/\h[id]?=some (.cells (fs.map C1.row).flatten)/\fs.map (·.c)=l
section
variable{h h':Ah}{lo lo':Nat}{v:Aa}
def OE.cells{l:List Int}(hv:OE h lo v l):v.cells=[v]:=by rcases hv with⟨rfl,_⟩|⟨id,_,rfl,_⟩<;>rfl
def UA.cells{l:List Cp}(hv:UA h lo v l):v.cells=[v]:=by rcases hv with⟨rfl,_⟩|⟨id,fs,_,rfl,_⟩<;>rfl
def OE.DT{l:List Int}(hv:OE h lo v l)(hf:∀i,lo<=i->i<h.length->h'[i]?=h[i]?):OE h' lo v l:=by
 rcases hv with hv|⟨id,h1,h2,d⟩
 .exact .inl hv
 .exact .inr ⟨id,h1,h2,by rw[hf id h1 (Aj.1 d).1];exact d⟩
def UA.DT{l:List Cp}(hv:UA h lo v l)(hf:∀i,lo<=i->i<h.length->h'[i]?=h[i]?):UA h' lo v l:=by
 rcases hv with hv|⟨id,fs,h1,h2,d,e⟩
 .exact .inl hv
 .exact .inr ⟨id,fs,h1,h2,by rw[hf id h1 (Aj.1 d).1];exact d,e⟩
def OE.Su{l:List Int}(hv:OE h lo v l):MS h v l:=by
 rcases hv with⟨rfl,rfl⟩|⟨id,_,rfl,hc⟩
 .exact⟨rfl,λk hk=>by simp at hk⟩
 .refine⟨rfl,λk hlt=>⟨Pt id k,by have:=Fi (id:=id) (z:=1) (k:= .i64) hlt;rwa [F7] at this,?_⟩⟩;simp only[Bi,hc,FJ];simp[hlt]
def aHe{h u:Ah}{V:Aa}{L:List Int}(i:OE (h++u) h.length V L)(hb:L.length<=1000000000)(x:Int):∃d g,FT (h++u) 1 8 V (.sl 1 [[I x]])=some (h++d,g)/\OE (h++d) h.length g (L++[x]):=by
 have zm:AK=140737488355328:=rfl;rcases i with⟨rfl,rfl⟩|⟨id,HX,rfl,hc⟩
 .exact⟨u++[.cells [I x]],.CW (h++u).length 0 1 1,by rw[<-AQ];rfl,.inr ⟨(h++u).length,Ax,rfl,Ax⟩⟩
 .have hr:∀r∈L.map Cu,r.length=1:=LV (f:=Cu) (λ_=>rfl) L;have Ow:(h++u)[id]?=some (.cells (L.map Cu).flatten):=by rw[TM];exact hc
  have hg:=NX (b:=8) (Aw:=L.map Cu) (r2:=[[I x]]) (v:= .sl 1 [[I x]]) hr AI Ow .mk Ax (by rw[As];simp;omega);rw[As] at hg;have e:(h++u).set id .Ds++[Ej.cells (L.map Cu++[[I x]]).flatten]=h++(u.set (id-h.length) .Ds++[.cells ((L++[x]).map (Aa.int .i64))]):=by rw[BL _ _ HX,AQ,Kz,TM,BP];rfl
  rw[e] at hg;have lK:(h++(u.set (id-h.length) Ej.Ds++[.cells ((L++[x]).map (Aa.int .i64))]))=(h++u.set (id-h.length) Ej.Ds)++[.cells ((L++[x]).map (Aa.int .i64))]:=by rw[AQ]
  have rY:(h++u.set (id-h.length) Ej.Ds).length=(h++u).length:=Ax;refine⟨_,_,hg,.inr ⟨(h++u).length,Ax,Ax,?_⟩⟩;rw[lK,<-rY,Bn (Ab _),DB];rfl
end
structure SS where
 mode:Int
 Nn:Int
 tm:List Int
 AL:List Int
 AY:List Cp
 head:Int
 HQ:Int
 fs:Bool
 F5:Bool
 cj:Ak
 skip:Bool
 sw:Int
 stop:Bool
def BS.Z5(b:BS):SS:=⟨b.mode,b.Nn,b.tm,b.AL.map Item.node,b.AY,b.head,b.HQ,b.fs,b.F5,b.cj,b.skip,b.sw,b.stop⟩
def XO(s:SS)(t o c:Aa):List Aa:=[I s.mode,I s.Nn,t,o,c,I s.head,I s.HQ,.bool s.fs,.bool s.F5,.str s.cj,.bool s.skip,I s.sw,.bool s.stop]
structure UB(h:Ah)(lo:Nat)(s:SS)(t o c:Aa):Prop where
 t:Rj s.tm t
 o:OE h lo o s.AL
 c:UA h lo c s.AY
section
variable{h h':Ah}{bi a lo:Nat}{o c t:Aa}{G G' F:Nat->Prop}{b:BS}{x:Int}{m:Nat}
def UB.DT{s:SS}(w:UB h lo s t o c)(hf:∀i,lo<=i->i<h.length->h'[i]?=h[i]?):UB h' lo s t o c:=⟨w.t,w.o.DT hf,w.c.DT hf⟩
def pQ{h:Ah}{n:Nat}(hn:n<=1000000000):Rz h 3 48 [I 0,S [],.slnil] (I (n:Int)) (I (n:Int))=some (h++[.cells (List.replicate n [I 0,S [],.slnil]).flatten],.CW h.length 0 n 3):=by
 have hm:AK=140737488355328:=rfl;unfold Rz;simp only
 rw[Af ⟨Ac,Ac,Ac,rfl⟩];rfl
def aLY(w:BX h bi a o c t G b)(hc:Dj b.AY c)(rm:Cd b m):∃t' o' c' u,Ca cx 31 [Pt bi 0] h (.agg (XO b.Z5 t' o' c')) (h++u)/\UB (h++u) h.length b.Z5 t' o' c':=by
 have zm:AK=140737488355328:=rfl;have ho:=rm.AL;have Vq:=rm.AY;have M:=rm.tm;obtain⟨t',e0,Ir⟩:=ua w.t.1 Ac h;have B:t'.cells=[t']:=Ir.1.cells;obtain⟨fs,Jn,hv⟩:=hc;have Im:b.AY.length=fs.length:=by rw[<-Jn,As]
 have s:=Bz.Ha w.o;have Pb:Ev cx 31 [Pt bi 0] h λr h'=>∃t' o' c' u,r= .agg (XO b.Z5 t' o' c')/\h'=h++u/\UB (h++u) h.length b.Z5 t' o' c':=by
  unfold Ev;rw[aAF,t31];simp only[abS,Nat.reduceLeDiff,↓reduceIte,Bv,(HV w).Ad,w.ld,Oc,e0.Ad,C8,B,s];refine Ex (i:=0) (λz:Aa×Nat=>[.agg [I b.mode,I b.Nn,t',z.1,.slnil,I b.head,I b.HQ,.bool b.fs,.bool b.F5,.str b.cj,.bool b.skip,I b.sw,.bool b.stop],I (z.2:Int)]) (λz h1=>z.2<=b.AL.length/\∃u,h1=h++u/\OE (h++u) h.length z.1 ((b.AL.take z.2).map Item.node)) (λz=>b.AL.length-z.2) (λz h1=>∃u,h1=h++u/\OE (h++u) h.length z.1 (b.AL.map Item.node)) (.slnil,0) rfl ⟨Bd _,[],Ax,.inl ⟨rfl,Ax⟩⟩ ?_ ?_
  .rintro⟨V,n⟩ h1 ⟨hn,u,rfl,l⟩;simp only at hn l;have N:=l.cells;rcases Bk n b.AL.length with hlt|Hh
   .have q:=Bz.Dh (k:= .i64) w.o hlt;rw[Item.row] at q;obtain⟨E,U,g1,j⟩:=aHe l (by rw[As,AB];omega) b.AL[n].node;have g:=j.cells;have em:Ay (.Cl 1) [I b.AL[n].node]=some (.sl 1 [[I b.AL[n].node]]):=rfl;simp only[abS,Nat.reduceLeDiff,↓reduceIte,(Ac:(n:Int)<(b.AL.length:Int)),q,em,g1,g,CR (Ac:n<9223372036854775807)];exact .next (U,n+1) rfl ⟨hlt,E,rfl,by rw[AS hlt,BP];exact j⟩ Hb
   .rw[Be Hh] at l;simp only[abS,↓reduceIte,(Ac:¬(n:Int)<(b.AL.length:Int))];exact .ID (V,n) rfl ⟨u,rfl,l⟩
  .rintro⟨O,W⟩ h1 ⟨u,rfl,p⟩;simp only at p;have P:=p.cells;have w1:=w.JL (u:=u);have A:=w1.l3;have lc:=Bz.Ha hv;simp only[abS,↓reduceIte,A,lc];refine lU (pQ (h:=h++u) (n:=fs.length) Ac) ?_;obtain⟨d,f⟩:∃d,d=h++u:=⟨_,rfl⟩;rw[<-f] at p⊢;have T:(d++[Ej.cells (List.replicate fs.length [I 0,S [],.slnil]).flatten])[d.length]?=some (.cells (List.replicate fs.length [I 0,S [],.slnil]).flatten):=Ax;have y:Bi (d++[Ej.cells (List.replicate fs.length [I 0,S [],.slnil]).flatten]) none (Pt bi 3)=some c:=by rw[f];exact(w1.JL).l3
   have è:(List.replicate fs.length [I 0,S [],Aa.slnil]).flatten.length=fs.length*3:=by rw[Gr (z:=3) (by intro r hr;rw[(List.mem_replicate.1 hr).2];rfl),Fx]
   have R:DC (.copy 3) (d++[Ej.cells (List.replicate fs.length [I 0,S [],.slnil]).flatten]) [.CW d.length 0 fs.length 3,c]=some (d++[Ej.cells (fs.map C1.row).flatten],I (fs.length:Int)):=by
    have Q:Gb (d++[Ej.cells (List.replicate fs.length [I 0,S [],.slnil]).flatten]) 3 c=some (fs.map C1.row):=by
     rcases hv with rfl|⟨rfl,h0⟩
     .simp[Gb]
     .rw[h0];rfl
    simp only[DC,qS,Q,T];rw[Af ⟨trivial,Ax,by rw[è];omega⟩];have h1:(List.replicate fs.length [I 0,S [],Aa.slnil]).flatten.drop (0+(fs.map C1.row).length*3)=[]:=AT (by rw[è,As];omega);rw[h1,Ma,BO,Bq,As,BL _ _ (Ab _),DB];rfl
   have K:Ay (.len false) [.CW d.length 0 fs.length 3]=some (I (fs.length:Int)):=rfl;simp only[abS,↓reduceIte,y,R,K];refine Ex (i:=2) (λn:Nat=>[I (n:Int)]) (λn h1=>n<=fs.length/\∃KK:List C1,h1=d++[.cells (KK.map C1.row).flatten]/\KK.length=fs.length/\KK.map (·.c)=b.AY) (λn=>fs.length-n) (λn h1=>∃KK:List C1,h1=d++[.cells (KK.map C1.row).flatten]/\KK.length=fs.length/\KK.map (·.c)=b.AY) 0 rfl ⟨Bd _,fs,rfl,rfl,Jn⟩ ?_ ?_
   .rintro n h1 ⟨hn,KK,rfl,fD,å⟩;rcases Bk n fs.length with hlt|Hh
    .have dT:n<KK.length:=by omega
     have C:KK[n].c=b.AY[n]'(by omega):=by simp only[<-å,EV]
     have aJ:=(rm.C5 KK[n].c (by rw[C];exact A5 _)).2.1;have q:Ay (.FH 3) [.CW d.length 0 fs.length 3,I (n:Int)]=some (Pt d.length (n*3)):=Fi hlt;have D:(d++[Ej.cells (KK.map C1.row).flatten])[d.length]?=some (.cells (KK.map C1.row).flatten):=Ax;have hg:(KK.map C1.row)[n]?=some KK[n].row:=by rw[Cg,Au dT];rfl
     have L:Bi (d++[Ej.cells (KK.map C1.row).flatten]) none (Pt d.length (n*3+2))=some KK[n].v:=by simp only[Bi,D,FJ];exact PC (Ts KK) AI hg
     obtain⟨av,J,fm⟩:=f45 (h:=d++[Ej.cells (KK.map C1.row).flatten]) KK[n].ok Ac;have aLZ:av.cells=[av]:=Bz.cells fm;have H:CH (d++[Ej.cells (KK.map C1.row).flatten]) 1 (Pt d.length (n*3+2)) av=some (d++[.cells ((KK.set n ⟨KK[n].c,av,fm⟩).map C1.row).flatten]):=by have e:=TH (Aw:=KK.map C1.row) (i:=n) (k:=2) (v:=av) (Ts KK) (by simpa using dT) AI;simp only[CH,D,aLZ,Bc,Nx];rw[Af (by rw[Gr (Ts KK),As];omega),e,BL _ _ (Ab _),DB,GK,EV];rfl
     simp only[abS,(Ac:(n:Int)<(fs.length:Int)),q,L,J.Ad,H,CR (Ac:n<9223372036854775807)];refine .next (n+1) rfl ⟨hlt,_,rfl,by rw[BY];exact fD,?_⟩ Ac
     rw[GK,å];have Ø:n<b.AY.length:=Ac;show b.AY.set n KK[n].c=b.AY;rw[C,Hg]
    .simp only[abS,(Ac:¬(n:Int)<(fs.length:Int))];exact .ID n rfl ⟨KK,rfl,fD,å⟩
   .rintro n h1 ⟨KK,rfl,fD,å⟩;simp only[Ci,↓reduceIte];refine⟨_,rfl,t',O,.CW d.length 0 fs.length 3,u++[.cells (KK.map C1.row).flatten],rfl,by rw[f,AQ],Ir.1,?_,?_⟩;.rw[<-AQ,<-f];exact p.DT λi _ hi=>An hi
    .rw[<-AQ,<-f];exact .inr ⟨d.length,KK,by rw[f];simp,by rw[fD],Ax,å⟩
 obtain⟨r,h',hr,t',o',c',u,rfl,rfl,hs⟩:=Pb.ret;exact⟨t',o',c',u,hr,hs⟩
end
structure pR(h:Ah)(v:Aa)(fs:List C1):Prop where
 len:Ay (.len false) [v]=some (I (fs.length:Int))
 at_:∀k (hk:k<fs.length),∃id o,Ay (.FH 3) [v,I (k:Int)]=some (Pt id o)/\Bi h none (Pt id o)=some (I fs[k].c.node)/\Bi h none (Pt id (o+1))=some (.str fs[k].c.name)/\Bi h none (Pt id (o+2))=some fs[k].v
def NRd(h:Ah)(x:GL)(r:List Aa):Prop:=∃K V,r=[I x.kind,I x.He,K,I x.Cy,I x.A9,.str x.name,V,.str x.data,.str x.JN,.str x.sys,.bool x.CS,I x.cont,I x.EK]/\MS h K x.Bw/\MA h V x.Av/\K.cells=[K]/\V.cells=[V]
section
variable{h h':Ah}{lo lo':Nat}{v v':Aa}
def UA.at_{l:List Cp}(hv:UA h lo v l):∃fs:List C1,fs.map (·.c)=l/\pR h v fs:=by
 rcases hv with⟨rfl,rfl⟩|⟨id,fs,_,rfl,hc,e⟩
 .exact⟨[],rfl,rfl,λk hk=>by simp at hk⟩
 .refine⟨fs,e,rfl,λk hk=>⟨id,k*3,Fi hk,?_⟩⟩;have hg:(fs.map C1.row)[k]?=some fs[k].row:=by rw[Cg,Au hk];rfl
  have ld:∀j,j<3->Bi h none (Pt id (k*3+j))=fs[k].row[j]?:=λj hj=>by simp only[Bi,hc,FJ];exact PC (Ts fs) hj hg
  have l0:=ld 0 AI;rw[Bl] at l0;exact⟨l0,ld 1 AI,ld 2 AI⟩
def f18{l:List Int}(hv:MS h v l)(Gc:MS h v' l)(hb:l.length<=1000000000):Ca cx 81 [v,v'] h tt h:=by
 rw[Ae,aAK,t81];simp only[abS,hv.len,Gc.len,CA,Cq];refine B1 (λn:Nat=>[ff,I (n:Int)]) (λn h1=>n<=l.length/\h1=h) (λn=>l.length-n) 0 rfl ⟨Bd _,rfl⟩ ?_;rintro n h1 ⟨hn,rfl⟩;rcases Bk n l.length with hlt|Hh
 .obtain⟨p,a1,a2⟩:=hv.at_ n hlt;obtain⟨p',b1,b2⟩:=Gc.at_ n hlt;simp only[abS,hv.len,(Ac:(n:Int)<(l.length:Int)),a1,a2,b1,b2,CA,Cq,CR (Ac:n<9223372036854775807)];exact By.next (n+1) rfl ⟨hlt,rfl⟩ Ac
 .simp only[abS,hv.len,(Ac:¬(n:Int)<(l.length:Int))]
def aHf(y:A7):Ay (.geq true [.i,.s,.s]) [.agg y.row,.agg y.row]=some (.bool false):=by rw[WM];simp[A7.row,DR,LJ]
def f87{fs ï:List C1}(hv:pR h v fs)(Gc:pR h v' ï)(he:fs.map (·.c)=ï.map (·.c))(hb:fs.length<=1000000000)(ha:∀e∈fs,e.c.Av.length<=1000000000):Ca cx 82 [v,v'] h tt h:=by
 have hl:ï.length=fs.length:=by have:=B5 List.length he;simpa using this.symm
 have l1:=hv.len;have g:=Gc.len;rw[hl] at g;rw[Ae,aAL,t82];simp only[abS,l1,g,CA,Cq];refine B1 (λn:Nat=>[ff,I (n:Int)]) (λn h1=>n<=fs.length/\h1=h) (λn=>fs.length-n) 0 rfl ⟨Bd _,rfl⟩ ?_;rintro n h1 ⟨hn,rfl⟩;rcases Bk n fs.length with hlt|Hh
 .have dH:n<ï.length:=by omega
  have i:ï[n].c=fs[n].c:=by have:=B5 (λl=>l[n]?) he;simp only[Cg,Au hlt,Au dH,Bt,Bx] at this;exact this.symm
  obtain⟨id,o,a1,a2,a3,a4⟩:=hv.at_ n hlt;obtain⟨Fv,o',b1,b2,b3,b4⟩:=Gc.at_ n dH;rw[i] at b2 b3;have fm:A8 fs[n].c.Av fs[n].v:=fs[n].ok;have aHg:A8 fs[n].c.Av ï[n].v:=by rw[<-i];exact ï[n].ok
  have gh:=ha _ (A5 hlt);have d:=Bz.Ha fm;have p:=Bz.Ha aHg;generalize fs[n].v=av at*;generalize ï[n].v=YH at*;generalize fs[n].c.Av=b at*;simp only[abS,l1,(Ac:(n:Int)<(fs.length:Int)),a1,a2,a3,a4,b1,b2,b3,b4,CA,Cq,d,p];refine B1 (λj:Nat=>[ff,I (j:Int)]) (λj h2=>j<=b.length/\h2=h1) (λj=>b.length-j) 0 rfl ⟨Bd _,rfl⟩ ?_;rintro j h2 ⟨hj,rfl⟩;rcases Bk j b.length with Y7|q
  .have s:=Bz.Dh (k:= .i64) fm Y7;have r:=Bz.Dh (k:= .i64) aHg Y7;have ş:(A7.row b[j]).length=3:=rfl;have f:(A7.row b[j]).take 3=A7.row b[j]:=rfl;simp only[abS,a1,a4,b1,b4,d,(Ac:(j:Int)<(b.length:Int)),s,r,ş,f,Ab,aHf,CR (Ac:j<9223372036854775807)];exact By.next (j+1) rfl ⟨Y7,rfl⟩ Ac
  .simp only[abS,a1,a4,d,(Ac:¬(j:Int)<(b.length:Int)),CR (Ac:n<9223372036854775807)];exact By.next (n+1) rfl ⟨hlt,rfl⟩ Ac
 .simp only[abS,l1,(Ac:¬(n:Int)<(fs.length:Int))]
def f22{s:SS}{t o c t' o' c':Aa}(w:UB h lo s t o c)(w':UB h lo' s t' o' c')(b1:s.tm.length<=1000000000)(b2:s.AL.length<=1000000000)(b3:s.AY.length<=1000000000)(b4:∀e∈s.AY,e.Av.length<=1000000000):Ca cx 30 [.agg (XO s t o c),.agg (XO s t' o' c')] h tt h:=by
 obtain⟨fs,d,he⟩:=w.c.at_;obtain⟨ï,b,aR⟩:=w'.c.at_;have g:=f18 w.o.Su w'.o.Su b2;have r2:=f87 he aR (d.trans b.symm) (by rw[<-d,As] at b3;exact b3) (λe hm=>b4 e.c (by rw[<-d];exact OK hm));have p:t.cells=[t]:=w.t.cells;have f:t'.cells=[t']:=w'.t.cells;have q:=w.o.cells;have i:=w'.o.cells;have r:=w.c.cells;have l:=w'.c.cells;have l1:=w.t.len;have j:=w'.t.len;rw[Ae,aAE,t30,XO,XO];simp only[abS,l1,j,CA,Cq,g.Ad,r2.Ad];refine B1 (λn:Nat=>[ff,I (n:Int)]) (λn h1=>n<=s.tm.length/\h1=h) (λn=>s.tm.length-n) 0 rfl ⟨Bd _,rfl⟩ ?_;rintro n h1 ⟨hn,rfl⟩;rcases Bk n s.tm.length with hlt|Hh
 .have a1:=Bz.Dh (k:= .i64) (w.t.ne λe=>by rw[e] at hlt;simp at hlt) hlt;have a2:=Bz.Dh (k:= .i64) (w'.t.ne λe=>by rw[e] at hlt;simp at hlt) hlt;rw[Cu] at a1 a2;simp only[abS,l1,(Ac:(n:Int)<(s.tm.length:Int)),a1,a2,CA,Cq,CR (Ac:n<9223372036854775807)];exact By.next (n+1) rfl ⟨hlt,rfl⟩ Ac
 .simp only[abS,l1,(Ac:¬(n:Int)<(s.tm.length:Int)),Cq,GN]
end
def aC8{A:Ar}{k:Nat}(hk:k<A.n.length):A.has ((k:Int)+1)/\A.nd ((k:Int)+1)=A.n[k]:=by
 have h1:A.has ((k:Int)+1):=by unfold Ar.has;omega
 refine⟨h1,?_⟩;unfold Ar.nd;rw[Af h1,AP,(Ac:((k:Int)+1).toNat-1=k),Au hk];rfl
section
variable{h h':Ah}{a n:Nat}{m:Option Nat}{ps:List PN}{A:Ar}{x:Int}
end
def PB(h:Ah)(bi:Nat)(b:BS)(F:Nat->Prop):Prop:=∃a o c t G,BX h bi a o c t G b/\Dj b.AY c/\F=BM bi G
structure Fin(b:BS)(j:Nat):Prop where
 ok:E6 b
 sz:Sz b j
section
variable{h h':Ah}{bi wi:Nat}{b:BS}{F F2:Nat->Prop}{q:dz}{av:Aa}{j:Nat}
def PB.lt(w:PB h bi b F){i:Nat}(hi:F i):i<h.length:=by
 obtain⟨a,o,c,t,G,w,_,rfl⟩:=w;rcases hi with rfl|hi
 .exact w.lt
 .exact w.w.lt hi
def PB.DT(w:PB h bi b F)(hf:∀i,F i->h'[i]?=h[i]?):PB h' bi b F:=by obtain⟨a,o,c,t,G,w,hc,rfl⟩:=w;exact⟨a,o,c,t,G,w.DT hf,hc,rfl⟩
def PB.JL(w:PB h bi b F){u:Ah}:PB (h++u) bi b F:=w.DT λi hi=>An (w.lt hi)
def Fin.le{k:Nat}(f:Fin b j)(hk:k<=j):Fin b k:=⟨f.ok,f.sz.rm.le Ac,by have:=f.sz.AL;omega,by have:=f.sz.AY;omega⟩
def Fin.do(f:Fin b (j+1))(hq:í q):Fin (d_ b q).1 j:=⟨aC4 f.ok,aC5 f.sz hq⟩
def GF.ID(s:GF):Fin s.b 100:=⟨s.ok.1,s.ok.2⟩
def aL1(w:PB h bi b F)(f:Fin b (j+1))(hq:í q)(hv:A8 q.Av av):∃h' F',Ca cx 18 [Pt bi 0,.agg (SD q av)] h (.agg (d_ b q).2.row) h'/\PB h' bi (d_ b q).1 F'/\Ew h F h' F':=by obtain⟨a,o,c,t,G,w,hc,rfl⟩:=w;obtain⟨h',o',c',t',d,r,w',Ow,x⟩:=aLT w hc f.ok f.sz hq hv;exact⟨h',_,r,⟨a,o',c',t',d,w',Ow,rfl⟩,x⟩
def aL2(s:GF)(hv:A8 s.Av av)(hl:EM s.Av)(h:Ah):∃h' bi F,Ca cx 17 [.agg (Qo s av)] h (Pt bi 0) h'/\PB h' bi s.b F/\Ew h (λ_=>False) h' F:=by obtain⟨h',bi,a,o,c,t,G,r,w,hc,x⟩:=aLX h s hv hl;exact⟨h',bi,_,r,⟨a,o,c,t,G,w,hc,rfl⟩,x⟩
end
structure QO where
 q:dz
 v:Aa
 ok:A8 q.Av v
def QO.row(x:QO):List Aa:=SD x.q x.v
def QO.DS{x:QO}:x.row.length=9:=rfl
def QO.KV{x:QO}:x.row.take 9=x.row:=rfl
def ZP(l:List QO)(v:Aa):Prop:=Bz 9 (l.map QO.row) v
def L5:BS->List QO->BS
 |b,[]=>b
 |b,x::l=>L5 (d_ b x.q).1 l
def XP:∀{l:List QO} {b:BS} {x:QO},L5 b (l++[x])=(d_ (L5 b l) x.q).1
 |[],_,_=>rfl
 |y::l,b,x=>by rw[CC,L5,XP,L5]
def XQ:∀{l:List QO} {b:BS} {j:Nat},Fin b (j+l.length)->(∀x∈l,í x.q)->Fin (L5 b l) j
 |[],_,_,f,_=>f
 |x::l,b,j,f,hq=>by rw[L5];exact XQ (Fin.do (j:=j+l.length) (f.le (by simp only[AJ];omega)) (hq x Ax)) λy hy=>hq y (by simp[hy])
end Go.Am
end
section
end
