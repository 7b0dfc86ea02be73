/- Lemmas -/
import Derived.Test.YtbkijlifflhdiaaGreatDoorX24
set_option linter.all false
noncomputable section
set_option maxRecDepth 100000
section
namespace Go.Am
open Go
section
variable{h h':Ah}{bi a ai:Nat}{o c t:Aa}{G G' F:Nat->Prop}{b b':BS}{x:Int}{m:Nat}
variable{nm:Aq}{av:Aa}{l:List A3}{r:List Aa}{sp p:Int}{e:CN}{at_ mk last:Int}{anc far:Item}
def Dj.find(hc:Dj b.A9 c)(w:BX h bi a o c t G b)(rm:Ct b m)(nm:Aq):Cx cx 162 [Pt bi 3,.str nm] h (I (EF nm b.A9)) h:=by obtain⟨fs,Ld,hv⟩:=hc;have ha:=rm.A9;have:=aDm w.wK hv (by rw[<-Ld,As] at ha;omega) nm;rwa [gw,Ld] at this
def UZ(E_:h.length<=ai)(x:FD h (La ai bi G) h' (La ai bi G')):FD h (BE bi G) h' (BE bi G'):=
 ⟨x.len,λi hi hn=>x.old i hi λhg=>by
  rcases hg with rfl|hg
  .omega
  .exact hn hg,λi hi=>by
  rcases x.BE i (.inr hi) with(rfl|h)|h
  .exact .inr E_
  .exact .inl h
  .exact .inr h⟩
def aS{nm:Aq}{l:List B8}(h:0<=EF nm l):∃p:Nat,∃hp:p<l.length,EF nm l=(p:Int):=by
 have key:∀r:List B8,MY nm r<r.length:=by
  intro r;induction r with
  |nil=>show(-1:Int)<0;decide
  |cons x r ih=>rw[MY];simp only[AU];split<;>(try split)<;>omega
 have:=key l.reverse;rw[VR] at this;refine⟨(EF nm l).toNat,?_,Ab⟩;unfold EF at h⊢;omega
def ir{l:List B8}{f:Nat}(hn:((l.map B8.node).filter λn=>decide (n≠0)).Nodup)(hf:f<l.length)(h0:l[f].node≠0):FF l[f].node l=(f:Int):=by
 unfold FF;rw[Ac h0];refine KU hf (by simp[UA]) λj hj h=>?_;by_cases he:l[j].node=l[f].node
 .exfalso;have:l=l.take j++l[j]::l.drop (j+1):=by rw[<-AA hj,BM]
  rw[this,BV,Bi,DP,Gr,Ad (by simpa[he] using h0),BF] at hn;have hm:l[f]∈l.take j:=List.mem_take_iff_getElem.2 ⟨f,Ab,rfl⟩;exact hn.2.2 l[f].node (CG.2 ⟨VT hm,by simpa using h0⟩) l[j].node Aw he.symm
 .simp[UA,he]
def aT{v:DJ}:FD h (Am.La ai bi G) (h.set ai v) (Am.La ai bi G):=⟨by rw[Bv];exact Af _,λi _ hn=>An λe=>hn (.inl e.symm),λ_ h=> .inl h⟩
def yd(hc:h[ai]?=some (.cells (E3 e at_ mk anc far last)))(i:Item):CM h 4 (Pt ai 5) (.agg i.row)=some (h.set ai (.cells (E3 e at_ mk i far last))):=by simp only[CM,hc];rfl
def ye(hc:h[ai]?=some (.cells (E3 e at_ mk anc far last)))(i:Item):CM h 4 (Pt ai 9) (.agg i.row)=some (h.set ai (.cells (E3 e at_ mk anc i last))):=by simp only[CM,hc];rfl
def yf(hc:h[ai]?=some (.cells (E3 e at_ mk anc far last))):Bq h (some 3) (Pt ai 0)=some (.agg e.row):=by simp only[Bq,hc];rfl
def VM{A:Ar}{n x:Int}{l:List Int}:BS.Cw A n (l++[x])=(BS.Cw A n l).D9 n x 0:=by unfold BS.Cw;rw[List.foldl_append];rfl
def aD8(w:BX h bi a o c t G b)(hc:Dj b.A9 c)(ok:Dz b)(rm:Ct b (m+4*b.AO.length+10))(nm:Aq):
  ∃h' o' c' G',Cx cx 115 [Pt bi 0,.str nm] h (.bool (b.round nm).1) h'/\BX h' bi a o' c' t G' (b.round nm).2/\Dj (b.round nm).2.A9 c'/\FD h (BE bi G) h' (BE bi G'):=by
 have ho:=rm.AO;have bS:=rm.A9;have U:=hc.find w rm nm;by_cases hf:EF nm b.A9<0
 .obtain⟨h2,o2,r2,w2,x2⟩:=Ų w rm nm;have e:b.round nm=(false,b.Dw nm):=by unfold BS.round;simp only;rw[Ad hf]
  have ea:(b.Dw nm).A9=b.A9:=by
   unfold BS.Dw;split;.split<;>rfl
   .rfl
  rw[e];refine⟨h2,o2,c,G,?_,w2,by rw[ea];exact hc,x2⟩;rw[Aj,Ow,fX];simp only[abS,Nat.reduceLeDiff,↓reduceIte,BD,U.Ag,hf,r2.Ag]
 obtain⟨f,HV,ef⟩:=aS (RG.1 hf);have xY:¬(f:Int)<0:=Ab;rw[ef] at U;have Rf:=hc;obtain⟨fs,Ld,hv⟩:=Rf;have aJu:b.A9.length=fs.length:=by rw[<-Ld,As]
 have D:fs[f].c=b.A9[f]:=by simp only[<-Ld,C5]
 have l3:=w.l3;have e1:=Bu.DC (k:= .i64) hv (Ab:f<fs.length);generalize hfe:fs[f]=fe at*;have wZ:b.A9.getD f B8.zero=fe.c:=by rw[Ax,Ai HV];exact D.symm
 have hv3:fe.v.cells=[fe.v]:=Bu.cells fe.ok;have w1:=w.Kr (u:=[.cells (E3 fe (f:Int) (f:Int) Item.zero Item.zero 0)]);have I_:(h++[DJ.cells (E3 fe (f:Int) (f:Int) Item.zero Item.zero 0)])[h.length]?=some (.cells (E3 fe (f:Int) (f:Int) Item.zero Item.zero 0)):=Aw;have Y:FD h (BE bi G) (h++[DJ.cells (E3 fe (f:Int) (f:Int) Item.zero Item.zero 0)]) (BE bi G):=w.DT;have PF:¬BE bi G h.length:=by
  rintro(e|hg);.exact absurd w.lt Ab
  .exact absurd (w.w.lt hg) (C8 _)
 obtain⟨B,y⟩:∃B,B=h++[DJ.cells (E3 fe (f:Int) (f:Int) Item.zero Item.zero 0)]:=⟨_,rfl⟩;rw[<-y] at w1 I_ Y;have l0:Bq B none (Pt h.length 0)=some (I fe.c.node):=At.load ⟨_,I_,rfl⟩;have r2:=VI w1.sA Ab fe.c.node;have Xr:E3 fe (f:Int) (f:Int) Item.zero Item.zero 0=[I fe.c.node,.str fe.c.name,fe.v,I (f:Int),I (f:Int),I 0,I 0,S [],ff,I 0,I 0,S [],ff,I 0]:=rfl;rw[Xr] at y;rw[CN.row] at e1;by_cases hk:AG (Br fe.c.node) b.AO<0
 .obtain⟨h2,c2,R,w2,JB,_,x2⟩:=lW w1 hc rm I_ PF HV ⟨Ab,Ab⟩ ⟨Ab,Ab⟩;have e:b.round nm=(false,{b with A9:=Bk b.A9 f}):=by unfold BS.round;simp only;rw[Ac hf,ef,Bn,wZ,Ad hk]
  rw[e];refine⟨h2,o,c2,G,?_,w2,JB,UZ (Af _) ((Er Y h.length).trans x2)⟩;rw[Aj,Ow,fX];simp only[abS,Nat.reduceLeDiff,↓reduceIte,BD,U.Ag,xY,l3,e1,<-y,l0,r2.Ag,hk,R.Ag]
 obtain⟨k,W⟩:∃k:Nat,AG (Br fe.c.node) b.AO=(k:Int):=⟨_,(Jw (RG.1 hk)).symm⟩;obtain⟨V5,hkq,_⟩:=JZ W;have gl:¬(k:Int)<0:=Ab;rw[W] at r2;by_cases hkz:k=0
 .have e:b.round nm=(false,b):=by unfold BS.round;simp only;rw[Ac hf,ef,Bn,wZ,Ac hk,Ad (.inl (by rw[W,hkz];rfl))]
  rw[e];refine⟨B,o,c,G,?_,w1,hc,Y⟩;rw[Aj,Ow,fX];simp only[abS,Nat.reduceLeDiff,↓reduceIte,BD,U.Ag,xY,l3,e1,<-y,l0,r2.Ag,gl,CZ (Ab:(k:Int)=0)]
 have iu:¬(k:Int)=0:=Ab;have R:=aDf w1.sA Ab 1 fe.c.node;by_cases zm:Mk (Br fe.c.node) (LK 1) b.AO.reverse=false
 .have e:b.round nm=(false,b):=by unfold BS.round;simp only;rw[Ac hf,ef,Bn,wZ,Ac hk,Ad (.inr zm)]
  rw[e];refine⟨B,o,c,G,?_,w1,hc,Y⟩;rw[zm] at R;rw[Aj,Ow,fX];simp only[abS,Nat.reduceLeDiff,↓reduceIte,BD,U.Ag,xY,l3,e1,<-y,l0,r2.Ag,gl,iu,R.Ag]
 have aD9:Mk (Br fe.c.node) (LK 1) b.AO.reverse=true:=by simpa using zm
 rw[aD9] at R;have r4:=aDh w1.sA Ab fe.c.node;have hor:¬(AG (Br fe.c.node) b.AO=0\/Mk (Br fe.c.node) (LK 1) b.AO.reverse=false):=by rw[W];rintro(h|h);exact iu h;exact zm h
 by_cases hfa:CK fe.c.node b.AO<0
 .have e:b.round nm=(false,{b with AO:=GK fe.c.node b.AO,A9:=Bk b.A9 f}):=by unfold BS.round;simp only;rw[Ac hf,ef,Bn,wZ,Ac hk,Ac hor,Ad hfa]
  obtain⟨u,r5,hu⟩:=Ň w1.sO Ab fe.c.node;have w2:=w1.N3 hu;have nj:(put B bi 2 u)[h.length]?=_:=(CQ (λe=>PF (.inl e))).trans I_;obtain⟨h3,c3,r6,w3,Wm,_,x3⟩:=lW w2 hc ((rm.le (m':=0) Ab).sub rfl Hp (AF _) (Af _)) nj PF HV ⟨Ab,Ab⟩ ⟨Ab,Ab⟩;rw[e];refine⟨h3,u,c3,G,?_,w3,Wm,UZ (Af _) ((Er (Y.trans B9) h.length).trans x3)⟩;rw[Aj,Ow,fX];simp only[abS,Nat.reduceLeDiff,↓reduceIte,BD,U.Ag,xY,l3,e1,<-y,l0,r2.Ag,gl,iu,R.Ag,r4.Ag,hfa,r5.Ag,r6.Ag]
 obtain⟨N,hN,eN⟩:∃N:Nat,k+1+N<b.AO.length/\CK fe.c.node b.AO=((k+1+N:Nat):Int):=by
  have yg:=hfa;rw[JR,Ac hk,W,Bn] at yg⊢;unfold Fm at yg⊢;split at yg;.rename_i j hj;have:=(Gc.1 hj).1;rw[AV] at this;exact⟨j,Ab,Ab⟩
  .omega
 obtain⟨d,ń⟩:∃d,d=b.AO[k+1+N]:=⟨_,rfl⟩;obtain⟨an,A_⟩:∃an,an=b.AO[k-1]'(by omega):=⟨_,rfl⟩;have zN:b.AO.getD (k+1+N) Item.zero=d:=by rw[Ax,Ai hN,ń];rfl
 have î:b.AO.getD (k-1) Item.zero=an:=by rw[Ax,Ai Ab,A_];rfl
 have e:b.round nm=(true,BS.Gk fe.c d.node an.node (BS.JT d.node an.node (k+1+N) k N (b,d.node,f))):=by
  unfold BS.round;simp only
  rw[Ac hf,ef,Bn,wZ,Ac hk,Ac hor,Ac hfa,W,eN,Bn,Bn,zN,î,(Ab:k+1+N-1 -k=N)]
 have iv:=ok.op d (by rw[ń];exact AJ _);have aEa:b.AO[k].node=fe.c.node:=by simpa[Br] using hkq
 have aAd:b.a.has fe.c.node:=by rw[<-aEa];exact(ok.op _ (AJ _)).1
 have aEb:b.A9[f].node≠0:=by rw[<-D];have:=aAd.1;omega
 have pI:=ir ok.qF HV aEb;rw[<-D] at pI;have Ov:=rm.Dy _ (AJ HV);rw[<-D] at Ov;have yA:=LJ (n:=k) Ab Ab;have r5:=UL w1.sA ((k-1:Nat):Int);rw[IA Ab,<-A_] at r5;have r6:=UL w1.sA ((k+1+N:Nat):Int);rw[IA hN,<-ń] at r6;have s5:=yd I_ an;have Wk:h.length<B.length:=(Ae.1 I_).1;have hbn:h.length≠bi:=λe=>PF (.inl e);have nj:(B.set h.length (.cells (E3 fe f f an Item.zero 0)))[h.length]?=_:=AH Wk;have w2:BX (B.set h.length (.cells (E3 fe f f an Item.zero 0))) bi a o c t G b:=w1.DU λj hj=>An λe=>PF (by rw[e];exact hj);have x2:=(Er Y h.length).trans (aT (v:= .cells (E3 fe f f an Item.zero 0)));generalize B.set h.length (.cells (E3 fe f f an Item.zero 0))=H2 at*;have s6:=ye nj d;have YP:h.length<H2.length:=(Ae.1 nj).1;have P:(H2.set h.length (.cells (E3 fe f f an d 0)))[h.length]?=_:=AH YP;have w3:BX (H2.set h.length (.cells (E3 fe f f an d 0))) bi a o c t G b:=w2.DU λj hj=>An λe=>PF (by rw[e];exact hj);have x3:=x2.trans (aT (v:= .cells (E3 fe f f an d 0)));generalize H2.set h.length (.cells (E3 fe f f an d 0))=H3 at*;have l9:Bq H3 none (Pt h.length 9)=some (I d.node):=At.load ⟨_,P,rfl⟩;have t13:At H3 h.length 13 (I 0):=⟨_,P,rfl⟩;have s7:=t13.store (u:= I d.node) rfl;have F_:=Jr (k:=13) (v:= I d.node) P;have w4:BX (put H3 h.length 13 (I d.node)) bi a o c t G b:=w3.DU λj hj=>CQ λe=>PF (by rw[<-e];exact hj);have x4:=x3.trans (N4 (k:=13) (v:= I d.node));generalize put H3 h.length 13 (I d.node)=H4 at*;have i0:aR H4 bi a h.length t G fe an d k N (m+10) (b,d.node,f) N H4 o c G (b,d.node,f):=
  ⟨Af _,w4,hc,ok,rm.le Ab,iv.1,by rw[pI];exact F_,PF,.refl,by rw[pI];omega,by show f<=1000000000;omega,rfl,Hc,rfl,aAd⟩
 have le0:=(S6 (blk:=d.node) (anc:=an.node) (far:=k+1+N) (k:=k) (c:=N) (s:=(b,d.node,f)) ok iv.1).2.2;obtain⟨h5,o5,c5,G5,s',r7,es,i⟩:=ž i0 Ab W hN;rw[<-es] at le0 e;obtain⟨q,hq,gp,hq0,hq2,hq3⟩:=J0 i.qA;have C:=i.st;rw[gp] at C;have hmk:=i.Ž;have qK:h.length≠bi:=hbn;have l5:Bq h5 none (Pt h.length 5)=some (I an.node):=At.load ⟨_,C,rfl⟩;obtain⟨u6,r8⟩:=gq i.w i.ok.ba i.rm an.node;have w6:=i.w.Kr (u:=u6);have w6':=i.w.DT (u:=u6);have hl5:h.length<h5.length:=(Ae.1 C).1;have st6:(h5++u6)[h.length]?=_:=(Al hl5).trans C;have l13:Bq (h5++u6) none (Pt h.length 13)=some (I s'.2.1):=At.load ⟨_,st6,rfl⟩;have hl6:h.length<(h5++u6).length:=by rw[Ap];omega
 obtain⟨h7,G7,r9,w7,x7⟩:=aK (x:=s'.2.1) (p:=(s'.1.place an.node).1) (bf:=(s'.1.place an.node).2) w6 i.ok.ba i.rm;have hn7:¬BE bi G7 h.length:=λhg=>by
  rcases x7.BE h.length hg with hg|hg
  .exact i.hn hg
  .omega
 have H_:h7[h.length]?=_:=(x7.old h.length hl6 i.hn).trans st6;have l3b:Bq h7 (some 3) (Pt h.length 0)=some (.agg fe.row):=yf H_;have l9b:Bq h7 none (Pt h.length 9)=some (I d.node):=At.load ⟨_,H_,rfl⟩;obtain⟨r,iw,hr⟩:=wX fe h7;have le7:Le s'.1.a (s'.1.a.Dn s'.2.1 (s'.1.place an.node).1 (s'.1.place an.node).2):=HI;have V:=i.ok.JU (Ls (n:=s'.2.1) (p:=(s'.1.place an.node).1) (b:=(s'.1.place an.node).2) i.ok.ok) le7;have Q:=i.rm.JU (KB (x:=s'.2.1) (p:=(s'.1.place an.node).1) (bf:=(s'.1.place an.node).2));obtain⟨b2,MA⟩:∃b2,b2={s'.1 with a:=s'.1.a.Dn s'.2.1 (s'.1.place an.node).1 (s'.1.place an.node).2}:=⟨_,rfl⟩;have bM:b2.AO=s'.1.AO:=by rw[MA]
 have JB:b2.A9=s'.1.A9:=by rw[MA]
 have le2:Le s'.1.a b2.a:=by rw[MA];exact le7
 rw[<-MA] at w7 V Q;obtain⟨J,G8,r11,w8,x8⟩:=wM (m:=m+7) w7 V.ba (Q.le Ab) hr fe.ok Ov.2 Ov.1 d.node 1;obtain⟨J_,fr,le8⟩:=JV (nm:=fe.c.name) (at_:=fe.c.Av) (p:=d.node) V K9;have z:=Kv (m:=m+7) (nm:=fe.c.name) (l:=fe.c.Av) (sp:=1) (p:=d.node) (Q.le Ab) Ov.2;obtain⟨g,hnw⟩:∃g,g=b2.HG fe.c.name fe.c.Av 1:=⟨_,rfl⟩;obtain⟨b3,sj⟩:∃b3,b3=b2.DA fe.c.name fe.c.Av 1 d.node:=⟨_,rfl⟩;have ho3:b3.AO=s'.1.AO:=by rw[sj,<-bM];unfold BS.DA;rw[Ad K9]
 have Wm:b3.A9=s'.1.A9:=by rw[sj,<-JB];unfold BS.DA;rw[Ad K9]
 rw[<-hnw] at r11 fr;rw[<-sj] at w8 J_ fr le8 z;have hl7:h.length<h7.length:=(Ae.1 H_).1;have hn8:¬BE bi G8 h.length:=λhg=>by
  rcases x8.BE h.length hg with hg|hg
  .exact hn7 hg
  .omega
 have O:J[h.length]?=_:=(x8.old h.length hl7 hn7).trans H_;have l9c:Bq J none (Pt h.length 9)=some (I d.node):=At.load ⟨_,O,rfl⟩;obtain⟨kv,r12,hkv⟩:∃v,Cx cx 84 [Pt a 0,I d.node] J v J/\Ff (b3.a.nd d.node).AT v:=by obtain⟨n',m',ps,wa⟩:=w8.w.pa;exact ml wa z.VG (z.VG.AT J_.ok d.node)
 have aJB:(b3.a.nd d.node).AT.length<=1000000000:=z.VG.AT J_.ok d.node;have SX:g.row=[I g.node,I g.AW,.str g.name,.bool g.NS]:=rfl;rw[CN.row] at iw l3b;have NH:Ev cx 115 [Pt bi 0,.str nm] h λr h'=>r= .bool true/\∃o' c' G',BX h' bi a o' c' t G' (BS.Gk fe.c d.node an.node s')/\Dj (BS.Gk fe.c d.node an.node s').A9 c'/\FD h (BE bi G) h' (BE bi G'):=by
  unfold Ev;rw[Ow,fX];simp only[abS,Nat.reduceLeDiff,↓reduceIte,BD,U.Ag,xY,l3,e1,<-y,l0,r2.Ag,gl,iu,R.Ag,r4.Ag,eN,(Ab:¬((k+1+N:Nat):Int)<0),yA,r5.Ag,r6.Ag,s5,s6,l9,s7];simp only[abS,r7.Ag,l5,r8.Ag];simp only[abS,l13,r9.Ag];simp only[Cr,l3b,l9b];simp only[abS,↓reduceIte,IH,iw.Ag,Dx,r11.Ag,l9b];simp only[Cr,w8.l0,l9c,r12.Ag,Bu.Gi hkv];have x8':FD h (La h.length bi G) J (La h.length bi G8):=(((x4.trans i.x).trans (Er w6' h.length)).trans (Er x7 h.length)).trans (Er x8 h.length);refine Hr (i:=0) (λj:Nat=>[I (j:Int)]) (λj A=>j<=(b3.a.nd d.node).AT.length/\∃E,BX A bi a o5 c5 t E {b3 with a:=BS.Cw b3.a g.node ((b3.a.nd d.node).AT.take j)}/\Dz {b3 with a:=BS.Cw b3.a g.node ((b3.a.nd d.node).AT.take j)}/\Ct {b3 with a:=BS.Cw b3.a g.node ((b3.a.nd d.node).AT.take j)} (m+7)/\FD J (BE bi G8) A (BE bi E)) (λj=>(b3.a.nd d.node).AT.length-j)
   (λj A=>j=(b3.a.nd d.node).AT.length/\∃E,BX A bi a o5 c5 t E {b3 with a:=BS.Cw b3.a g.node ((b3.a.nd d.node).AT.take j)}/\Dz {b3 with a:=BS.Cw b3.a g.node ((b3.a.nd d.node).AT.take j)}/\Ct {b3 with a:=BS.Cw b3.a g.node ((b3.a.nd d.node).AT.take j)} (m+7)/\FD J (BE bi G8) A (BE bi E)) 0 rfl ⟨A7 _,G8,w8,J_,z,.refl⟩ ?_ ?_
  .rintro j A ⟨hj,E,w9,yh,yi,X⟩;rcases Bg j (b3.a.nd d.node).AT.length with hlt|GW
   .have e9:=Bu.DC (k:= .i64) hkv hlt;obtain⟨gA,H,T,bT,yj⟩:=aK (x:=(b3.a.nd d.node).AT[j]) (p:=g.node) (bf:=0) w9 yh.ba yi;have lej:=(IC (n:=g.node) (l:=(b3.a.nd d.node).AT.take j) J_.ok).2;rw[RC (by show((BS.Cw b3.a g.node ((b3.a.nd d.node).AT.take j)).nd g.node).kind=4;rw[lej.kind _ fr.has];exact fr.kind)] at bT;have hs:BS.Cw b3.a g.node ((b3.a.nd d.node).AT.take (j+1))=(BS.Cw b3.a g.node ((b3.a.nd d.node).AT.take j)).D9 g.node (b3.a.nd d.node).AT[j] 0:=by rw[AD hlt,VM]
    rw[DH] at e9;simp only[abS,(Ab:(j:Int)<((b3.a.nd d.node).AT.length:Int)),e9,T.Ag,Ci (Ab:j<9223372036854775807)];refine .next (j+1) rfl ⟨hlt,H,by rw[hs];exact bT,?_,?_,X.trans yj⟩ Ab
    .have:=yh.JU (MX (p:=g.node) (n:=(b3.a.nd d.node).AT[j]) (b:=0) yh.ok) M2;rw[hs];exact this
    .have:=yi.JU (KA (p:=g.node) (x:=(b3.a.nd d.node).AT[j]) (bf:=0));rw[hs];exact this
   .simp only[abS,(Ab:¬(j:Int)<((b3.a.nd d.node).AT.length:Int))];exact .Iv j rfl ⟨Ab,E,w9,yh,yi,X⟩
  .rintro j A ⟨rfl,E,w9,yh,yi,X⟩;rw[B7] at w9 yh yi;have hl8:h.length<J.length:=(Ae.1 O).1;have hn9:¬BE bi E h.length:=λhg=>by
    rcases X.BE h.length hg with hg|hg
    .exact hn8 hg
    .omega
   have M:A[h.length]?=_:=(X.old h.length hl8 hn8).trans O;have l9d:Bq A none (Pt h.length 9)=some (I d.node):=At.load ⟨_,M,rfl⟩;have le9:=(IC (n:=g.node) (l:=(b3.a.nd d.node).AT) J_.ok).2;have lef:Le b.a (BS.Cw b3.a g.node (b3.a.nd d.node).AT):=((le0.trans le2).trans le8).trans le9;obtain⟨gA,H,T,bT,yj⟩:=aK (x:=g.node) (p:=d.node) (bf:=0) w9 yh.ba yi;rw[RC (by show((BS.Cw b3.a g.node (b3.a.nd d.node).AT).nd d.node).kind=4;rw[lef.kind _ iv.1];exact iv.2.1)] at bT;have hl9:h.length<A.length:=(Ae.1 M).1;have aEj:¬BE bi H h.length:=λhg=>by
    rcases yj.BE h.length hg with hg|hg
    .exact hn9 hg
    .omega
   have aAg:gA[h.length]?=_:=(yj.old h.length hl9 hn9).trans M;have l3c:Bq gA none (Pt h.length 3)=some (I (q:Int)):=At.load ⟨_,aAg,rfl⟩;have aEk:=yi.JU (KA (p:=d.node) (x:=g.node) (bf:=0));have aEl:Dj ({b3 with a:=(BS.Cw b3.a g.node (b3.a.nd d.node).AT).D9 d.node g.node 0}:BS).A9 c5:=by simp only;rw[Wm];exact i.hc
   have hqa:=i.rm.A9;obtain⟨jD,jC,r14,L,aAh,ix,x11⟩:=lW bT aEl aEk aAg aEj (k:=q) (by simp only;rw[Wm];exact hq) ⟨Ab,Ab⟩ ⟨Ab,Ab⟩;simp only at L aAh;have l1:Bq jD none (Pt h.length 1)=some (.str fe.c.name):=At.load ⟨_,ix,rfl⟩;have l2:Bq jD none (Pt h.length 2)=some fe.v:=At.load ⟨_,ix,rfl⟩;have l4:Bq jD none (Pt h.length 4)=some (I (down q (s'.2.2:Int))):=At.load ⟨_,ix,rfl⟩;obtain⟨fs2,yk,Zd⟩:=aAh;have aJH:b3.A9.length=s'.1.A9.length:=by rw[Wm]
   have aJI:fs2.length<=900000000:=by have h1:=Ca List.length yk;rw[As,Im (by rw[Wm];exact hq)] at h1;omega
   have aD5:=Ov.2.1;obtain⟨Z,e2,he2,r15,Xs⟩:=aDr (h:=jD) (id:=bi) (o:=3) (l:=fs2) ⟨jC,L.wK,Zd⟩ Ab (e:=⟨{fe.c with node:=g.node},fe.v,fe.ok⟩) (by unfold qD;simp only;omega) (down q (s'.2.2:Int));have aEn:Cx cx 167 [Pt bi 3,.agg [I g.node,.str fe.c.name,fe.v],I (down q (s'.2.2:Int))] jD (.tuple []) (put jD bi 3 Z):=r15;obtain⟨Yx,pH⟩:∃Yx:Nat,Yx=if q<s'.2.2 then s'.2.2 -1 else s'.2.2:=⟨_,rfl⟩
   have xA:down q (s'.2.2:Int)=(Yx:Int):=by rw[pH];unfold down;split<;>split<;>omega
   have w12:=L.Rz (u:=Z) (l:=(Bk b3.A9 q).take (F8 Yx (Bk b3.A9 q).length)++{fe.c with node:=g.node}::(Bk b3.A9 q).drop (F8 Yx (Bk b3.A9 q).length));have aEo:Dj ((Bk b3.A9 q).take (F8 Yx (Bk b3.A9 q).length)++{fe.c with node:=g.node}::(Bk b3.A9 q).drop (F8 Yx (Bk b3.A9 q).length)) Z:=by refine⟨_,?_,Xs⟩;rw[xA,BV,Bi,Ie,LV,yk,he2,<-yk,As]
   have hob:=i.rm.AO;obtain⟨u2,r16,Qe⟩:=xo w12.sO (by simp only;rw[ho3];omega) fe.c.node;have K:=w12.N3 Qe;have cU:(DS fe.c.node b3.AO).length<=s'.1.AO.length:=by rw[<-ho3];exact Lt.length_le
   have aEq:(put (put jD bi 3 Z) bi 2 u2)[h.length]?=_:=(CQ qK).trans ((CQ qK).trans ix);have l9e:Bq (put (put jD bi 3 Z) bi 2 u2) none (Pt h.length 9)=some (I d.node):=At.load ⟨_,aEq,rfl⟩;have r17:=VI K.sA Hc d.node;have hli: -1<=AG (Br d.node) (DS fe.c.node b3.AO)/\AG (Br d.node) (DS fe.c.node b3.AO)<=(DS fe.c.node b3.AO).length:=by rcases CV (q:=Br d.node) (l:=DS fe.c.node b3.AO) with⟨h,_⟩|⟨n,h1,h2,_⟩<;>omega
   have add:=XW (a:=AG (Br d.node) (DS fe.c.node b3.AO)) (b:=1) Ab Ab;obtain⟨u3,r18,hu3⟩:=aDj K.sO Hc g (AG (Br d.node) (DS fe.c.node b3.AO)+1);have w14:=K.N3 hu3;simp only[abS,Nat.reduceLeDiff,↓reduceIte,BD,IH,l9d,T.Ag,l3c,r14.Ag,l1,l2,hv3,l4,aEn.Ag,r16.Ag,l9e,r17.Ag,add,r18.Ag];have hE:BS.Gk fe.c d.node an.node s'={b3 with a:=(BS.Cw b3.a g.node (b3.a.nd d.node).AT).D9 d.node g.node 0,A9:=(Bk b3.A9 q).take (F8 Yx (Bk b3.A9 q).length)++{fe.c with node:=g.node}::(Bk b3.A9 q).drop (F8 Yx (Bk b3.A9 q).length),AO:=(DS fe.c.node b3.AO).take (GA (AG (Br d.node) (DS fe.c.node b3.AO)+1) (DS fe.c.node b3.AO).length)++g::(DS fe.c.node b3.AO).drop (GA (AG (Br d.node) (DS fe.c.node b3.AO)+1) (DS fe.c.node b3.AO).length)}:=by
    have rq:FF fe.c.node b3.A9=(q:Int):=by rw[Wm];exact gp
    unfold BS.Gk;simp only
    rw[<-MA,<-sj,<-hnw,rq,Bn,<-pH]
   rw[hE];refine⟨_,rfl,rfl,u3,Z,H,w14,aEo,UZ (Af _) ?_⟩;exact((((x8'.trans (Er (X.trans yj) h.length)).trans x11).trans (Er B9 h.length)).trans (Er B9 h.length)).trans (Er B9 h.length)
 obtain⟨r,h',hr,rfl,o',c',G',w',Rf,x'⟩:=NH.ret;rw[e];exact⟨h',o',c',G',hr,w',Rf,x'⟩
end
section
variable{h h':Ah}{bi a ai:Nat}{o c t:Aa}{G G' F:Nat->Prop}{b b':BS}{x:Int}{m:Nat}
variable{nm:Aq}{av:Aa}{l:List A3}{r:List Aa}{sp p:Int}{e:CN}{at_ mk last:Int}{anc far:Item}
def pJ{blk anc:Int}{far i:Nat}{l:Int}{mk:Nat}:(BS.E7 blk anc far i b l mk).1.AO.length<=b.AO.length:=by
 have h1:(Bk b.AO i).length<=b.AO.length:=Ck.length_le;unfold BS.E7;simp only
 split;.exact h1
 .split;.exact h1
  .have OD:∀nm l p,(b.DA nm l 1 p).AO=b.AO:=λnm l p=>by unfold BS.DA;rw[Ad K9]
   simp only[OD,Bv];exact Af _
def WS{blk anc:Int}{far k m:Nat}:∀{c:Nat} {s:BS×Int×Nat},Ct s.1 (m+4*c)->Ct (BS.JT blk anc far k c s).1 m/\(BS.JT blk anc far k c s).1.AO.length<=s.1.AO.length
 |0,s,r=>⟨r.le Ab,Af _⟩
 |c+1,s,r=>by have d:=UY (blk:=blk) (anc:=anc) (far:=far) (i:=k+(c+1)) (l:=s.2.1) (mk:=s.2.2) (m:=m+4*c) (r.le Ab);have h:=WS (blk:=blk) (anc:=anc) (far:=far) (k:=k) (m:=m) (c:=c) (s:=BS.E7 blk anc far (k+(c+1)) s.1 s.2.1 s.2.2) d;exact⟨h.1,Bm h.2 pJ⟩
def aU{fe:B8}{blk anc:Int}{s:BS×Int×Nat}(r:Ct s.1 (m+4))(Ov:fe.name.length<=1000/\FB fe.Av):Ct (BS.Gk fe blk anc s) m/\(BS.Gk fe blk anc s).AO.length<=s.1.AO.length+1:=by
 unfold BS.Gk;simp only
 generalize oS:s.1.place anc=g;have q:=r.JU (KB (x:=s.2.1) (p:=g.1) (bf:=g.2));generalize MA:({s.1 with a:=s.1.a.Dn s.2.1 g.1 g.2}:BS)=b2 at q;have bM:b2.AO=s.1.AO:=by rw[<-MA]
 have d:=Kv (m:=m+1) (nm:=fe.name) (l:=fe.Av) (sp:=1) (p:=blk) (q.le Ab) Ov.2;have OD:(b2.DA fe.name fe.Av 1 blk).AO=b2.AO:=by unfold BS.DA;rw[Ad K9]
 have j:(b2.HG fe.name fe.Av 1).name.length<=1000:=N0 Ov.1;generalize b2.DA fe.name fe.Av 1 blk=b3 at*;generalize b2.HG fe.name fe.Av 1=n at*;have u:=d.JU ((OX (n:=n.node) (l:=(b3.a.nd blk).AT)).trans (KA (p:=blk) (x:=n.node) (bf:=0)));have My:∀{U:Type} (l:List U) (k:Nat) (y:U),(l.take k++y::l.drop k).length=l.length+1/\∀z∈l.take k++y::l.drop k,z∈l\/z=y:=λl k y=>⟨by rw[Ap,AU,Au,AV];omega,λz hz=>by
  rcases Ak.1 hz with hz|hz
  .exact .inl (AN hz)
  .rcases Az.1 hz with rfl|hz
   .exact .inr rfl
   .exact .inl (A6 hz)⟩
 have hr:=Lt (n:=fe.node) (l:=b3.AO);have hd:=Ck (l:=b3.A9) (k:=(FF fe.node b3.A9).toNat);have f:=u.le (m':=m) Ab;refine⟨⟨f.n,f.at_,f.data,?_,?_,f.tm,λe he=>?_,λi hi=>?_⟩,?_⟩;.simp only[(My _ _ _).1];have:=hr.length_le;have:=d.AO;omega
 .simp only[(My _ _ _).1];have:=hd.length_le;have:=d.A9;omega
 .rcases(My _ _ _).2 e he with he|rfl
  .exact d.Dy e (hd.subset he)
  .exact Ov
 .rcases(My _ _ _).2 i hi with hi|rfl
  .exact d.aB i (hr.subset hi)
  .exact j
 .simp only[(My _ _ _).1];have h1:=hr.length_le;have h2:=Ca List.length (OD.trans bM);omega
def U4(r:Ct b (m+4*b.AO.length+10))(nm:Aq):Ct (b.round nm).2 m/\(b.round nm).2.AO.length<=b.AO.length+1:=by
 have d:Ct b m:=r.le Ab;unfold BS.round;simp only
 split
 .have key:(b.Dw nm).a=b.a/\List.Sublist (b.Dw nm).AO b.AO/\(b.Dw nm).A9=b.A9/\(b.Dw nm).tm=b.tm:=by
   unfold BS.Dw;split
   .split;.exact⟨rfl,Hp.trans E8,rfl,rfl⟩
    .exact⟨rfl,AF _,rfl,rfl⟩
   .exact⟨rfl,AF _,rfl,rfl⟩
  exact⟨d.sub key.1 key.2.1 (by rw[key.2.2.1];exact AF _) (by rw[key.2.2.2];exact Af _),Bm key.2.1.length_le (EX _)⟩
 .rename_i hf;obtain⟨f,HV,g⟩:=aS (RG.1 hf);have wZ:b.A9.getD (EF nm b.A9).toNat B8.zero=b.A9[f]:=by rw[g,Bn,Ax,Ai HV];rfl
  have Ov:=r.Dy _ (AJ HV);rw[wZ];split;.exact⟨d.sub rfl (AF _) Ck (Af _),EX _⟩
  .split;.exact⟨d,EX _⟩
   .split;.exact⟨d.sub rfl Hp Ck (Af _),Bm Hp.length_le (EX _)⟩
    .rename_i hk _ hfa;have hlt:(CK b.A9[f].node b.AO).toNat-1 -(AG (Br b.A9[f].node) b.AO).toNat<=b.AO.length:=by
      rw[JR];split;.omega
      .unfold Fm;split;.rename_i j hj;have:=(Gc.1 hj).1;rw[AV] at this;omega
       .omega
     have h1:=WS (blk:=(b.AO.getD (CK b.A9[f].node b.AO).toNat Item.zero).node) (anc:=(b.AO.getD ((AG (Br b.A9[f].node) b.AO).toNat-1) Item.zero).node) (far:=(CK b.A9[f].node b.AO).toNat) (k:=(AG (Br b.A9[f].node) b.AO).toNat) (m:=m+4) (c:=(CK b.A9[f].node b.AO).toNat-1 -(AG (Br b.A9[f].node) b.AO).toNat) (s:=(b,(b.AO.getD (CK b.A9[f].node b.AO).toNat Item.zero).node,(EF nm b.A9).toNat)) (r.le Ab);have h2:=aU (fe:=b.A9[f]) (blk:=(b.AO.getD (CK b.A9[f].node b.AO).toNat Item.zero).node) (anc:=(b.AO.getD ((AG (Br b.A9[f].node) b.AO).toNat-1) Item.zero).node) h1.1 Ov;exact⟨h2.1,Bm h2.2 (Nat.succ_le_succ h1.2)⟩
def Sl:∀{n:Nat} {b:BS} {k:Nat},b.AO.length<=k->Ct b (m+n*(4*(k+n)+10))->Ct (BS.Eo n b nm) m/\(BS.Eo n b nm).AO.length<=k+n
 |0,b,k,hk,r=>⟨r.le Ab,hk⟩
 |n+1,b,k,hk,r=>by
  have e:(n+1)*(4*(k+(n+1))+10)=n*(4*(k+1+n)+10)+(4*(k+(n+1))+10):=by rw[Bs,Ef,(Ab:k+(n+1)=k+1+n)]
  rw[e] at r;have h1:=U4 (m:=m+n*(4*(k+1+n)+10)) (r.le Ab) nm;unfold BS.Eo;simp only
  split;.have h2:=Sl (n:=n) (k:=k+1) Ab h1.1;exact⟨h2.1,Ab⟩
  .exact⟨h1.1.le Ab,Ab⟩
def aEr(w:BX h bi a o c t G b)(hc:Dj b.A9 c)(ok:Dz b)(rm:Ct b (m+8*(4*(b.AO.length+8)+10)))(nm:Aq):
  ∃h' o' c' G',Cx cx 66 [Pt bi 0,.str nm] h (.tuple []) h'/\BX h' bi a o' c' t G' (b.HT nm)/\Dj (b.HT nm).A9 c'/\FD h (BE bi G) h' (BE bi G'):=by
 have ho:=rm.AO;have B:=xw w rm;have em:Ay (.Cf 1) [.str nm]=some (.sl 1 ([nm].map C1)):=EW (ws:=[nm]) rfl Aw;have r2:Cx cx 93 [.agg (E6 b.AO).row,.sl 1 ([nm].map C1)] h (.bool (Bl [nm] (E6 b.AO))) h:=gF (ws:=[nm]) D7 Aw _ h;have E:=hc.at w rm (E6 b.AO).node;have D:b.S4.A9=b.A9:=by unfold BS.S4;split<;>rfl
 by_cases h1:Bl [nm] (E6 b.AO)=true/\FF (E6 b.AO).node b.A9<0
 .obtain⟨h2,s,K,w2,j⟩:=Ź w rm;have e:b.HT nm=b.S4:=by unfold BS.HT;rw[Ad h1]
  rw[e];refine⟨h2,s,c,G,?_,w2,by rw[D];exact hc,j⟩;rw[h1.1] at r2;rw[Aj,vA,t66];simp only[abS,IH,(Hg w).Ag,B.Ag,em,r2.Ag,E.Ag,h1.2,K.Ag]
 have e:b.HT nm=BS.Eo 8 b nm:=by unfold BS.HT;rw[Ac h1]
 rw[e];have NH:Ev cx 66 [Pt bi 0,.str nm] h λr h'=>r= .tuple []/\∃o' c' G',BX h' bi a o' c' t G' (BS.Eo 8 b nm)/\Dj (BS.Eo 8 b nm).A9 c'/\FD h (BE bi G) h' (BE bi G'):=by
  unfold Ev;rw[vA,t66];have Iv:∀(Q:IN) (k:Fs->List Aa->IT),(∀x vs h1,(x= .exit 0\/x= .ret)->(∃o' c' G',BX h1 bi a o' c' t G' (BS.Eo 8 b nm)/\Dj (BS.Eo 8 b nm).A9 c'/\FD h (BE bi G) h1 (BE bi G'))->W cx (k x vs) Q h1)->
    W cx (.loop 5 [I 0] (λd=> .op (.int .lss) [g d 0,I 8] λv14=> .AX v14 (.call 115 [Pt bi 0,.str nm] λA=> .op (.un .not) [A] λv16=> .AX v16 (.ret .ret [g d 0]) (.op (.int .add) [g d 0,I 1] λz=> .ret .normal [z])) (.ret (.exit 0) [g d 0])) k) Q h:=by
   intro Q k hk;refine BI (λn:Nat=>[I ((8 -n:Nat):Int)]) (λn h1=>n<=8/\∃C u v b1,BX h1 bi a C u t v b1/\Dj b1.A9 u/\Dz b1/\Ct b1 (m+n*(4*(b.AO.length+8)+10))/\b1.AO.length<=b.AO.length+(8 -n)/\BS.Eo 8 b nm=BS.Eo n b1 nm/\FD h (BE bi G) h1 (BE bi v)) (λn=>n) 8 rfl ⟨Af _,o,c,G,b,w,hc,ok,rm,Ab,rfl,.refl⟩ ?_;rintro n h1 ⟨hn,C,u,v,b1,w1,Vt,qJ,D_,Wk,i,y⟩;cases n with
   |zero=>simp only[abS,(Bj:¬((8 -0:Nat):Int)<8)];exact hk _ _ _ (.inl rfl) ⟨C,u,v,by rw[i];exact w1,by rw[i];exact Vt,y⟩
   |succ n=>
    have hsp:(n+1)*(4*(b.AO.length+8)+10)=n*(4*(b.AO.length+8)+10)+(4*(b.AO.length+8)+10):=by rw[Bs,Ef]
    rw[hsp] at D_;have aAi:Ct b1 (m+n*(4*(b.AO.length+8)+10)+4*b1.AO.length+10):=D_.le Ab;obtain⟨h2,s,H,J,q,w2,JB,j⟩:=aD8 w1 Vt qJ aAi nm;obtain⟨gG,YP⟩:=U4 aAi nm;have xz:=(Qt (nm:=nm) qJ).1;have hlt:((8 -(n+1):Nat):Int)<8:=Ab;have inc:Ay (.int .add) [I ((8 -(n+1):Nat):Int),I 1]=some (I ((8 -n:Nat):Int)):=by have:=Ci (n:=8 -(n+1)) Ab;rwa [(Ab:8 -(n+1)+1=8 -n)] at this
    have f:BS.Eo (n+1) b1 nm=if(b1.round nm).1 then BS.Eo n (b1.round nm).2 nm else(b1.round nm).2:=rfl
    cases hr:(b1.round nm).1 with
    |true=>rw[hr] at q f;simp only[abS,hlt,q.Ag,inc];exact A8.next n rfl ⟨Ab,s,H,J,_,w2,JB,xz,gG,Ab,i.trans f,y.trans j⟩ Ab
    |false=>rw[hr] at q f;simp only[abS,hlt,q.Ag];exact hk _ _ _ (.inr rfl) ⟨s,H,J,by rw[i,f];exact w2,by rw[i,f];exact JB,y.trans j⟩
  by_cases h2:Bl [nm] (E6 b.AO)=true
  .have L:¬FF (E6 b.AO).node b.A9<0:=λh=>h1 ⟨h2,h⟩;rw[h2] at r2;simp only[abS,IH,(Hg w).Ag,B.Ag,em,r2.Ag,E.Ag,L];refine Iv _ _ ?_;rintro x vs h1 (rfl|rfl) ⟨o',c',G',a1,a2,a3⟩;.simp only[Cr];exact⟨_,rfl,rfl,o',c',G',a1,a2,a3⟩
   .simp only[Cr];exact⟨_,rfl,rfl,o',c',G',a1,a2,a3⟩
  .have h2:Bl [nm] (E6 b.AO)=false:=by simpa using h2
   rw[h2] at r2;simp only[abS,IH,(Hg w).Ag,B.Ag,em,r2.Ag];refine Iv _ _ ?_;rintro x vs h1 (rfl|rfl) ⟨o',c',G',a1,a2,a3⟩;.simp only[Cr];exact⟨_,rfl,rfl,o',c',G',a1,a2,a3⟩
   .simp only[Cr];exact⟨_,rfl,rfl,o',c',G',a1,a2,a3⟩
 obtain⟨r,h',hr,rfl,o',c',G',w',Rf,x'⟩:=NH.ret;exact⟨h',o',c',G',hr,w',Rf,x'⟩
end
structure bU where
 k:Int
 name:Aq
 Av:List A3
 AW:Int
 a:Int
 b:Bool
 s:Aq
 r:Int
 n:Int
def Mt(h:Int):Item:=⟨h,0,[],false⟩
def bV(b:BS)(q:bU):BS×Item:=
 if q.k=1 then(b.DV q.name q.Av 1,Mt (b.a.len+1))
 else if q.k=2 then(b.DV q.name q.Av q.AW,Mt (b.VF q.AW))
 else if q.k=3 then(b.Ij q.name q.Av,Mt (b.a.len+1))
 else if q.k=4 then(b.Z7 q.r,Item.zero)
 else if q.k=5 then(b.JH q.s q.a,Item.zero)
 else if q.k=6 then(b.Qo q.name q.Av q.n,Item.zero)
 else if q.k=7 then(b.I1,Item.zero)
 else if q.k=8 then(b.Eb,Item.zero)
 else if q.k=9 then(b.Dw q.name,Item.zero)
 else if q.k=10 then(b.HT q.name,Item.zero)
 else if q.k=11 then(b.KQ,Item.zero)
 else if q.k=12 then(b.H8 q.Av q.a,Item.zero)
 else if q.k=13 then(b.C7,Item.zero)
 else if q.k=14 then({b with stop:=true},Item.zero)
 else if q.k=15 then({b with ES:=q.b},Item.zero)
 else if q.k=16 then({b with tm:=b.tm++[q.n]},Item.zero)
 else if q.k=17 then({b with A9:=b.A9++[B8.zero]},Item.zero)
 else if q.k=18 then(b.S4,b.uA)
 else if q.k=19 then({b with head:=q.a},Item.zero)
 else if q.k=20 then({b with mode:=q.n},Item.zero)
 else if q.k=21 then({b with A9:=HQ b.A9},Item.zero)
 else if q.k=22 then({b with AO:=E0 Ee (Bl [q.name]) b.AO},Item.zero)
 else if q.k=23 then({b with Ps:=q.a},Item.zero)
 else if q.k=24 then(b.DA q.name q.Av q.AW q.a,b.HG q.name q.Av q.AW)
 else(b,Item.zero)
structure nl(q:bU):Prop where
 name:q.name.length<=1000
 Av:FB q.Av
 s:q.s.length<=1000
 r: -2147483648<=q.r/\q.r<=2147483647
section
variable{b:BS}{q:bU}{m j:Nat}
def yl(o:Dz b){nm:Aq}{l:List A3}{sp p:Int}:Dz (b.DA nm l sp p):=by
 by_cases hs:BS.HR sp;.exact(JV o hs).1
 .unfold BS.DA;rw[Ac hs];exact o
def iy(o:Dz b):Dz {b with A9:=b.A9++[B8.zero]}:=by have:=o.ud (e:=B8.zero) (k:=b.A9.length) (.inl rfl) (.inl rfl);rw[B7,Hv] at this;exact this
def Ec{U:Type}{P:U->Prop}{c:Prop}[Decidable c]{x y:U}(h1:P x)(h2:P y):P (if c then x else y):=by split;exact h1;exact h2
def U5{P:BS×Item->Prop}(h1:P (b.DV q.name q.Av 1,Mt (b.a.len+1)))(h2:P (b.DV q.name q.Av q.AW,Mt (b.VF q.AW)))(B:P (b.Ij q.name q.Av,Mt (b.a.len+1)))(A:P (b.Z7 q.r,Item.zero))(z:P (b.JH q.s q.a,Item.zero))(y:P (b.Qo q.name q.Av q.n,Item.zero))(x:P (b.I1,Item.zero))(w:P (b.Eb,Item.zero))(v:P (b.Dw q.name,Item.zero))(gA:P (b.HT q.name,Item.zero))(jD:P (b.KQ,Item.zero))(u:P (b.H8 q.Av q.a,Item.zero))(t:P (b.C7,Item.zero))(p:P ({b with stop:=true},Item.zero))(o:P ({b with ES:=q.b},Item.zero))(l:P ({b with tm:=b.tm++[q.n]},Item.zero))(k:P ({b with A9:=b.A9++[B8.zero]},Item.zero))(i:P (b.S4,b.uA))(h:P ({b with head:=q.a},Item.zero))(g:P ({b with mode:=q.n},Item.zero))(f:P ({b with A9:=HQ b.A9},Item.zero))(e:P ({b with AO:=E0 Ee (Bl [q.name]) b.AO},Item.zero))(d:P ({b with Ps:=q.a},Item.zero))(c:P (b.DA q.name q.Av q.AW q.a,b.HG q.name q.Av q.AW))(h0:P (b,Item.zero)):P (bV b q):=by unfold bV;exact Ec h1 (Ec h2 (Ec B (Ec A (Ec z (Ec y (Ec x (Ec w (Ec v (Ec gA (Ec jD (Ec u (Ec t (Ec p (Ec o (Ec l (Ec k (Ec i (Ec h (Ec g (Ec f (Ec e (Ec d (Ec c (h0))))))))))))))))))))))))
def xB(o:Dz b):Dz (bV b q).1:=U5 (P:=λr=>Dz r.1) (NZ (nm:=q.name) (at_:=q.Av) (sp:=1) o) (NZ o) (oO o) (bh o) (fF o) (fG o) (oQ o) (fH o) (WI o) (oT o) (Qr o) (uG o) (UE o) (o.of_eq rfl rfl rfl rfl) (o.of_eq rfl rfl rfl rfl) (o.of_eq rfl rfl rfl rfl) (iy o) (uH o) (o.of_eq rfl rfl rfl rfl) (o.of_eq rfl rfl rfl rfl) (o.fC (ET _ _)) (o.Ya E8) (o.of_eq rfl rfl rfl rfl) (yl o) o
def Ct.lX{k m:Nat}{h:Int}{x:D8}(r:Ct b (m+k))(h1:x.Av.length<=(b.a.nd h).Av.length+k\/x.Av.length<=1000)(h2:x.data.length<=(b.a.nd h).data.length+k\/x.data.length<=100000):Ct {b with a:=b.a.set h x} m:=by
 have hn:(b.a.set h x).n.length=b.a.n.length:=by have:=au (A:=b.a) (h:=h) (x:=x);unfold Ar.len at this;omega
 have c:=r.le (m':=m) Ab;have rn:=r.n;refine⟨by simp only;rw[hn];exact c.n,λy=>?_,λy=>?_,c.AO,c.A9,c.tm,c.Dy,c.aB⟩
 .simp only;rw[FA];split;.rename_i d;have:=r.at_ h;omega
  .exact c.at_ y
 .simp only;rw[FA];split;.have:=r.data h;omega
  .exact c.data y
def aV{m:Nat}{s:Aq}{p bf:Int}(r:Ct b (m+5))(hs:s.length<=4):Ct {b with a:=BS.HS b.a s p bf} m:=by
 have L7:∀d,Ct {b with a:=(b.a.add {kind:=5,BO:=d,data:=s}).Dn (b.a.len+1) p bf} m:=λd=>((r.le (m':=m+1) Ab).FJ (Mp (A7 _) Hc)).JU KB
 have c:=r.le (m':=m) Ab;unfold BS.HS;split
 .split
  .split;.exact Ct.lX (k:=5) r (.inl Hc) (.inl (by simp only[Ap];omega))
   .exact L7 _
  .exact L7 _
 .exact c
def N5{m:Nat}{s:Aq}{p bf:Int}(r:Ct b (m+5))(hs:s.length<=100000):Ct {b with a:=BS.DD b.a s p bf} m:=by
 unfold BS.DD;split;.exact((r.le (m':=m+1) Ab).FJ (Mp (A7 _) hs)).JU KB
 .exact r.le Ab
end
section
variable{b:BS}{q:bU}{m j:Nat}{nm:Aq}
def gK{l:List A3}{x:Int}(r:Ct b (m+1000))(hl:l.length<=1000):Ct (b.H8 l x) m:=by
 unfold BS.H8;split;.refine Ct.lX (k:=1000) r (.inl ?_) (.inl Hc);have:=Oo (l:=(b.a.nd x).Av++BS.plain l);rw[Ap,BS.plain,As] at this;unfold BS.plain;simp only;omega
 .exact r.le Ab
def WT:∀{l:List B8} {b:BS},(BS.HH l b).2.AO.length<=b.AO.length+l.length/\(BS.HH l b).2.A9=b.A9/\(BS.HH l b).1.length=l.length/\∀e∈(BS.HH l b).1,∃a∈l,e.name=a.name/\e.Av=a.Av
 |[],b=>⟨by simp[BS.HH],rfl,rfl,λe he=>by simp[BS.HH] at he⟩
 |e::l,b=>by
  obtain⟨h1,h2,g,f⟩:=WT (l:=l) (b:=b.DV e.name e.Av 1);have i:(b.DV e.name e.Av 1).AO.length<=b.AO.length+1:=by
   unfold BS.DV;rw[Ad K9];simp only
   have:(b.DA e.name e.Av 1 (b.place 0).1).AO=b.AO:=by unfold BS.DA;rw[Ad K9]
   rw[Ap,BR];first|(rw[this];exact Af _)|exact Af _
  rw[BS.HH];refine⟨by simp only[AU];omega,by simp only;rw[h2,Hq],by simp only[AU,g],λh he=>?_⟩;rcases Az.1 he with rfl|he
  .exact⟨e,Aw,rfl,rfl⟩
  .obtain⟨a,d,c⟩:=f h he;exact⟨a,by simp[d],c⟩
def Yy(r:Ct b (m+4*b.A9.length)):Ct b.Eb m/\b.Eb.AO.length<=b.AO.length+b.A9.length/\b.Eb.A9.length=b.A9.length:=by
 have hk:=Yr (b:=b);have a:=WR (l:=b.A9.drop b.MZ) (b:=b) (m:=m) (r.le (by rw[AV];omega)) λe he=>r.Dy e (A6 he);obtain⟨h1,h2,c,h⟩:=WT (l:=b.A9.drop b.MZ) (b:=b);rw[AV] at h1 c;have hl:b.Eb.A9.length=b.A9.length:=by unfold BS.Eb;simp only[Ap,Au,c];omega
 refine⟨⟨a.n,a.at_,a.data,a.AO,?_,a.tm,λe he=>?_,a.aB⟩,by unfold BS.Eb;simp only;omega,hl⟩;.rw[hl];have:=r.A9;omega
 .unfold BS.Eb at he;simp only at he;rcases Ak.1 he with he|he
  .exact r.Dy e (AN he)
  .obtain⟨i,g,f,d⟩:=h e he;rw[f,d];exact r.Dy i (A6 g)
def aW{blk anc:Int}{far k:Nat}:∀{c:Nat} {s:BS×Int×Nat},(BS.JT blk anc far k c s).1.A9.length<=s.1.A9.length
 |0,s=>Af _
 |c+1,s=>by
  refine Bm (aW (c:=c)) ?_;unfold BS.E7;simp only
  split;.exact Af _
  .split;.exact Ck.length_le
   .have:∀nm l p,(s.1.DA nm l 1 p).A9=s.1.A9:=λnm l p=>by unfold BS.DA;rw[Ad K9]
    simp only[this,Bv];exact Af _
def pK:(b.round nm).2.A9.length<=b.A9.length+1:=by
 unfold BS.round;simp only
 split
 .have:(b.Dw nm).A9=b.A9:=by
   unfold BS.Dw;split;.split<;>rfl
   .rfl
  rw[this];omega
 .split;.exact Bm Ck.length_le (EX _)
  .split;.exact EX _
   .split;.exact Bm Ck.length_le (EX _)
    .unfold BS.Gk;simp only
     generalize hs:BS.JT _ _ _ _ _ _=s;have h1:s.1.A9.length<=b.A9.length:=by rw[<-hs];exact aW
     have:∀(b2:BS) nm l p,(b2.DA nm l 1 p).A9=b2.A9:=λb2 nm l p=>by unfold BS.DA;rw[Ad K9]
     simp only[this,Ap,AU,Au,AV];have h2:∀k,(Bk s.1.A9 k).length<=s.1.A9.length:=λk=>Ck.length_le;refine Bm (m:=(Bk s.1.A9 (FF (b.A9.getD (EF nm b.A9).toNat B8.zero).node s.1.A9).toNat).length+1) ?_ (Nat.succ_le_succ (Bm (h2 _) h1));omega
def U7:∀{n:Nat} {b:BS},(BS.Eo n b nm).A9.length<=b.A9.length+n
 |0,b=>Af _
 |n+1,b=>by
  have h:=pK (b:=b) (nm:=nm);unfold BS.Eo;simp only
  split;.have:=U7 (n:=n) (b:=(b.round nm).2);omega
  .omega
structure Sz(b:BS)(j:Nat):Prop where
 rm:Ct b (5000000*j)
 AO:b.AO.length+1200*j<=125000
 A9:b.A9.length+10*j<=1100
def Sz.of{b':BS}(h:Sz b (j+1))(r:Ct b' (5000000*j))(h1:b'.AO.length<=b.AO.length+1200)(h2:b'.A9.length<=b.A9.length+10):Sz b' j:=⟨r,by have:=h.AO;omega,by have:=h.A9;omega⟩
def Sz.gL{k:Nat}(h:Sz b (j+1))(hk:k<=5000000:=by omega):Ct b (5000000*j+k):=h.rm.le Ab
def Sz.Nl{b':BS}(h:Sz b (j+1))(ha:b'.a=b.a)(ho:b'.AO.Sublist b.AO)(hc:b'.A9.Sublist b.A9)(ht:b'.tm.length<=b.tm.length):Sz b' j:=
 h.of ((h.rm.le Ab).sub ha ho hc ht) (by have:=ho.length_le;omega) (by have:=hc.length_le;omega)
def Sz.S4(h:Sz b (j+1)):Sz b.S4 j:=by
 unfold BS.S4;split;.exact h.Nl rfl (AF _) (AF _) (Af _)
 .exact h.Nl rfl (ET _ _) (AF _) (Af _)
def QC{l:List A3}{sp:Int}:(b.DV nm l sp).AO.length<=b.AO.length+1200:=by
 unfold BS.DV;split
 .rename_i hs;have:(b.DA nm l sp (b.place 0).1).AO=b.AO:=by unfold BS.DA;rw[Ad hs]
  have:=Ca List.length this;simp only[Ap,BR];omega
 .omega
def gM{l:List A3}:(b.Ij nm l).A9.length<=b.A9.length+10:=by
 unfold BS.Ij;simp only
 obtain⟨l',h1,h2⟩:=UD (l:=(b.DV nm l 1).A9) (e:=⟨b.a.len+1,nm,l⟩);rw[h2,Ap,BR];have:=h1.length_le;rw[Hq] at this;omega
def ym(h:Sz b (j+1))(hq:nl q):Sz (bV b q).1 j:=U5 (P:=λr=>Sz r.1 j)
 (h.of (Mq (sp:=1) h.gL hq.Av hq.name) QC (by rw[Hq];omega))
 (h.of (Mq h.gL hq.Av hq.name) QC (by rw[Hq];omega))
 (h.of (aD h.gL hq.Av hq.name) QC gM)
 (h.of (aV h.gL (aN _)) (Fg _ _) (Fg _ _))
 (by
  dsimp only;unfold BS.JH;split;.exact h.of (N5 h.gL (by have:=hq.s;omega)) (Fg _ _) (Fg _ _)
  .exact h.of (N5 h.gL (by have:=hq.s;omega)) (Fg _ _) (Fg _ _))
 (h.of ((Mq h.gL hq.Av hq.name).eq rfl rfl rfl rfl) QC (by show(b.DV q.name q.Av 1).A9.length<=_;rw[Hq];omega))
 (by
  dsimp only;unfold BS.I1;split;.exact h.Nl rfl (E8.trans E8) (AF _) (Af _)
  .exact h.Nl rfl (AF _) (AF _) (Af _))
 (by dsimp only;have h1:=Yy (m:=5000000*j) (h.rm.le (by have:=h.A9;omega));exact h.of h1.1 (by have:=h.A9;have:=h1.2.1;omega) (by rw[h1.2.2];omega))
 (by
  dsimp only;unfold BS.Dw;split
  .split;.exact h.Nl rfl (Hp.trans E8) (AF _) (Af _)
   .exact h.Nl rfl (AF _) (AF _) (Af _)
  .exact h.Nl rfl (AF _) (AF _) (Af _))
 (by
  dsimp only;unfold BS.HT;split;.exact h.S4
  .have h1:=Sl (n:=8) (b:=b) (k:=b.AO.length) (nm:=q.name) (m:=5000000*j) (Af _) (h.rm.le (by have:=h.AO;omega));exact h.of h1.1 (by have:=h1.2;omega) (by have:=U7 (n:=8) (b:=b) (nm:=q.name);omega))
 (h.Nl rfl (AF _) (AF _) (Af _))
 (by
  dsimp only;have e:(b.H8 q.Av q.a).AO=b.AO/\(b.H8 q.Av q.a).A9=b.A9:=by unfold BS.H8;split<;>exact⟨rfl,rfl⟩
  exact h.of (gK (m:=5000000*j) (h.rm.le Ab) hq.Av.1) (by rw[e.1];omega) (by rw[e.2];omega))
 (by
  dsimp only;unfold BS.C7;split;.exact h.Nl rfl (AF _) (AF _) (Af _)
  .exact h.Nl rfl (show(E0 Ee (Bl [AY]) (E0 DG Ee b.AO)).Sublist b.AO from E8.trans E8) (ET _ _) (Aw:b.tm.dropLast.length<=b.tm.length))
 (h.Nl rfl (AF _) (AF _) (Af _))
 (h.Nl rfl (AF _) (AF _) (Af _))
 (by dsimp only;have r:=h.rm.le (m':=5000000*j+1) Ab;have c:=r.le (m':=5000000*j) Ab;exact h.of ⟨c.n,c.at_,c.data,c.AO,c.A9,by have:=r.tm;simp only[Ap,BR];omega,c.Dy,c.aB⟩ (Fg _ _) (Fg _ _))
 (by
  dsimp only;refine h.of ((h.rm.le (m':=5000000*j+1) Ab).me (e:=B8.zero) Aw (λe he=>?_) ⟨Bj,Bj,λa ha=>by cases ha⟩) (Fg _ _) Aw;rcases Ak.1 he with he|he
  .exact .inl he
  .exact .inr (by simpa using he))
 (h.S4)
 (h.Nl rfl (AF _) (AF _) (Af _))
 (h.Nl rfl (AF _) (AF _) (Af _))
 (h.Nl rfl (AF _) (ET _ _) (Af _))
 (h.Nl rfl E8 (AF _) (Af _))
 (h.Nl rfl (AF _) (AF _) (Af _))
 (by
  dsimp only;have e:(b.DA q.name q.Av q.AW q.a).AO=b.AO/\(b.DA q.name q.Av q.AW q.a).A9=b.A9:=by unfold BS.DA;split<;>exact⟨rfl,rfl⟩
  exact h.of (Kv (m:=5000000*j) (h.rm.le Ab) hq.Av) (by rw[e.1];omega) (by rw[e.2];omega))
 (h.Nl rfl (AF _) (AF _) (Af _))
end
def Pw(q:bU)(av:Aa):List Aa:=[I q.k,.str q.name,av,I q.AW,I q.a,.bool q.b,.str q.s,.int .i32 q.r,I q.n]
section
variable{h h':Ah}{bi a:Nat}{o c t:Aa}{G G' F:Nat->Prop}{b:BS}{x:Int}{m j:Nat}{q:bU}
variable{nm:Aq}{av:Aa}{l:List A3}{r:List Aa}{sp p:Int}
def pL(hv:Cp q.Av av)(hl:q.Av.length<=1000)(h:Ah):∃r np,Cx cx 59 [.agg (Pw q av)] h (.agg r) h/\VL q.name np r/\Cp q.Av np:=by have af:AQ=140737488355328:=rfl;obtain⟨u,e,hu⟩:=Bu.NT (b:=40) hv Ab;have hc:u.cells=[u]:=Bu.cells hu;refine⟨_,u,?_,⟨I 2,ff,S [],ff,S [],ff,ff,ff,S [],.int .i32 0,rfl⟩,hu⟩;rw[Aj,ux,t59,Pw];simp only[abS,Nat.reduceLeDiff,↓reduceIte,BD,e,hc]
def aAj(i:Item)(h:Ah):Cx cx 72 [.agg i.row] h (.agg i.row) h:=by rw[Aj,vf,t72,Item.row];simp only[abS,Nat.reduceLeDiff,↓reduceIte,BD]
set_option maxHeartbeats 4000000 in
def aEs(w:BX h bi a o c t G b)(hc:Dj b.A9 c)(ok:Dz b)(sz:Sz b (j+1))(hq:nl q)(hv:Cp q.Av av):
  ∃h' o' c' t' G',Cx cx 23 [Pt bi 0,.agg (Pw q av)] h (.agg (bV b q).2.row) h'/\BX h' bi a o' c' t' G' (bV b q).1/\Dj (bV b q).1.A9 c'/\FD h (BE bi G) h' (BE bi G'):=by
 unfold bV Pw;by_cases d:q.k=1;.rw[Ad d];dsimp only;obtain⟨r,np,D,hr,Ig⟩:=pL (q:=q) hv hq.Av.1 h;rw[Pw] at D;obtain⟨h',o',G',r2,w',x'⟩:=gr (m:=5000000*j) w ok sz.gL hr Ig hq.Av hq.name;refine⟨h',o',c,t,G',?_,w',by rw[Hq];exact hc,x'⟩;rw[Aj,E1,Sj];simp only[abS,Nat.reduceLeDiff,↓reduceIte,BD,CZ d,D.Ag,r2.Ag];try rfl
 rw[Ac d];by_cases f:q.k=2;.rw[Ad f];dsimp only;obtain⟨r,np,D,hr,Ig⟩:=pL (q:=q) hv hq.Av.1 h;rw[Pw] at D;obtain⟨h',o',G',r2,w',x'⟩:=Ū (m:=5000000*j) w ok sz.gL hr Ig hq.Av hq.name q.AW;refine⟨h',o',c,t,G',?_,w',by rw[Hq];exact hc,x'⟩;rw[Aj,E1,Sj];simp only[abS,Nat.reduceLeDiff,↓reduceIte,BD,d,CZ f,D.Ag,r2.Ag];try rfl
 rw[Ac f];by_cases g:q.k=3;.rw[Ad g];dsimp only;obtain⟨r,np,D,hr,Ig⟩:=pL (q:=q) hv hq.Av.1 h;rw[Pw] at D;obtain⟨h',o',c',G',r2,w',Rf,x'⟩:=aDL (m:=5000000*j) w hc ok sz.gL hr Ig hq.Av hq.name;refine⟨h',o',c',t,G',?_,w',Rf,x'⟩;rw[Aj,E1,Sj];simp only[abS,Nat.reduceLeDiff,↓reduceIte,BD,d,f,CZ g,D.Ag,r2.Ag];try rfl
 rw[Ac g];by_cases i:q.k=4;.rw[Ad i];dsimp only;obtain⟨h',G',r2,w',x'⟩:=aDO (m:=5000000*j) w ok sz.gL q.r hq.r;refine⟨h',o,c,t,G',?_,w',hc,x'⟩;rw[Aj,E1,Sj];simp only[abS,↓reduceIte,BD,d,f,g,CZ i,r2.Ag];try rfl
 rw[Ac i];by_cases y:q.k=5;.rw[Ad y];dsimp only;obtain⟨h',G',r2,w',x'⟩:=aDQ (m:=5000000*j) w ok sz.gL q.s (by have:=hq.s;omega) q.a;refine⟨h',o,c,t,G',?_,w',hc,x'⟩;rw[Aj,E1,Sj];simp only[abS,↓reduceIte,BD,d,f,g,i,CZ y,r2.Ag];try rfl
 rw[Ac y];by_cases z:q.k=6;.rw[Ad z];dsimp only;obtain⟨r,np,D,hr,Ig⟩:=pL (q:=q) hv hq.Av.1 h;rw[Pw] at D;obtain⟨h',o',G',r2,w',x'⟩:=aDR (m:=5000000*j) w ok sz.gL hr Ig hq.Av hq.name q.n;refine⟨h',o',c,t,G',?_,w',by show Dj (b.DV q.name q.Av 1).A9 c;rw[Hq];exact hc,x'⟩;rw[Aj,E1,Sj];simp only[abS,↓reduceIte,BD,d,f,g,i,y,CZ z,D.Ag,r2.Ag];try rfl
 rw[Ac z];by_cases A:q.k=7;.rw[Ad A];dsimp only;obtain⟨h',o',r2,w',x'⟩:=aDS w sz.rm;refine⟨h',o',c,t,G,?_,w',by have e:b.I1.A9=b.A9:=(by unfold BS.I1;split<;>rfl);rw[e];exact hc,x'⟩;rw[Aj,E1,Sj];simp only[abS,↓reduceIte,BD,d,f,g,i,y,z,CZ A,r2.Ag];try rfl
 rw[Ac A];by_cases B:q.k=8;.rw[Ad B];dsimp only;obtain⟨h',o',c',G',r2,w',Rf,x'⟩:=aDZ (m:=5000000*j) w hc ok (sz.rm.le (by have:=sz.A9;omega));refine⟨h',o',c',t,G',?_,w',Rf,x'⟩;rw[Aj,E1,Sj];simp only[abS,↓reduceIte,BD,d,f,g,i,y,z,A,CZ B,r2.Ag];try rfl
 rw[Ac B];by_cases C:q.k=9;.rw[Ad C];dsimp only;obtain⟨h',o',r2,w',x'⟩:=Ų w sz.rm q.name;refine⟨h',o',c,t,G,?_,w',by have e:(b.Dw q.name).A9=b.A9:=(by unfold BS.Dw;split;split<;>rfl;rfl);rw[e];exact hc,x'⟩;rw[Aj,E1,Sj];simp only[abS,↓reduceIte,BD,d,f,g,i,y,z,A,B,CZ C,r2.Ag];try rfl
 rw[Ac C];by_cases YS:q.k=10;.rw[Ad YS];dsimp only;obtain⟨h',o',c',G',r2,w',Rf,x'⟩:=aEr (m:=5000000*j) w hc ok (sz.rm.le (by have:=sz.AO;omega)) q.name;refine⟨h',o',c',t,G',?_,w',Rf,x'⟩;rw[Aj,E1,Sj];simp only[abS,↓reduceIte,BD,d,f,g,i,y,z,A,B,C,CZ YS,r2.Ag];try rfl
 rw[Ac YS];by_cases aX:q.k=11;.rw[Ad aX];dsimp only;obtain⟨h',r2,w',x'⟩:=gy w sz.rm;refine⟨h',o,c,t,G,?_,w',hc,x'⟩;rw[Aj,E1,Sj];simp only[abS,↓reduceIte,BD,d,f,g,i,y,z,A,B,C,YS,CZ aX,r2.Ag];try rfl
 rw[Ac aX];by_cases bW:q.k=12;.rw[Ad bW];dsimp only;obtain⟨r,np,D,hr,Ig⟩:=pL (q:=q) hv hq.Av.1 h;rw[Pw] at D;obtain⟨h',G',r2,w',x'⟩:=aDV (m:=5000000*j) w ok sz.gL hr Ig hq.Av q.a;refine⟨h',o,c,t,G',?_,w',by have e:(b.H8 q.Av q.a).A9=b.A9:=(by unfold BS.H8;split<;>rfl);rw[e];exact hc,x'⟩;rw[Aj,E1,Sj];simp only[abS,↓reduceIte,BD,d,f,g,i,y,z,A,B,C,YS,aX,CZ bW,D.Ag,r2.Ag];try rfl
 rw[Ac bW];by_cases gN:q.k=13;.rw[Ad gN];dsimp only;obtain⟨h',o',c',t',r2,w',Rf,x'⟩:=aDW w hc sz.rm;refine⟨h',o',c',t',G,?_,w',Rf,x'⟩;rw[Aj,E1,Sj];simp only[abS,↓reduceIte,BD,d,f,g,i,y,z,A,B,C,YS,aX,bW,CZ gN,r2.Ag];try rfl
 rw[Ac gN];by_cases lY:q.k=14;.rw[Ad lY];dsimp only;obtain⟨h',r2,w',x'⟩:=aDY w;refine⟨h',o,c,t,G,?_,w',hc,x'⟩;rw[Aj,E1,Sj];simp only[abS,↓reduceIte,BD,d,f,g,i,y,z,A,B,C,YS,aX,bW,gN,CZ lY,r2.Ag];try rfl
 rw[Ac lY];by_cases pM:q.k=15;.rw[Ad pM];dsimp only;have w':BX (put h bi 15 (.bool q.b)) bi a o c t G {b with ES:=q.b}:=w.put rfl rfl w.o w.t;refine⟨put h bi 15 (.bool q.b),o,c,t,G,?_,w',hc,B9⟩;rw[Aj,E1,Sj];simp only[abS,↓reduceIte,BD,d,f,g,i,y,z,A,B,C,YS,aX,bW,gN,lY,CZ pM,w.st (k:=15) (v:= .bool q.b) rfl rfl];try rfl
 rw[Ac pM];by_cases qL:q.k=16;.rw[Ad qL];dsimp only;have K:=sz.rm.tm;have af:AQ=140737488355328:=rfl;obtain⟨u,M,hu⟩:=w.t.1.NT Ab;have L:=Bu.WB (b:=8) (a:=q.n) hu Ab;have em:Ay (.Cf 1) [I q.n]=some (.sl 1 [DH q.n]):=rfl;have Qe:Ff (b.tm++[q.n]) (.sl 1 ((b.tm++[q.n]).map DH)):= .mk;have w':=w.yc (VK.sE (l:=b.tm) (m:=q.n));refine⟨put h bi 6 (.sl 1 ((b.tm++[q.n]).map DH)),o,c,_,G,?_,w',hc,B9⟩;rw[Aj,E1,Sj];simp only[abS,↓reduceIte,BD,d,f,g,i,y,z,A,B,C,YS,aX,bW,gN,lY,pM,CZ qL,w.l6,M,em,L,w.st (k:=6) (v0:=t) rfl (Bu.cells Qe)];try rfl
 rw[Ac qL];by_cases xC:q.k=17;.rw[Ad xC];dsimp only;have bS:=sz.rm.A9;obtain⟨fs,Ld,Zd⟩:=hc;obtain⟨u,r2,hu⟩:=f63 (h:=h) (id:=bi) (o:=3) (l:=fs) ⟨c,w.wK,Zd⟩ (by rw[<-Ld,As] at bS;omega);have w':=w.Rz (u:=u) (l:=b.A9++[B8.zero]);have Rf:Dj (b.A9++[B8.zero]) u:=⟨_,by rw[BV,Ld];rfl,hu⟩;refine⟨put h bi 3 u,o,u,t,G,?_,w',Rf,B9⟩;rw[Aj,E1,Sj];simp only[abS,↓reduceIte,BD,d,f,g,i,y,z,A,B,C,YS,aX,bW,gN,lY,pM,qL,CZ xC,r2.Ag];try rfl
 rw[Ac xC];by_cases yE:q.k=18;.rw[Ad yE];dsimp only;obtain⟨h',o',r2,w',x'⟩:=Ź w sz.rm;have J:=aAj b.uA h';refine⟨h',o',c,t,G,?_,w',by have e:b.S4.A9=b.A9:=(by unfold BS.S4;split<;>rfl);rw[e];exact hc,x'⟩;rw[Aj,E1,Sj];simp only[abS,↓reduceIte,BD,IH,d,f,g,i,y,z,A,B,C,YS,aX,bW,gN,lY,pM,qL,xC,CZ yE,r2.Ag,J.Ag];try rfl
 rw[Ac yE];by_cases iz:q.k=19;.rw[Ad iz];dsimp only;have w':BX (put h bi 7 (I q.a)) bi a o c t G {b with head:=q.a}:=w.put rfl rfl w.o w.t;refine⟨put h bi 7 (I q.a),o,c,t,G,?_,w',hc,B9⟩;rw[Aj,E1,Sj];simp only[abS,↓reduceIte,BD,d,f,g,i,y,z,A,B,C,YS,aX,bW,gN,lY,pM,qL,xC,yE,CZ iz,w.st (k:=7) (v:= I q.a) rfl rfl];try rfl
 rw[Ac iz];by_cases nu:q.k=20;.rw[Ad nu];dsimp only;have w':=w.yb q.n;refine⟨put h bi 4 (I q.n),o,c,t,G,?_,w',hc,B9⟩;rw[Aj,E1,Sj];simp only[abS,↓reduceIte,BD,d,f,g,i,y,z,A,B,C,YS,aX,bW,gN,lY,pM,qL,xC,yE,iz,CZ nu,w.st (k:=4) (v:= I q.n) rfl rfl];try rfl
 rw[Ac nu];by_cases yn:q.k=21;.rw[Ad yn];dsimp only;have bS:=sz.rm.A9;obtain⟨fs,Ld,Zd⟩:=hc;obtain⟨u,r2,hu⟩:=f65 (h:=h) (id:=bi) (o:=3) (l:=fs) ⟨c,w.wK,Zd⟩ (by rw[<-Ld,As] at bS;omega);have w':=w.Rz (u:=u) (l:=HQ b.A9);have Rf:Dj (HQ b.A9) u:=⟨_,by rw[lS,Ld],hu⟩;refine⟨put h bi 3 u,o,u,t,G,?_,w',Rf,B9⟩;rw[Aj,E1,Sj];simp only[abS,↓reduceIte,BD,d,f,g,i,y,z,A,B,C,YS,aX,bW,gN,lY,pM,qL,xC,yE,iz,nu,CZ yn,r2.Ag];try rfl
 rw[Ac yn];by_cases K_:q.k=22;.rw[Ad K_];dsimp only;have ho:=sz.rm.AO;have em:Ay (.Cf 1) [.str q.name]=some (.sl 1 ([q.name].map C1)):=EW (ws:=[q.name]) rfl Aw;obtain⟨u,r2,hu⟩:=f66 w.sO Ab (D7 (ws:=[q.name])) Aw;have w':=w.N3 hu;refine⟨put h bi 2 u,u,c,t,G,?_,w',hc,B9⟩;rw[Aj,E1,Sj];simp only[abS,↓reduceIte,BD,d,f,g,i,y,z,A,B,C,YS,aX,bW,gN,lY,pM,qL,xC,yE,iz,nu,yn,CZ K_,em,r2.Ag];try rfl
 rw[Ac K_];by_cases E:q.k=23;.rw[Ad E];dsimp only;have w':BX (put h bi 8 (I q.a)) bi a o c t G {b with Ps:=q.a}:=w.put rfl rfl w.o w.t;refine⟨put h bi 8 (I q.a),o,c,t,G,?_,w',hc,B9⟩;rw[Aj,E1,Sj];simp only[abS,↓reduceIte,BD,d,f,g,i,y,z,A,B,C,YS,aX,bW,gN,lY,pM,qL,xC,yE,iz,nu,yn,K_,CZ E,w.st (k:=8) (v:= I q.a) rfl rfl];try rfl
 rw[Ac E];by_cases H:q.k=24;.rw[Ad H];dsimp only;obtain⟨r,np,D,hr,Ig⟩:=pL (q:=q) hv hq.Av.1 h;rw[Pw] at D;obtain⟨h',G',r2,w',x'⟩:=wM (m:=5000000*j) w ok sz.gL hr Ig hq.Av hq.name q.a q.AW;have J:=aAj (b.HG q.name q.Av q.AW) h';refine⟨h',o,c,t,G',?_,w',by have e:(b.DA q.name q.Av q.AW q.a).A9=b.A9:=(by unfold BS.DA;split<;>rfl);rw[e];exact hc,x'⟩;rw[Aj,E1,Sj];simp only[abS,↓reduceIte,BD,IH,d,f,g,i,y,z,A,B,C,YS,aX,bW,gN,lY,pM,qL,xC,yE,iz,nu,yn,K_,E,CZ H,D.Ag,r2.Ag,J.Ag];try rfl
 rw[Ac H];refine⟨h,o,c,t,G,?_,w,hc,.refl⟩;rw[Aj,E1,Sj];simp only[abS,↓reduceIte,BD,d,f,g,i,y,z,A,B,C,YS,aX,bW,gN,lY,pM,qL,xC,yE,iz,nu,yn,K_,E,H];try rfl
end
def RD:∀l:List Int,(l.map DH).flatten=l.map (Aa.int .i64)
 |[]=>rfl
 |x::l=>by simp[DH,RD l]
def nv(q:Bool):Ar:={n:=[{kind:=1,BO:=1,Cj:=q}],i:=[0]}
def Ed(q:Bool):BS:={a:=nv q,BO:=1,AO:=[],A9:=[],mode:=1,Z6:=0,tm:=[],head:=0,Ps:=0,NY:=false,ctx:=Item.zero,fs:=true,ES:=false,oK:=[],skip:=false,sw:=0,stop:=false}
def ID(sp:Int)(nm:Aq)(l:List A3)(q:Bool):BS:=
 {(Ed q).DA Eu [] 1 1 with a:=((Ed q).DA Eu [] 1 1).a.Dn ((Ed q).HG Eu [] 1).node 1 0,AO:=((Ed q).DA Eu [] 1 1).AO++[(Ed q).HG Eu [] 1],NY:=true,ctx:=⟨0,sp,nm,HC sp nm l⟩}
def Mu(sp:Int)(nm:Aq)(l:List A3)(q:Bool):BS:=if Bl [AY] (ID sp nm l q).ctx then{ID sp nm l q with tm:=[18]} else ID sp nm l q
def Yz(sp:Int)(nm:Aq)(l:List A3)(q f:Bool):BS:=if f then{(Mu sp nm l q).KQ with Ps:= -1} else(Mu sp nm l q).KQ
structure FN where
 NY:Bool
 AW:Int
 name:Aq
 Av:List A3
 Cj:Bool
 Ps:Bool
def FN.b(s:FN):BS:=if s.NY then Yz s.AW s.name s.Av s.Cj s.Ps else Ed s.Cj
def SQ(s:FN)(av:Aa):List Aa:=[.bool s.NY,I s.AW,.str s.name,av,.bool s.Cj,.bool s.Ps]
def yo(q:Bool):CX (nv q) 0:=by
 have h0:CX (⟨[],[]⟩:Ar) 0:=by
  have hn:∀h,¬(⟨[],[]⟩:Ar).has h:=λh d=>by have h1:=d.1;have h2:=d.2;simp at h2;omega
  exact⟨rfl,λh d=>absurd d (hn h),λh d=>absurd d (hn h),λh d=>absurd d (hn h),λh d=>absurd d (hn h),λh d=>absurd d (hn h),λh d=>absurd d (hn h),λh d=>absurd d (hn h),λh d=>absurd d (hn h),λh d=>absurd d (hn h),⟨λ_=>0,λh d=>absurd d (hn h)⟩⟩
 have hx:eS {kind:=1,BO:=1,Cj:=q}:=by constructor<;>simp[Cl,F9]
 exact Pq h0 hx (.inl ⟨rfl,rfl⟩) rfl rfl rfl rfl (λh=>absurd h.1 (Bj:¬(1:Int)=4))
def Oz(q:Bool):Dz (Ed q):=by refine⟨yo q,⟨⟨I6 1,I6 1⟩,rfl⟩,λi hi=>(nomatch hi),K0,λe he=>(nomatch he),K0⟩
def QD{q:Bool}(x:Int):(Ed q).a.nd x=if x=1 then{kind:=1,BO:=1,Cj:=q} else{}:=by
 unfold Ar.nd;by_cases h:x=1;.subst h;rfl
 .rw[Ac h,Ac];intro d;have h1:=d.1;have h2:=d.2;simp[Ed,nv] at h2;omega
def OA(q:Bool):Sz (Ed q) 101:=by
 refine⟨⟨by simp[Ed,nv],λx=>?_,λx=>?_,by simp[Ed],by simp[Ed],by simp[Ed],λe he=>(nomatch he),λi hi=>(nomatch hi)⟩,by simp[Ed],by simp[Ed]⟩;.rw[QD];split<;>simp
 .rw[QD];split<;>simp
section
variable{h h':Ah}{bi a:Nat}{o c t:Aa}{G G' F:Nat->Prop}{b:BS}{x:Int}{m j:Nat}{q:bU}
variable{nm:Aq}{av:Aa}{l:List A3}{r:List Aa}{sp p:Int}
def aEt(h:Ah)(q:Bool):∃h1 h',Cx cx 42 [] h (Pt h.length 0) h1/\Cx cx 43 [Pt h.length 0,.bool q] h1 (I 1) h'/\PA h' h.length (h.length+1) none [⟨{kind:=1,BO:=1,Cj:=q},.slnil,.slnil,rfl⟩] (nv q)/\h'=h++[.cells [.CL (h.length+1) 0 1 13,.map none],.cells [I 1,I 0,.slnil,I 1,I 0,S [],.slnil,S [],S [],S [],.bool q,I 0,I 0]]:=by
 have af:AQ=140737488355328:=rfl;have g1:∀u:Ah,FX u 13 168 .slnil (.sl 13 [[I 1,I 0,.slnil,I 0,I 0,S [],.slnil,S [],S [],S [],.bool q,I 0,I 0]])=some (u++[.cells [I 1,I 0,.slnil,I 0,I 0,S [],.slnil,S [],S [],S [],.bool q,I 0,I 0]],.CL u.length 0 1 13):=λu=>rfl;obtain⟨d,e⟩:∃d,d=h++[DJ.cells [.slnil,.map none]]:=⟨_,rfl⟩;have A:d[h.length]?=some (.cells [.slnil,.map none]):=by rw[e];simp
 have Wk:d.length=h.length+1:=by rw[e];simp
 have g2:=g1 d;rw[Wk] at g2;have B:At d h.length 0 .slnil:=⟨_,A,rfl⟩;have w:(d++[DJ.cells [I 1,I 0,.slnil,I 0,I 0,S [],.slnil,S [],S [],S [],.bool q,I 0,I 0]])[h.length]?=some (.cells [.slnil,.map none]):=(Al Ab).trans A;have J:(d++[DJ.cells [I 1,I 0,.slnil,I 0,I 0,S [],.slnil,S [],S [],S [],.bool q,I 0,I 0]])[h.length+1]?=some (.cells [I 1,I 0,.slnil,I 0,I 0,S [],.slnil,S [],S [],S [],.bool q,I 0,I 0]):=by rw[<-Wk];simp
 have YP:(d++[DJ.cells [I 1,I 0,.slnil,I 0,I 0,S [],.slnil,S [],S [],S [],.bool q,I 0,I 0]]).length=h.length+2:=by rw[Ap,Wk];rfl
 have s:d++[DJ.cells [I 1,I 0,.slnil,I 0,I 0,S [],.slnil,S [],S [],S [],.bool q,I 0,I 0]]=h++[.cells [.slnil,.map none],.cells [I 1,I 0,.slnil,I 0,I 0,S [],.slnil,S [],S [],S [],.bool q,I 0,I 0]]:=by rw[e,AB];rfl
 generalize d++[DJ.cells [I 1,I 0,.slnil,I 0,I 0,S [],.slnil,S [],S [],S [],.bool q,I 0,I 0]]=g at*;have t2:At g h.length 0 .slnil:=⟨_,w,rfl⟩;have D:=t2.store (u:= .CL (h.length+1) 0 1 13) rfl;have z:=Jr (k:=0) (v:= .CL (h.length+1) 0 1 13) w;have n:(put g h.length 0 (.CL (h.length+1) 0 1 13))[h.length+1]?=_:=(CQ Ab).trans J;have M:put g h.length 0 (.CL (h.length+1) 0 1 13)=h++[.cells [.CL (h.length+1) 0 1 13,.map none],.cells [I 1,I 0,.slnil,I 0,I 0,S [],.slnil,S [],S [],S [],.bool q,I 0,I 0]]:=by rw[HP w,s,B6 _ _ (Af _),DY];rfl
 generalize put g h.length 0 (.CL (h.length+1) 0 1 13)=f at*;have l3:Bq f none (Pt h.length 0)=some (.CL (h.length+1) 0 1 13):=At.load ⟨_,z,rfl⟩;have L:Ay (.Gm 13) [.CL (h.length+1) 0 1 13,I 0]=some (.ptr (some (h.length+1,0))):=EV (k:= .i64) (i:=0) Bj;have t3:At f (h.length+1) 3 (I 0):=⟨_,n,rfl⟩;have C:=t3.store (u:=I 1) rfl;have N:(put f (h.length+1) 3 (I 1))[h.length]?=_:=(CQ Ab).trans z;have H:=Jr (k:=3) (v:=I 1) n;have K:put f (h.length+1) 3 (I 1)=h++[.cells [.CL (h.length+1) 0 1 13,.map none],.cells [I 1,I 0,.slnil,I 1,I 0,S [],.slnil,S [],S [],S [],.bool q,I 0,I 0]]:=by rw[HP n,M,B6 _ _ Ab,QS];rfl
 refine⟨d,put f (h.length+1) 3 (I 1),?_,?_,⟨rfl,rfl,N,H,?_,?_,.inl ⟨rfl,λk=>?_⟩⟩,K⟩;.rw[Aj,uQ,t42];simp only[abS,↓reduceIte,BD,e]
 .have E:Cx cx 90 [Pt h.length 0,.agg [I 1,I 0,.slnil,I 0,I 0,S [],.slnil,S [],S [],S [],.bool q,I 0,I 0]] d (I 1) f:=by rw[Aj,fU,t90];simp only[Cr,Nat.reduceLeDiff,↓reduceIte,BD,ZM,B.load,show Ay (.Cf 13) [.agg [I 1,I 0,.slnil,I 0,I 0,S [],.slnil,S [],S [],S [],.bool q,I 0,I 0]]=some (.sl 13 [[I 1,I 0,.slnil,I 0,I 0,S [],.slnil,S [],S [],S [],.bool q,I 0,I 0]]) from rfl,g2,D,l3,show Ay (.len false) [.CL (h.length+1) 0 1 13]=some (I 1) from rfl]
  have r2:Cx cx 55 [Pt h.length 0,I 1] f (.ptr (some (h.length+1,0))) f:=by rw[Aj,fN,t55];simp only[Cr,ZM,l3,show Ay (.int .sub) [I 1,I 1]=some (I 0) from rfl,L]
  rw[Aj,fL,t43];simp only[abS,Nat.reduceLeDiff,↓reduceIte,BD,E.Ag,r2.Ag,C]
 .intro p hp;rw[Dl] at hp;subst hp;exact .inl ⟨rfl,rfl⟩
 .simp[Fp,GM]
 .unfold Ar.inr;split;.rename_i y;have h1:=y.1;have h2:=y.2;simp[nv] at h2;have:k=1:=Ab;subst this;rfl
  .rfl
def aAl(h:Ah)(q:Bool):∃h1 h2 h' bi G,Cx cx 42 [] h (Pt h.length 0) h1/\Cx cx 43 [Pt h.length 0,.bool q] h1 (I 1) h2/\Cx cx 45 [Pt h.length 0,I 1] h2 (Pt bi 0) h'/\BX h' bi h.length .slnil .slnil .slnil G (Ed q)/\FD h (λ_=>False) h' (BE bi G):=by
 obtain⟨h1,h2,g,r2,d,f⟩:=aEt h q;obtain⟨r,t,e,K,V,rfl,n,k,_⟩:=ŋ (x:=1) d ((OA q).rm.VG) ((OA q).rm.VG.AT (Oz q).ok 1);have hx:(nv q).has 1:=⟨I6 1,I6 1⟩;have zl:(nv q).nd 1={kind:=1,BO:=1,Cj:=q}:=(QD (q:=q) 1).trans (Ad rfl);rw[Ad hx,zl] at e;have wt:PA (h2++t) _ _ _ _ _:=d.DU λi hi=>Al (d.lt i hi);refine⟨h1,h2,h2++t++[.cells (N2 h.length (Ed q) .slnil .slnil .slnil)],(h2++t).length,λi=>i∈Fp h.length (h.length+1) none [⟨{kind:=1,BO:=1,Cj:=q},.slnil,.slnil,rfl⟩],g,r2,?_,⟨Aw,.inr ⟨rfl,rfl⟩,VK.nil,?_,?_⟩,?_⟩;.rw[Aj,uR,t45];simp only[abS,Nat.reduceLeDiff,↓reduceIte,BD,e.Ag,aaS];exact⟨λh=>absurd rfl h,λ_=>⟨λh=>absurd rfl h,λ_=>rfl⟩⟩
 .exact⟨_,_,_,wt.DU λi hi=>Al (wt.lt i hi),λi=>Iff.rfl⟩
 .intro hm;exact absurd (wt.lt _ hm) (C8 _)
 .have Eg:h.length<=h2.length:=by rw[f];simp
  refine⟨ER,λi hi _=>?_,λi hi=> .inr ?_⟩;.rw[AB,Al Ab,f,Al hi]
  .rcases hi with rfl|hi
   .simp;omega
   .simp[Fp,GM] at hi;omega
def xD(sp:Int)(nm:Aq)(l:List A3)(q:Bool):Dz (ID sp nm l q)/\Sz (ID sp nm l q) 100:=by
 refine⟨?_,?_⟩
 .obtain⟨qJ,f,u⟩:=JV (nm:=Eu) (at_:=[]) (p:=1) (Oz q) K9;have xz:=qJ.JU (Ls (n:=((Ed q).HG Eu [] 1).node) (p:=1) (b:=0) qJ.ok) HI;have g:Le ((Ed q).DA Eu [] 1 1).a (((Ed q).DA Eu [] 1 1).a.Dn ((Ed q).HG Eu [] 1).node 1 0):=HI;have ho:((Ed q).DA Eu [] 1 1).AO=[]:=by unfold BS.DA;rw[Ad K9];rfl
  have G_:=xz.uc (i:=(Ed q).HG Eu [] 1) (k:=0) ⟨g.has _ f.has,by rw[g.kind _ f.has];exact f.kind,by rw[g.AW _ f.has];exact f.AW,by rw[g.name _ f.has];exact f.name⟩ (by simp only[ho];simp);exact G_.of_eq rfl rfl (by unfold ID;simp only[ho];rfl) rfl
 .have sz:=OA q;have e:((Ed q).DA Eu [] 1 1).AO=[]/\((Ed q).DA Eu [] 1 1).A9=[]:=by unfold BS.DA;rw[Ad K9];exact⟨rfl,rfl⟩
  have s:=Kv (m:=5000000*100+1) (nm:=Eu) (l:=[]) (sp:=1) (p:=1) (sz.rm.le Ab) ⟨Bj,λa ha=>(nomatch ha)⟩;have r2:=s.JU (KB (x:=((Ed q).HG Eu [] 1).node) (p:=1) (bf:=0));have d:=r2.mc (i:=(Ed q).HG Eu [] 1) (l':=((Ed q).DA Eu [] 1 1).AO++[(Ed q).HG Eu [] 1]) Aw (λj hj=>by simpa using hj) (N0 Bj);exact⟨⟨d.n,d.at_,d.data,d.AO,d.A9,d.tm,d.Dy,d.aB⟩,by unfold ID;simp only[e.1];show 1+1200*100<=125000;decide,by unfold ID;simp only[e.2];decide⟩
def aY(sp:Int)(nm:Aq)(l:List A3)(q:Bool):Dz (Mu sp nm l q)/\Sz (Mu sp nm l q) 100:=by
 obtain⟨G_,d⟩:=xD sp nm l q;unfold Mu;split;.have r:=d.rm;exact⟨G_.of_eq rfl rfl rfl rfl,⟨⟨r.n,r.at_,r.data,r.AO,r.A9,Aw,r.Dy,r.aB⟩,d.AO,d.A9⟩⟩
 .exact⟨G_,d⟩
def i_(sp:Int)(nm:Aq)(l:List A3)(q f:Bool):Dz (Yz sp nm l q f)/\Sz (Yz sp nm l q f) 100:=by
 obtain⟨mb,yp⟩:=aY sp nm l q;have d:Ct (Mu sp nm l q).KQ (5000000*100):=yp.rm.mode;unfold Yz;split;.exact⟨(Qr mb).of_eq rfl rfl rfl rfl,⟨⟨d.n,d.at_,d.data,d.AO,d.A9,d.tm,d.Dy,d.aB⟩,yp.AO,yp.A9⟩⟩
 .exact⟨Qr mb,⟨d,yp.AO,yp.A9⟩⟩
def BX.aAm(w:BX h bi a o c t G b)(i:Item):∃h',CM h 4 (Pt bi 10) (.agg i.row)=some h'/\BX h' bi a o c t G {b with ctx:=i}/\FD h (BE bi G) h' (BE bi G):=by refine⟨h.set bi (.cells (N2 a {b with ctx:=i} o c t)),?_,⟨AH w.lt,w.o,w.t,w.w.DU λj hj=>An λe=>w.nb (by rw[e];exact hj),w.nb⟩,⟨by rw[Bv];exact Af _,λj _ hn=>An λe=>hn (.inl e.symm),λ_ h=> .inl h⟩⟩;simp only[CM,w.hb];rfl
def aEu(h:Ah)(sp:Int)(nm:Aq)(hv:Cp l av)(hl:FB l)(q f q':Bool):∃h1 h2 h' bi o t G,Cx cx 42 [] h (Pt h.length 0) h1/\Cx cx 43 [Pt h.length 0,.bool q] h1 (I 1) h2/\Cx cx 44 [Pt h.length 0,I 1,.agg [I sp,.str nm,av,.bool q',.bool f]] h2 (Pt bi 0) h'/\BX h' bi h.length o .slnil t G (Yz sp nm l q f)/\FD h (λ_=>False) h' (BE bi G):=by
 obtain⟨h1,h2,h3,bi,G,O,r2,N,w,x⟩:=aAl h q;have hr:VL Eu .slnil [I 2,.str Eu,ff,S [],ff,S [],ff,ff,.slnil,ff,S [],.int .i32 0]:=⟨I 2,ff,S [],ff,S [],ff,ff,ff,S [],.int .i32 0,rfl⟩;obtain⟨h4,G4,M,w4,Z⟩:=wM (m:=1000) w (Oz q).ba ((OA q).rm.le Ab) hr (l:=[]) (.inr ⟨rfl,rfl⟩) ⟨Bj,λa ha=>(nomatch ha)⟩ Bj 1 1;obtain⟨mb,f4,le4⟩:=JV (nm:=Eu) (at_:=[]) (p:=1) (Oz q) K9;have R:=Kv (m:=1000) (nm:=Eu) (l:=[]) (sp:=1) (p:=1) ((OA q).rm.le Ab) ⟨Bj,λa ha=>(nomatch ha)⟩;obtain⟨A,g,L,V,Y⟩:=aK (x:=((Ed q).HG Eu [] 1).node) (p:=1) (bf:=0) w4 mb.ba R;have ho:((Ed q).DA Eu [] 1 1).AO=[]:=by unfold BS.DA;rw[Ad K9];rfl
 obtain⟨d,K,C⟩:=f95 V.sO (by simp only[ho];decide) ((Ed q).HG Eu [] 1);have Q:=V.N3 C;have w7:BX (put (put A bi 2 d) bi 9 tt) bi h.length d .slnil .slnil g _:=Q.put (k:=9) (v:=tt) (b':={{{(Ed q).DA Eu [] 1 1 with a:=((Ed q).DA Eu [] 1 1).a.Dn ((Ed q).HG Eu [] 1).node 1 0} with AO:=((Ed q).DA Eu [] 1 1).AO++[(Ed q).HG Eu [] 1]} with NY:=true}) rfl rfl C Q.t;have H:CM (put A bi 2 d) 1 (Pt bi 9) tt=some (put (put A bi 2 d) bi 9 tt):=Q.st (k:=9) (v:=tt) (v0:= .bool ((Ed q).DA Eu [] 1 1).NY) rfl rfl;have J:Cx cx 92 [I sp,.str nm,av] (put (put A bi 2 d) bi 9 tt) (.bool (HC sp nm l)) (put (put A bi 2 d) bi 9 tt):=f96 hv (λa ha=>by have:=(hl.2 a ha).2;have:AQ=140737488355328:=rfl;omega) (by have:=hl.1;omega) sp nm _;obtain⟨y,s8,U,X⟩:=w7.aAm ⟨0,sp,nm,HC sp nm l⟩;have i:BX y bi h.length d .slnil .slnil g (ID sp nm l q):=U;have P:FD h (λ_=>False) y (BE bi g):=((((x.trans Z).trans Y).trans B9).trans B9).trans X;clear U;have s:=i.Ŷ;have aJ5:(ID sp nm l q).ctx=⟨0,sp,nm,HC sp nm l⟩:=rfl;obtain⟨aJ6,yp⟩:=aY sp nm l q;have z:=gF (ws:=[AY]) D7 Bj (ID sp nm l q).ctx y;have key:∃D t9,BX D bi h.length d .slnil t9 g (Mu sp nm l q)/\FD y (BE bi g) D (BE bi g)/\(Bl [AY] (ID sp nm l q).ctx=true->CM y 1 (Pt bi 6) (.sl 1 [[I 18]])=some D)/\(Bl [AY] (ID sp nm l q).ctx=false->D=y):=by
  by_cases u:Bl [AY] (ID sp nm l q).ctx=true;.have hu:Ff [18] (.sl 1 [[I 18]]):= .mk;refine⟨put y bi 6 (.sl 1 [[I 18]]),.sl 1 [[I 18]],?_,B9,λ_=>i.st (k:=6) (v0:= .slnil) rfl rfl,λh=>absurd u (by rw[h];decide)⟩;unfold Mu;rw[Ad u];exact i.yc ⟨.inl hu,λe=>by injection e with _ e;simp at e⟩
  .refine⟨y,.slnil,?_,.refl,λh=>absurd h u,λ_=>rfl⟩;unfold Mu;rw[Ac u];exact i
 obtain⟨D,t9,w9,W,k1,k2⟩:=key;obtain⟨gA,iw,bT,yj⟩:=gy w9 yp.rm;have em:Ay (.Cf 1) [I 18]=some (.sl 1 [[I 18]]):=rfl;have E:FD h (λ_=>False) gA (BE bi g):=(P.trans W).trans yj;have hir:((Ed q).HG Eu [] 1).row=[I ((Ed q).HG Eu [] 1).node,I ((Ed q).HG Eu [] 1).AW,.str ((Ed q).HG Eu [] 1).name,.bool ((Ed q).HG Eu [] 1).NS]:=rfl;generalize(Ed q).HG Eu [] 1=it at*;have n:CM (put (put A bi 2 d) bi 9 tt) 4 (Pt bi 10) (.agg [I 0,I sp,.str nm,.bool (HC sp nm l)])=some y:=s8;have C_:Ay (.Cf 1) [S aK9]=some (.sl 1 ([AY].map C1)):=wW;cases u:Bl [AY] (ID sp nm l q).ctx with
 |true=>
  rw[u] at z;have B:=k1 u;cases f with
  |true=>
   refine⟨h1,h2,put gA bi 8 (I (-1)),bi,d,t9,g,O,r2,?_,?_,E.trans B9⟩;.rw[Aj,UG,zy];simp only[abS,Nat.reduceLeDiff,↓reduceIte,BD,IH,N.Ag,M.Ag,L.Ag,K.Ag,H,J.Ag,n,s,C_,z.Ag,em,B,iw.Ag,bT.st (k:=8) (v:=I (-1)) rfl rfl]
   .unfold Yz;rw[Ad rfl];exact bT.put rfl rfl bT.o bT.t
  |false=>refine⟨h1,h2,gA,bi,d,t9,g,O,r2,?_,bT,E⟩;rw[Aj,UG,zy];simp only[abS,Nat.reduceLeDiff,↓reduceIte,BD,IH,N.Ag,M.Ag,L.Ag,K.Ag,H,J.Ag,n,s,C_,z.Ag,em,B,iw.Ag]
 |false=>
  rw[u] at z;have T:=k2 u;subst T;cases f with
  |true=>
   refine⟨h1,h2,put gA bi 8 (I (-1)),bi,d,t9,g,O,r2,?_,?_,E.trans B9⟩;.rw[Aj,UG,zy];simp only[abS,Nat.reduceLeDiff,↓reduceIte,BD,IH,N.Ag,M.Ag,L.Ag,K.Ag,H,J.Ag,n,s,C_,z.Ag,em,iw.Ag,bT.st (k:=8) (v:=I (-1)) rfl rfl]
   .unfold Yz;rw[Ad rfl];exact bT.put rfl rfl bT.o bT.t
  |false=>refine⟨h1,h2,gA,bi,d,t9,g,O,r2,?_,bT,E⟩;rw[Aj,UG,zy];simp only[abS,Nat.reduceLeDiff,↓reduceIte,BD,IH,N.Ag,M.Ag,L.Ag,K.Ag,H,J.Ag,n,s,C_,z.Ag,em,iw.Ag]
def aEv(h:Ah)(s:FN)(hv:Cp s.Av av)(hl:FB s.Av):∃h' bi a o c t G,Cx cx 18 [.agg (SQ s av)] h (Pt bi 0) h'/\BX h' bi a o c t G s.b/\Dj s.b.A9 c/\FD h (λ_=>False) h' (BE bi G):=by
 have sY:(ID s.AW s.name s.Av s.Cj).A9=[]:=by unfold ID;simp only;unfold BS.DA;rw[Ad K9];rfl
 cases hf:s.NY with
 |true=>
  obtain⟨h1,h2,h',bi,o,t,G,f,r2,d,w,x⟩:=aEu h s.AW s.name hv hl s.Cj s.Ps s.Cj;refine⟨h',bi,h.length,o,.slnil,t,G,?_,by unfold FN.b;rw[Ad hf];exact w,?_,x⟩;.rw[Aj,fJ,t18,SQ,hf];simp only[Cr,f.Ag,r2.Ag,d.Ag]
  .have e:s.b.A9=[]:=by unfold FN.b Yz Mu;rw[Ad hf];split<;>split<;>exact sY
   rw[e];exact⟨[],rfl,.inr ⟨rfl,rfl⟩⟩
 |false=>
  obtain⟨h1,h2,h',bi,G,f,r2,d,w,x⟩:=aAl h s.Cj;have e:s.b=Ed s.Cj:=by unfold FN.b;rw[Ac (by rw[hf];decide)]
  refine⟨h',bi,h.length,.slnil,.slnil,.slnil,G,?_,by rw[e];exact w,by rw[e];exact⟨[],rfl,.inr ⟨rfl,rfl⟩⟩,x⟩;rw[Aj,fJ,t18,SQ,hf];simp only[Cr,f.Ag,r2.Ag,d.Ag]
def FN.ok(s:FN):Dz s.b/\Sz s.b 100:=by
 unfold FN.b;split;.exact i_ _ _ _ _ _
 .have h:=OA s.Cj;exact⟨Oz _,⟨h.rm.le Ab,by have:=h.AO;omega,by have:=h.A9;omega⟩⟩
end
def Kj(h:Ah)(lo:Nat)(v:Aa)(l:List Int):Prop:=(v= .slnil/\l=[])\/∃id,lo<=id/\v= .CL id 0 l.length 1/\h[id]?=some (.cells (l.map (Aa.int .i64)))
def WU(h:Ah)(lo:Nat)(v:Aa)(l:List B8):Prop:=(v= .slnil/\l=[])\/∃id,∃fs:List CN,lo<=id/\v= .CL id 0 fs.length 3/\h[id]?=some (.cells (fs.map CN.row).flatten)/\fs.map (·.c)=l
section
variable{h h':Ah}{lo lo':Nat}{v:Aa}
def Kj.cells{l:List Int}(hv:Kj h lo v l):v.cells=[v]:=by rcases hv with⟨rfl,_⟩|⟨id,_,rfl,_⟩<;>rfl
def WU.cells{l:List B8}(hv:WU h lo v l):v.cells=[v]:=by rcases hv with⟨rfl,_⟩|⟨id,fs,_,rfl,_⟩<;>rfl
def Kj.DU{l:List Int}(hv:Kj h lo v l)(hf:∀i,lo<=i->i<h.length->h'[i]?=h[i]?):Kj h' lo v l:=by
 rcases hv with hv|⟨id,h1,h2,d⟩
 .exact .inl hv
 .exact .inr ⟨id,h1,h2,by rw[hf id h1 (Ae.1 d).1];exact d⟩
def WU.DU{l:List B8}(hv:WU h lo v l)(hf:∀i,lo<=i->i<h.length->h'[i]?=h[i]?):WU h' lo v l:=by
 rcases hv with hv|⟨id,fs,h1,h2,d,e⟩
 .exact .inl hv
 .exact .inr ⟨id,fs,h1,h2,by rw[hf id h1 (Ae.1 d).1];exact d,e⟩
def Kj.Ms{l:List Int}(hv:Kj h lo v l):N1 h v l:=by
 rcases hv with⟨rfl,rfl⟩|⟨id,_,rfl,hc⟩
 .exact⟨rfl,λk hk=>by simp at hk⟩
 .refine⟨rfl,λk hlt=>⟨Pt id k,by have:=EV (id:=id) (z:=1) (k:= .i64) hlt;rwa [Gp] at this,?_⟩⟩;simp only[Bq,hc,Fi];simp[hlt]
def aAn{h u:Ah}{V:Aa}{L:List Int}(i:Kj (h++u) h.length V L)(hb:L.length<=1000000000)(x:Int):∃d g,FX (h++u) 1 8 V (.sl 1 [[I x]])=some (h++d,g)/\Kj (h++d) h.length g (L++[x]):=by
 have af:AQ=140737488355328:=rfl;rcases i with⟨rfl,rfl⟩|⟨id,Hw,rfl,hc⟩
 .exact⟨u++[.cells [I x]],.CL (h++u).length 0 1 1,by rw[<-AB];rfl,.inr ⟨(h++u).length,Aw,rfl,Aw⟩⟩
 .have hr:∀r∈L.map DH,r.length=1:=Mh (f:=DH) (λ_=>rfl) L;have Rf:(h++u)[id]?=some (.cells (L.map DH).flatten):=by rw[RD];exact hc
  have hg:=MT (b:=8) (Ao:=L.map DH) (r2:=[[I x]]) (v:= .sl 1 [[I x]]) hr Bj Rf .mk Aw (by rw[As];simp;omega);rw[As] at hg;have e:(h++u).set id .DK++[DJ.cells (L.map DH++[[I x]]).flatten]=h++(u.set (id-h.length) .DK++[.cells ((L++[x]).map (Aa.int .i64))]):=by rw[B6 _ _ Hw,AB,Ju,RD,BV];rfl
  rw[e] at hg;have YP:(h++(u.set (id-h.length) DJ.DK++[.cells ((L++[x]).map (Aa.int .i64))]))=(h++u.set (id-h.length) DJ.DK)++[.cells ((L++[x]).map (Aa.int .i64))]:=by rw[AB]
  have jA:(h++u.set (id-h.length) DJ.DK).length=(h++u).length:=Aw;refine⟨_,_,hg,.inr ⟨(h++u).length,Aw,Aw,?_⟩⟩;rw[YP,<-jA,Bp (Af _),DY];rfl
end
structure SS where
 mode:Int
 Z6:Int
 tm:List Int
 AO:List Int
 A9:List B8
 head:Int
 Ps:Int
 fs:Bool
 ES:Bool
 oK:Aq
 skip:Bool
 sw:Int
 stop:Bool
def BS.Sq(b:BS):SS:=⟨b.mode,b.Z6,b.tm,b.AO.map Item.node,b.A9,b.head,b.Ps,b.fs,b.ES,b.oK,b.skip,b.sw,b.stop⟩
def xE(s:SS)(t o c:Aa):List Aa:=[I s.mode,I s.Z6,t,o,c,I s.head,I s.Ps,.bool s.fs,.bool s.ES,.str s.oK,.bool s.skip,I s.sw,.bool s.stop]
structure aZ(h:Ah)(lo:Nat)(s:SS)(t o c:Aa):Prop where
 t:Ry s.tm t
 o:Kj h lo o s.AO
 c:WU h lo c s.A9
section
variable{h h':Ah}{bi a lo:Nat}{o c t:Aa}{G G' F:Nat->Prop}{b:BS}{x:Int}{m:Nat}
def aZ.DU{s:SS}(w:aZ h lo s t o c)(hf:∀i,lo<=i->i<h.length->h'[i]?=h[i]?):aZ h' lo s t o c:=⟨w.t,w.o.DU hf,w.c.DU hf⟩
def gO{h:Ah}{n:Nat}(hn:n<=1000000000):OM h 3 48 [I 0,S [],.slnil] (I (n:Int)) (I (n:Int))=some (h++[.cells (List.replicate n [I 0,S [],.slnil]).flatten],.CL h.length 0 n 3):=by
 have hm:AQ=140737488355328:=rfl;unfold OM;simp only
 rw[Ad ⟨Ab,Ab,Ab,rfl⟩];rfl
def aEx(w:BX h bi a o c t G b)(hc:Dj b.A9 c)(rm:Ct b m):∃t' o' c' u,Cx cx 10 [Pt bi 0] h (.agg (xE b.Sq t' o' c')) (h++u)/\aZ (h++u) h.length b.Sq t' o' c':=by
 have af:AQ=140737488355328:=rfl;have ho:=rm.AO;have bS:=rm.A9;have M:=rm.tm;obtain⟨t',e0,HO⟩:=Ÿ w.t.1 Ab h;have B:t'.cells=[t']:=HO.1.cells;obtain⟨fs,Ld,hv⟩:=hc;have HV:b.A9.length=fs.length:=by rw[<-Ld,As]
 have s:=Bu.Gi w.o;have NH:Ev cx 10 [Pt bi 0] h λr h'=>∃t' o' c' u,r= .agg (xE b.Sq t' o' c')/\h'=h++u/\aZ (h++u) h.length b.Sq t' o' c':=by
  unfold Ev;rw[ue,t10];simp only[abS,Nat.reduceLeDiff,↓reduceIte,BD,(Hg w).Ag,w.ld,N2,e0.Ag,Dx,B,s];refine Hr (i:=0) (λz:Aa×Nat=>[.agg [I b.mode,I b.Z6,t',z.1,.slnil,I b.head,I b.Ps,.bool b.fs,.bool b.ES,.str b.oK,.bool b.skip,I b.sw,.bool b.stop],I (z.2:Int)]) (λz h1=>z.2<=b.AO.length/\∃u,h1=h++u/\Kj (h++u) h.length z.1 ((b.AO.take z.2).map Item.node)) (λz=>b.AO.length-z.2) (λz h1=>∃u,h1=h++u/\Kj (h++u) h.length z.1 (b.AO.map Item.node)) (.slnil,0) rfl ⟨A7 _,[],Aw,.inl ⟨rfl,Aw⟩⟩ ?_ ?_
  .rintro⟨V,n⟩ h1 ⟨hn,u,rfl,l⟩;simp only at hn l;have N:=l.cells;rcases Bg n b.AO.length with hlt|GW
   .have q:=Bu.DC (k:= .i64) w.o hlt;rw[Item.row] at q;obtain⟨E,U,g1,j⟩:=aAn l (by rw[As,Au];omega) b.AO[n].node;have g:=j.cells;have em:Ay (.Cf 1) [I b.AO[n].node]=some (.sl 1 [[I b.AO[n].node]]):=rfl;simp only[abS,Nat.reduceLeDiff,↓reduceIte,(Ab:(n:Int)<(b.AO.length:Int)),q,em,g1,g,Ci (Ab:n<9223372036854775807)];exact .next (U,n+1) rfl ⟨hlt,E,rfl,by rw[AD hlt,BV];exact j⟩ Hc
   .rw[AR GW] at l;simp only[abS,↓reduceIte,(Ab:¬(n:Int)<(b.AO.length:Int))];exact .Iv (V,n) rfl ⟨u,rfl,l⟩
  .rintro⟨O,W⟩ h1 ⟨u,rfl,p⟩;simp only at p;have P:=p.cells;have w1:=w.Kr (u:=u);have A:=w1.l3;have lc:=Bu.Gi hv;simp only[abS,↓reduceIte,A,lc];refine Xf (gO (h:=h++u) (n:=fs.length) Ab) ?_;obtain⟨d,f⟩:∃d,d=h++u:=⟨_,rfl⟩;rw[<-f] at p⊢;have T:(d++[DJ.cells (List.replicate fs.length [I 0,S [],.slnil]).flatten])[d.length]?=some (.cells (List.replicate fs.length [I 0,S [],.slnil]).flatten):=Aw;have y:Bq (d++[DJ.cells (List.replicate fs.length [I 0,S [],.slnil]).flatten]) none (Pt bi 3)=some c:=by rw[f];exact(w1.Kr).l3
   have ij:(List.replicate fs.length [I 0,S [],Aa.slnil]).flatten.length=fs.length*3:=by rw[F6 (z:=3) (by intro r hr;rw[(List.mem_replicate.1 hr).2];rfl),Fa]
   have R:EC (.copy 3) (d++[DJ.cells (List.replicate fs.length [I 0,S [],.slnil]).flatten]) [.CL d.length 0 fs.length 3,c]=some (d++[DJ.cells (fs.map CN.row).flatten],I (fs.length:Int)):=by
    have Q:Gv (d++[DJ.cells (List.replicate fs.length [I 0,S [],.slnil]).flatten]) 3 c=some (fs.map CN.row):=by
     rcases hv with rfl|⟨rfl,h0⟩
     .simp[Gv]
     .rw[h0];rfl
    simp only[EC,iD,Q,T];rw[Ad ⟨trivial,Aw,by rw[ij];omega⟩];have h1:(List.replicate fs.length [I 0,S [],Aa.slnil]).flatten.drop (0+(fs.map CN.row).length*3)=[]:=Bd (by rw[ij,As];omega);rw[h1,N8,BG,BQ,As,B6 _ _ (Af _),DY];rfl
   have K:Ay (.len false) [.CL d.length 0 fs.length 3]=some (I (fs.length:Int)):=rfl;simp only[abS,↓reduceIte,y,R,K];refine Hr (i:=2) (λn:Nat=>[I (n:Int)]) (λn h1=>n<=fs.length/\∃JI:List CN,h1=d++[.cells (JI.map CN.row).flatten]/\JI.length=fs.length/\JI.map (·.c)=b.A9) (λn=>fs.length-n) (λn h1=>∃JI:List CN,h1=d++[.cells (JI.map CN.row).flatten]/\JI.length=fs.length/\JI.map (·.c)=b.A9) 0 rfl ⟨A7 _,fs,rfl,rfl,Ld⟩ ?_ ?_
   .rintro n h1 ⟨hn,JI,rfl,Wk,g_⟩;rcases Bg n fs.length with hlt|GW
    .have Yu:n<JI.length:=by omega
     have C:JI[n].c=b.A9[n]'(by omega):=by simp only[<-g_,C5]
     have Xr:=(rm.Dy JI[n].c (by rw[C];exact AJ _)).2.1;have q:Ay (.Gm 3) [.CL d.length 0 fs.length 3,I (n:Int)]=some (Pt d.length (n*3)):=EV hlt;have D:(d++[DJ.cells (JI.map CN.row).flatten])[d.length]?=some (.cells (JI.map CN.row).flatten):=Aw;have hg:(JI.map CN.row)[n]?=some JI[n].row:=by rw[Cn,Ai Yu];rfl
     have L:Bq (d++[DJ.cells (JI.map CN.row).flatten]) none (Pt d.length (n*3+2))=some JI[n].v:=by simp only[Bq,D,Fi];exact Mr (SH JI) Bj hg
     obtain⟨av,J,yS⟩:=f45 (h:=d++[DJ.cells (JI.map CN.row).flatten]) JI[n].ok Ab;have aEy:av.cells=[av]:=Bu.cells yS;have H:CM (d++[DJ.cells (JI.map CN.row).flatten]) 1 (Pt d.length (n*3+2)) av=some (d++[.cells ((JI.set n ⟨JI[n].c,av,yS⟩).map CN.row).flatten]):=by have e:=Rx (Ao:=JI.map CN.row) (i:=n) (k:=2) (v:=av) (SH JI) (by simpa using Yu) Bj;simp only[CM,D,aEy,BR,Mx];rw[Ad (by rw[F6 (SH JI),As];omega),e,B6 _ _ (Af _),DY,Fo,C5];rfl
     simp only[abS,(Ab:(n:Int)<(fs.length:Int)),q,L,J.Ag,H,Ci (Ab:n<9223372036854775807)];refine .next (n+1) rfl ⟨hlt,_,rfl,by rw[Bv];exact Wk,?_⟩ Ab
     rw[Fo,g_];have xm:n<b.A9.length:=Ab;show b.A9.set n JI[n].c=b.A9;rw[C,Iq]
    .simp only[abS,(Ab:¬(n:Int)<(fs.length:Int))];exact .Iv n rfl ⟨JI,rfl,Wk,g_⟩
   .rintro n h1 ⟨JI,rfl,Wk,g_⟩;simp only[Cr,↓reduceIte];refine⟨_,rfl,t',O,.CL d.length 0 fs.length 3,u++[.cells (JI.map CN.row).flatten],rfl,by rw[f,AB],HO.1,?_,?_⟩;.rw[<-AB,<-f];exact p.DU λi _ hi=>Al hi
    .rw[<-AB,<-f];exact .inr ⟨d.length,JI,by rw[f];simp,by rw[Wk],Aw,g_⟩
 obtain⟨r,h',hr,t',o',c',u,rfl,rfl,hs⟩:=NH.ret;exact⟨t',o',c',u,hr,hs⟩
end
def LO(h:Ah)(lo:Nat)(v:Aa)(l:List D8):Prop:=∃Ao:List (List Aa),Bu 13 Ao v/\Ao.length=l.length/\∀k (h1:k<Ao.length) (h2:k<l.length),Qw h lo l[k] Ao[k]
section
variable{h h':Ah}{lo lo':Nat}{v v':Aa}
def Up.le{N b:Nat}(hu:Up N v)(hl:b<=N):Up b v:=λid k e=>Bm hl (hu id k e)
def Qw.DU{x:D8}{r:List Aa}(hr:Qw h lo x r)(hf:∀i,lo<=i->i<h.length->h'[i]?=h[i]?)(hl:h.length<=h'.length):Qw h' lo x r:=by
 obtain⟨K,V,e,h1,h2,b⟩:=hr;refine⟨K,V,e,h1,?_,b⟩;rcases h2 with h2|⟨id,c,f,d⟩
 .exact .inl h2
 .exact .inr ⟨id,c,by rw[hf id (b _ _ c) d];exact f,Ab⟩
def Qw.low{x:D8}{r:List Aa}(hr:Qw h lo x r)(hl:lo'<=lo):Qw h lo' x r:=let⟨K,V,e,h1,h2,b⟩:=hr;⟨K,V,e,h1,h2,b.le hl⟩
def LO.DU{l:List D8}(hv:LO h lo v l)(hf:∀i,lo<=i->i<h.length->h'[i]?=h[i]?)(hl:h.length<=h'.length):LO h' lo v l:=let⟨Ao,h1,h2,c⟩:=hv;⟨Ao,h1,h2,λk a b=>(c k a b).DU hf hl⟩
end
def xF{A:Ar}{k:Nat}(hk:k<A.n.length):A.has ((k:Int)+1)/\A.nd ((k:Int)+1)=A.n[k]:=by
 have h1:A.has ((k:Int)+1):=by unfold Ar.has;omega
 refine⟨h1,?_⟩;unfold Ar.nd;rw[Ad h1,Ax,(Ab:((k:Int)+1).toNat-1=k),Ai hk];rfl
section
variable{h h':Ah}{a n:Nat}{m:Option Nat}{ps:List PN}{A:Ar}{x:Int}
def aEz(w:PA h a n m ps A)(p:LS A)(hk:∀x,(A.nd x).AT.length<=1000000000)(hb:A.n.length<=900000000):∃v u,Cx cx 9 [Pt a 0] h v (h++u)/\LO (h++u) h.length v A.n:=by
 have af:AQ=140737488355328:=rfl;have mQ:A.n.length=ps.length:=by rw[w.e,As]
 have NH:Ev cx 9 [Pt a 0] h λr h'=>∃u,h'=h++u/\LO (h++u) h.length r A.n:=by
  unfold Ev;rw[ď,t9];simp only[Cr,ZM,w.nodes,show Ay (.len false) [.CL n 0 ps.length 13]=some (I (ps.length:Int)) from rfl];refine BI (λz:Aa×Nat=>[z.1,I (z.2:Int)]) (λz h1=>z.2<=ps.length/\∃u,h1=h++u/\LO (h++u) h.length z.1 (A.n.take z.2)) (λz=>ps.length-z.2) (.slnil,0) rfl ⟨A7 _,[],Aw,[],.nil,Aw,λk h1 h2=>by simp at h1⟩ ?_;rintro⟨V,k⟩ h1 ⟨Y3,u,rfl,c⟩;simp only at Y3 c;have w1:PA (h++u) a n m ps A:=w.DU λi hi=>Al (w.lt i hi);rcases Bg k ps.length with hlt|GW
  .obtain⟨hx,ex⟩:=xF (A:=A) (k:=k) Ab;obtain⟨r,t,l,hr⟩:=mj w1 p hx (hk _);have ea:Ay (.Gm 13) [.CL n 0 ps.length 13,I (k:Int)]=some (.ptr (some (n,nP n ((k:Int)+1)))):=by have:=EV (k:= .i64) (id:=n) (z:=13) hlt;rw[this];unfold nP;congr 4
   obtain⟨Ao,g,d,o⟩:=c;rw[Au,Ce Ab] at d;obtain⟨K,W,f,Lj⟩:=hr;have em:Ay (.Cf 13) [.agg r]=some (.sl 13 [r]):=Qf (a:= .agg r) (by rw[f];rfl) Bj;have s:=Bu.ó (b:=168) (row:=r) g Ab;simp only[abS,(Ab:(k:Int)<(ps.length:Int)),w1.nodes,ea,l.Ag,em,s,Ci (Ab:k<9223372036854775807)];refine A8.next (_,k+1) rfl ⟨hlt,u++t,by rw[AB],Ao++[r],.mk,by rw[Ap,Au,d];simp;omega,λj h1 h2=>?_⟩ Hc;rw[<-AB];rw[O2];by_cases hj:j<Ao.length;.rw[J2 hj];have:=o j hj (by rw[Au];omega);rw[O2] at this;exact this.Kr
   .have q:j=k:=by simp at h1;omega
    subst q;rw[Jh Ab];simp only[d,DY,zf];rw[<-ex];exact Qw.low (lo:=(h++u).length) ⟨K,W,f,Lj⟩ Aw
  .rw[AR Ab] at c;simp only[abS,(Ab:¬(k:Int)<(ps.length:Int))];exact⟨_,rfl,u,rfl,c⟩
 obtain⟨r,h',hr,u,rfl,c⟩:=NH.ret;exact⟨r,u,hr,c⟩
end
def PB(h:Ah)(bi:Nat)(b:BS)(F:Nat->Prop):Prop:=∃a o c t G,BX h bi a o c t G b/\Dj b.A9 c/\F=BE bi G
structure Fin(b:BS)(j:Nat):Prop where
 ok:Dz b
 sz:Sz b j
section
variable{h h':Ah}{bi wi:Nat}{b:BS}{F F2:Nat->Prop}{q:bU}{av:Aa}{j:Nat}
def Fin.le{k:Nat}(f:Fin b j)(hk:k<=j):Fin b k:=⟨f.ok,f.sz.rm.le Ab,by have:=f.sz.AO;omega,by have:=f.sz.A9;omega⟩
def Fin.do(f:Fin b (j+1))(hq:nl q):Fin (bV b q).1 j:=⟨xB f.ok,ym f.sz hq⟩
def FN.Iv(s:FN):Fin s.b 100:=⟨s.ok.1,s.ok.2⟩
def aEA(w:PB h bi b F)(f:Fin b (j+1))(hq:nl q)(hv:Cp q.Av av):∃h' F',Cx cx 23 [Pt bi 0,.agg (Pw q av)] h (.agg (bV b q).2.row) h'/\PB h' bi (bV b q).1 F'/\FD h F h' F':=by obtain⟨a,o,c,t,G,w,hc,rfl⟩:=w;obtain⟨h',o',c',t',d,r,w',Rf,x⟩:=aEs w hc f.ok f.sz hq hv;exact⟨h',_,r,⟨a,o',c',t',d,w',Rf,rfl⟩,x⟩
def aEB(s:FN)(hv:Cp s.Av av)(hl:FB s.Av)(h:Ah):∃h' bi F,Cx cx 18 [.agg (SQ s av)] h (Pt bi 0) h'/\PB h' bi s.b F/\FD h (λ_=>False) h' F:=by obtain⟨h',bi,a,o,c,t,G,r,w,hc,x⟩:=aEv h s hv hl;exact⟨h',bi,_,r,⟨a,o,c,t,G,w,hc,rfl⟩,x⟩
end
structure QO where
 q:bU
 v:Aa
 ok:Cp q.Av v
def QO.row(x:QO):List Aa:=Pw x.q x.v
def QO.DI{x:QO}:x.row.length=9:=rfl
def QO.JQ{x:QO}:x.row.take 9=x.row:=rfl
def bA(l:List QO)(v:Aa):Prop:=Bu 9 (l.map QO.row) v
def Jf:BS->List QO->BS
 |b,[]=>b
 |b,x::l=>Jf (bV b x.q).1 l
def U8:∀{l:List QO} {b:BS} {x:QO},Jf b (l++[x])=(bV (Jf b l) x.q).1
 |[],_,_=>rfl
 |y::l,b,x=>by rw[CP,Jf,U8,Jf]
def U9:∀{l:List QO} {b:BS} {j:Nat},Fin b (j+l.length)->(∀x∈l,nl x.q)->Fin (Jf b l) j
 |[],_,_,f,_=>f
 |x::l,b,j,f,hq=>by rw[Jf];exact U9 (Fin.do (j:=j+l.length) (f.le (by simp only[AU];omega)) (hq x Aw)) λy hy=>hq y (by simp[hy])
theorem gP:Ev cx 7 [] [] λr _=>r= .bool true:=oY 3000 A0
end Go.Am
end
