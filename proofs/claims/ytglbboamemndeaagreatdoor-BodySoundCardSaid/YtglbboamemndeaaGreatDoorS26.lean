/- Lemmas -/
import Derived.Test.YtglbboamemndeaaGreatDoorS25
set_option linter.all false
noncomputable section
set_option maxRecDepth 100000
section
namespace Go.Am
open Go
section
variable{h h':Ai}{bi a ai:Nat}{o c t:Aa}{G G' F:Nat->Prop}{b b':BS}{x:Int}{m:Nat}
variable{nm:Aj}{av:Aa}{l:List AZ}{r:List Aa}{sp p:Int}{e:De}{at_ mk last:Int}{anc far:Item}
def Dn.find(hc:Dn b.AY c)(w:BX h bi a o c t G b)(rm:Cf b m)(nm:Aj):B2 cx 212 [Pt bi 3,.str nm] h (I (E3 nm b.AY)) h:=by obtain⟨fs,JF,hv⟩:=hc;have ha:=rm.AY;have:=aDo w.pH hv (by rw[<-JF,Aw] at ha;omega) nm;rwa [xZ,JF] at this
def X6(d:h.length<=ai)(x:EH h (Mp ai bi G) h' (Mp ai bi G')):EH h (BI bi G) h' (BI bi G'):=
 ⟨x.len,λi hi hn=>x.old i hi λhg=>by
  rcases hg with rfl|hg
  .omega
  .exact hn hg,λi hi=>by
  rcases x.BI i (.inr hi) with(rfl|h)|h
  .exact .inr d
  .exact .inl h
  .exact .inr h⟩
def X7{nm:Aj}{l:List Ci}(h:0<=E3 nm l):∃p:Nat,∃hp:p<l.length,E3 nm l=(p:Int):=by
 have key:∀r:List Ci,Xv nm r<r.length:=by
  intro r;induction r with
  |nil=>show(-1:Int)<0;decide
  |cons x r ih=>rw[Xv];simp only[AG];split<;>(try split)<;>omega
 have:=key l.reverse;rw[Zf] at this;refine⟨(E3 nm l).toNat,?_,Ac⟩;unfold E3 at h⊢;omega
def E_{l:List Ci}{f:Nat}(hn:((l.map Ci.node).filter λn=>decide (n≠0)).Nodup)(hf:f<l.length)(h0:l[f].node≠0):Fy l[f].node l=(f:Int):=by
 unfold Fy;rw[Af h0];refine Jb hf (by simp[Xu]) λj hj h=>?_;by_cases he:l[j].node=l[f].node
 .exfalso;have:l=l.take j++l[j]::l.drop (j+1):=by rw[<-Ay hj,Cw]
  rw[this,BW,A9,ES,GR,Ag (by simpa[he] using h0),BP] at hn;have hm:l[f]∈l.take j:=List.mem_take_iff_getElem.2 ⟨f,Ac,rfl⟩;exact hn.2.2 l[f].node (Dl.2 ⟨Zh hm,by simpa using h0⟩) l[j].node Ax he.symm
 .simp[Xu,he]
def n7{v:EN}:EH h (Am.Mp ai bi G) (h.set ai v) (Am.Mp ai bi G):=⟨by rw[BY];exact Ab _,λi _ hn=>Ap λe=>hn (.inl e.symm),λ_ h=> .inl h⟩
def aAh(hc:h[ai]?=some (.cells (Fp e at_ mk anc far last)))(i:Item):CK h 4 (Pt ai 5) (.agg i.row)=some (h.set ai (.cells (Fp e at_ mk i far last))):=by simp only[CK,hc];rfl
def aAi(hc:h[ai]?=some (.cells (Fp e at_ mk anc far last)))(i:Item):CK h 4 (Pt ai 9) (.agg i.row)=some (h.set ai (.cells (Fp e at_ mk anc i last))):=by simp only[CK,hc];rfl
def aAj(hc:h[ai]?=some (.cells (Fp e at_ mk anc far last))):Bd h (some 3) (Pt ai 0)=some (.agg e.row):=by simp only[Bd,hc];rfl
def Y3{A:Ar}{n x:Int}{l:List Int}:BS.DI A n (l++[x])=(BS.DI A n l).IF n x 0:=by unfold BS.DI;rw[List.foldl_append];rfl
def aIw(w:BX h bi a o c t G b)(hc:Dn b.AY c)(ok:E0 b)(rm:Cf b (m+4*b.AA.length+10))(nm:Aj):
  ∃h' o' c' G',B2 cx 127 [Pt bi 0,.str nm] h (.bool (b.round nm).1) h'/\BX h' bi a o' c' t G' (b.round nm).2/\Dn (b.round nm).2.AY c'/\EH h (BI bi G) h' (BI bi G'):=by
 have ho:=rm.AA;have XG:=rm.AY;have r1:=hc.find w rm nm;by_cases hf:E3 nm b.AY<0
 .obtain⟨h2,o2,r2,Q,x2⟩:=aAf w rm nm;have e:b.round nm=(false,b.C6 nm):=by unfold BS.round;simp only;rw[Ag hf]
  have ea:(b.C6 nm).AY=b.AY:=by
   unfold BS.C6;split;.split<;>rfl
   .rfl
  rw[e];refine⟨h2,o2,c,G,?_,Q,by rw[ea];exact hc,x2⟩;rw[Ae,ME,t127];simp only[abS,Nat.reduceLeDiff,↓reduceIte,Bj,r1.Ad,hf,r2.Ad]
 obtain⟨f,Iq,ef⟩:=X7 (TV.1 hf);have vu:¬(f:Int)<0:=Ac;rw[ef] at r1;have OZ:=hc;obtain⟨fs,JF,hv⟩:=OZ;have aOa:b.AY.length=fs.length:=by rw[<-JF,Aw]
 have L:fs[f].c=b.AY[f]:=by simp only[<-JF,FE]
 have l3:=w.l3;have e1:=Bz.DB (k:= .i64) hv (Ac:f<fs.length);generalize hfe:fs[f]=fe at*;have sy:b.AY.getD f Ci.zero=fe.c:=by rw[AK,Au Iq];exact L.symm
 have hv3:fe.v.cells=[fe.v]:=Bz.cells fe.ok;have w1:=w.Jn (u:=[.cells (Fp fe (f:Int) (f:Int) Item.zero Item.zero 0)]);have ć:(h++[EN.cells (Fp fe (f:Int) (f:Int) Item.zero Item.zero 0)])[h.length]?=some (.cells (Fp fe (f:Int) (f:Int) Item.zero Item.zero 0)):=Ax;have x1:EH h (BI bi G) (h++[EN.cells (Fp fe (f:Int) (f:Int) Item.zero Item.zero 0)]) (BI bi G):=w.D6;have RO:¬BI bi G h.length:=by
  rintro(e|hg);.exact absurd w.lt Ac
  .exact absurd (w.w.lt hg) (Di _)
 obtain⟨E,A⟩:∃E,E=h++[EN.cells (Fp fe (f:Int) (f:Int) Item.zero Item.zero 0)]:=⟨_,rfl⟩;rw[<-A] at w1 ć x1;have l0:Bd E none (Pt h.length 0)=some (I fe.c.node):=At.load ⟨_,ć,rfl⟩;have r2:=YZ w1.sA Ac fe.c.node;have kD:Fp fe (f:Int) (f:Int) Item.zero Item.zero 0=[I fe.c.node,.str fe.c.name,fe.v,I (f:Int),I (f:Int),I 0,I 0,S [],ff,I 0,I 0,S [],ff,I 0]:=rfl;rw[kD] at A;rw[De.row] at e1;by_cases hk:AW (BK fe.c.node) b.AA<0
 .obtain⟨h2,c2,Y,Q,KS,_,x2⟩:=yE w1 hc rm ć RO Iq ⟨Ac,Ac⟩ ⟨Ac,Ac⟩;have e:b.round nm=(false,{b with AY:=Bv b.AY f}):=by unfold BS.round;simp only;rw[Af hf,ef,By,sy,Ag hk]
  rw[e];refine⟨h2,o,c2,G,?_,Q,KS,X6 (Ab _) ((EB x1 h.length).trans x2)⟩;rw[Ae,ME,t127];simp only[abS,Nat.reduceLeDiff,↓reduceIte,Bj,r1.Ad,vu,l3,e1,<-A,l0,r2.Ad,hk,Y.Ad]
 obtain⟨k,ek⟩:∃k:Nat,AW (BK fe.c.node) b.AA=(k:Int):=⟨_,(HX (TV.1 hk)).symm⟩;obtain⟨Zq,hkq,_⟩:=KY ek;have zq:¬(k:Int)<0:=Ac;rw[ek] at r2;by_cases hkz:k=0
 .have e:b.round nm=(false,b):=by unfold BS.round;simp only;rw[Af hf,ef,By,sy,Af hk,Ag (.inl (by rw[ek,hkz];rfl))]
  rw[e];refine⟨E,o,c,G,?_,w1,hc,x1⟩;rw[Ae,ME,t127];simp only[abS,Nat.reduceLeDiff,↓reduceIte,Bj,r1.Ad,vu,l3,e1,<-A,l0,r2.Ad,zq,A3 (Ac:(k:Int)=0)]
 have F_:¬(k:Int)=0:=Ac;have Y:=aDj w1.sA Ac 1 fe.c.node;by_cases K:Px (BK fe.c.node) (Oa 1) b.AA.reverse=false
 .have e:b.round nm=(false,b):=by unfold BS.round;simp only;rw[Af hf,ef,By,sy,Af hk,Ag (.inr K)]
  rw[e];refine⟨E,o,c,G,?_,w1,hc,x1⟩;rw[K] at Y;rw[Ae,ME,t127];simp only[abS,Nat.reduceLeDiff,↓reduceIte,Bj,r1.Ad,vu,l3,e1,<-A,l0,r2.Ad,zq,F_,Y.Ad]
 have aIx:Px (BK fe.c.node) (Oa 1) b.AA.reverse=true:=by simpa using K
 rw[aIx] at Y;have r4:=aHN w1.sA Ac fe.c.node;have hor:¬(AW (BK fe.c.node) b.AA=0\/Px (BK fe.c.node) (Oa 1) b.AA.reverse=false):=by rw[ek];rintro(h|h);exact F_ h;exact K h
 by_cases hfa:D0 fe.c.node b.AA<0
 .have e:b.round nm=(false,{b with AA:=Gs fe.c.node b.AA,AY:=Bv b.AY f}):=by unfold BS.round;simp only;rw[Af hf,ef,By,sy,Af hk,Af hor,Ag hfa]
  obtain⟨u,r5,hu⟩:=aDn w1.sO Ac fe.c.node;have Q:=w1.Mo hu;have s_:(put E bi 2 u)[h.length]?=_:=(CU (λe=>RO (.inl e))).trans ć;obtain⟨h3,c3,r6,w3,YO,_,x3⟩:=yE Q hc ((rm.le (m':=0) Ac).sub rfl Ho (AE _) (Ab _)) s_ RO Iq ⟨Ac,Ac⟩ ⟨Ac,Ac⟩;rw[e];refine⟨h3,u,c3,G,?_,w3,YO,X6 (Ab _) ((EB (x1.trans BL) h.length).trans x3)⟩;rw[Ae,ME,t127];simp only[abS,Nat.reduceLeDiff,↓reduceIte,Bj,r1.Ad,vu,l3,e1,<-A,l0,r2.Ad,zq,F_,Y.Ad,r4.Ad,hfa,r5.Ad,r6.Ad]
 obtain⟨N,hN,eN⟩:∃N:Nat,k+1+N<b.AA.length/\D0 fe.c.node b.AA=((k+1+N:Nat):Int):=by
  have aAk:=hfa;rw[Mz,Af hk,ek,By] at aAk⊢;unfold Gf at aAk⊢;split at aAk;.rename_i j hj;have:=(Kz.1 hj).1;rw[Bi] at this;exact⟨j,Ac,Ac⟩
  .omega
 obtain⟨d,hfb⟩:∃d,d=b.AA[k+1+N]:=⟨_,rfl⟩;obtain⟨an,han⟩:∃an,an=b.AA[k-1]'(by omega):=⟨_,rfl⟩;have xr:b.AA.getD (k+1+N) Item.zero=d:=by rw[AK,Au hN,hfb];rfl
 have hga:b.AA.getD (k-1) Item.zero=an:=by rw[AK,Au Ac,han];rfl
 have e:b.round nm=(true,BS.Ib fe.c d.node an.node (BS.MY d.node an.node (k+1+N) k N (b,d.node,f))):=by
  unfold BS.round;simp only
  rw[Af hf,ef,By,sy,Af hk,Af hor,Af hfa,ek,eN,By,By,xr,hga,(Ac:k+1+N-1 -k=N)]
 have G_:=ok.op d (by rw[hfb];exact nY _ Ac);have aIy:b.AA[k].node=fe.c.node:=by simpa[BK] using hkq
 have aEt:b.a.has fe.c.node:=by rw[<-aIy];exact(ok.op _ (nY _ Ac)).1
 have aIz:b.AY[f].node≠0:=by rw[<-L];have:=aEt.1;omega
 have dy:=E_ ok.xK Iq aIz;rw[<-L] at dy;have Ri:=rm.DD _ (Bb Iq);rw[<-L] at Ri;have vz:=MV (n:=k) Ac Ac;have r5:=Sx w1.sA ((k-1:Nat):Int);rw[HL Ac,<-han] at r5;have r6:=Sx w1.sA ((k+1+N:Nat):Int);rw[HL hN,<-hfb] at r6;have s5:=aAh ć an;have az:h.length<E.length:=(Al.1 ć).1;have hbn:h.length≠bi:=λe=>RO (.inl e);have s_:(E.set h.length (.cells (Fp fe f f an Item.zero 0)))[h.length]?=_:=AD az;have Q:BX (E.set h.length (.cells (Fp fe f f an Item.zero 0))) bi a o c t G b:=w1.E4 λj hj=>Ap λe=>RO (by rw[e];exact hj);have x2:=(EB x1 h.length).trans (n7 (v:= .cells (Fp fe f f an Item.zero 0)));generalize E.set h.length (.cells (Fp fe f f an Item.zero 0))=H2 at*;have s6:=aAi s_ d;have pF:h.length<H2.length:=(Al.1 s_).1;have W:(H2.set h.length (.cells (Fp fe f f an d 0)))[h.length]?=_:=AD pF;have w3:BX (H2.set h.length (.cells (Fp fe f f an d 0))) bi a o c t G b:=Q.E4 λj hj=>Ap λe=>RO (by rw[e];exact hj);have x3:=x2.trans (n7 (v:= .cells (Fp fe f f an d 0)));generalize H2.set h.length (.cells (Fp fe f f an d 0))=H3 at*;have l9:Bd H3 none (Pt h.length 9)=some (I d.node):=At.load ⟨_,W,rfl⟩;have t13:At H3 h.length 13 (I 0):=⟨_,W,rfl⟩;have s7:=t13.store (u:= I d.node) rfl;have st4:=Jr (k:=13) (v:= I d.node) W;have w4:BX (put H3 h.length 13 (I d.node)) bi a o c t G b:=w3.E4 λj hj=>CU λe=>RO (by rw[<-e];exact hj);have x4:=x3.trans (PI (k:=13) (v:= I d.node));generalize put H3 h.length 13 (I d.node)=H4 at*;have i0:nZ H4 bi a h.length t G fe an d k N (m+10) (b,d.node,f) N H4 o c G (b,d.node,f):=
  ⟨Ab _,w4,hc,ok,rm.le Ac,G_.1,by rw[dy];exact st4,RO,.refl,by rw[dy];omega,by show f<=1000000000;omega,rfl,Gw,rfl,aEt⟩
 have le0:=(cS (blk:=d.node) (anc:=an.node) (far:=k+1+N) (k:=k) (c:=N) (s:=(b,d.node,f)) ok G_.1).2.2;obtain⟨h5,o5,c5,G5,s',r7,es,i⟩:=aEo i0 Ac ek hN;rw[<-es] at le0 e;obtain⟨q,hq,zt,hq0,hq2,hq3⟩:=JV i.gd;have J:=i.st;rw[zt] at J;have hmk:=i.mkb;have bo:h.length≠bi:=hbn;have l5:Bd h5 none (Pt h.length 5)=some (I an.node):=At.load ⟨_,J,rfl⟩;obtain⟨u6,r8⟩:=zu i.w i.ok.ba i.rm an.node;have w6:=i.w.Jn (u:=u6);have w6':=i.w.D6 (u:=u6);have hl5:h.length<h5.length:=(Al.1 J).1;have st6:(h5++u6)[h.length]?=_:=(An hl5).trans J;have l13:Bd (h5++u6) none (Pt h.length 13)=some (I s'.2.1):=At.load ⟨_,st6,rfl⟩;have hl6:h.length<(h5++u6).length:=by rw[Ao];omega
 obtain⟨h7,G7,r9,w7,x7⟩:=nU (x:=s'.2.1) (p:=(s'.1.place an.node).1) (bf:=(s'.1.place an.node).2) w6 i.ok.ba i.rm;have hn7:¬BI bi G7 h.length:=λhg=>by
  rcases x7.BI h.length hg with hg|hg
  .exact i.hn hg
  .omega
 have H:h7[h.length]?=_:=(x7.old h.length hl6 i.hn).trans st6;have l3b:Bd h7 (some 3) (Pt h.length 0)=some (.agg fe.row):=aAj H;have l9b:Bd h7 none (Pt h.length 9)=some (I d.node):=At.load ⟨_,H,rfl⟩;obtain⟨r,yF,hr⟩:=su fe h7;have le7:Le s'.1.a (s'.1.a.HV s'.2.1 (s'.1.place an.node).1 (s'.1.place an.node).2):=I3;have ok7:=i.ok.Iw (Oh (n:=s'.2.1) (p:=(s'.1.place an.node).1) (b:=(s'.1.place an.node).2) i.ok.ok) le7;have X:=i.rm.Iw (LI (x:=s'.2.1) (p:=(s'.1.place an.node).1) (bf:=(s'.1.place an.node).2));obtain⟨b2,Qt⟩:∃b2,b2={s'.1 with a:=s'.1.a.HV s'.2.1 (s'.1.place an.node).1 (s'.1.place an.node).2}:=⟨_,rfl⟩;have wA:b2.AA=s'.1.AA:=by rw[Qt]
 have KS:b2.AY=s'.1.AY:=by rw[Qt]
 have le2:Le s'.1.a b2.a:=by rw[Qt];exact le7
 rw[<-Qt] at w7 ok7 X;obtain⟨P,G8,r11,w8,x8⟩:=rq (m:=m+7) w7 ok7.ba (X.le Ac) hr fe.ok Ri.2 Ri.1 d.node 1;obtain⟨B,fr,le8⟩:=Ur (nm:=fe.c.name) (at_:=fe.c.As) (p:=d.node) ok7 Lt;have C:=LC (m:=m+7) (nm:=fe.c.name) (l:=fe.c.As) (sp:=1) (p:=d.node) (X.le Ac) Ri.2;obtain⟨g,hnw⟩:∃g,g=b2.Jq fe.c.name fe.c.As 1:=⟨_,rfl⟩;obtain⟨b3,Ņ⟩:∃b3,b3=b2.E7 fe.c.name fe.c.As 1 d.node:=⟨_,rfl⟩;have ho3:b3.AA=s'.1.AA:=by rw[Ņ,<-wA];unfold BS.E7;rw[Ag Lt]
 have YO:b3.AY=s'.1.AY:=by rw[Ņ,<-KS];unfold BS.E7;rw[Ag Lt]
 rw[<-hnw] at r11 fr;rw[<-Ņ] at w8 B fr le8 C;have hl7:h.length<h7.length:=(Al.1 H).1;have hn8:¬BI bi G8 h.length:=λhg=>by
  rcases x8.BI h.length hg with hg|hg
  .exact hn7 hg
  .omega
 have V:P[h.length]?=_:=(x8.old h.length hl7 hn7).trans H;have l9c:Bd P none (Pt h.length 9)=some (I d.node):=At.load ⟨_,V,rfl⟩;obtain⟨kv,r12,hkv⟩:∃v,B2 cx 193 [Pt a 0,I d.node] P v P/\GI (b3.a.nd d.node).Bm v:=by obtain⟨n',m',ps,wa⟩:=w8.w.pa;exact ö wa C.TD (C.TD.Bm B.ok d.node)
 have aOi:(b3.a.nd d.node).Bm.length<=1000000000:=C.TD.Bm B.ok d.node;have Vb:g.row=[I g.node,I g.Be,.str g.name,.bool g.OI]:=rfl;rw[De.row] at yF l3b;have OT:Ev cx 127 [Pt bi 0,.str nm] h λr h'=>r= .bool true/\∃o' c' G',BX h' bi a o' c' t G' (BS.Ib fe.c d.node an.node s')/\Dn (BS.Ib fe.c d.node an.node s').AY c'/\EH h (BI bi G) h' (BI bi G'):=by
  unfold Ev;rw[ME,t127];simp only[abS,Nat.reduceLeDiff,↓reduceIte,Bj,r1.Ad,vu,l3,e1,<-A,l0,r2.Ad,zq,F_,Y.Ad,r4.Ad,eN,(Ac:¬((k+1+N:Nat):Int)<0),vz,r5.Ad,r6.Ad,s5,s6,l9,s7];simp only[abS,r7.Ad,l5,r8.Ad];simp only[abS,l13,r9.Ad];simp only[B9,l3b,l9b];simp only[abS,↓reduceIte,Jw,yF.Ad,Dj,r11.Ad,l9b];simp only[B9,w8.l0,l9c,r12.Ad,Bz.GO hkv];have x8':EH h (Mp h.length bi G) P (Mp h.length bi G8):=(((x4.trans i.x).trans (EB w6' h.length)).trans (EB x7 h.length)).trans (EB x8 h.length);refine E2 (i:=0) (λj:Nat=>[I (j:Int)]) (λj D=>j<=(b3.a.nd d.node).Bm.length/\∃M,BX D bi a o5 c5 t M {b3 with a:=BS.DI b3.a g.node ((b3.a.nd d.node).Bm.take j)}/\E0 {b3 with a:=BS.DI b3.a g.node ((b3.a.nd d.node).Bm.take j)}/\Cf {b3 with a:=BS.DI b3.a g.node ((b3.a.nd d.node).Bm.take j)} (m+7)/\EH P (BI bi G8) D (BI bi M)) (λj=>(b3.a.nd d.node).Bm.length-j)
   (λj D=>j=(b3.a.nd d.node).Bm.length/\∃M,BX D bi a o5 c5 t M {b3 with a:=BS.DI b3.a g.node ((b3.a.nd d.node).Bm.take j)}/\E0 {b3 with a:=BS.DI b3.a g.node ((b3.a.nd d.node).Bm.take j)}/\Cf {b3 with a:=BS.DI b3.a g.node ((b3.a.nd d.node).Bm.take j)} (m+7)/\EH P (BI bi G8) D (BI bi M)) 0 rfl ⟨Bc _,G8,w8,B,C,.refl⟩ ?_ ?_
  .rintro j D ⟨hj,M,w9,z,y,x9⟩;rcases Bl j (b3.a.nd d.node).Bm.length with hlt|GS
   .have e9:=Bz.DB (k:= .i64) hkv hlt;obtain⟨Y1,O,Z,pI,Ĉ⟩:=nU (x:=(b3.a.nd d.node).Bm[j]) (p:=g.node) (bf:=0) w9 z.ba y;have lej:=(MD (n:=g.node) (l:=(b3.a.nd d.node).Bm.take j) B.ok).2;rw[TM (by show((BS.DI b3.a g.node ((b3.a.nd d.node).Bm.take j)).nd g.node).kind=4;rw[lej.kind _ fr.has];exact fr.kind)] at pI;have hs:BS.DI b3.a g.node ((b3.a.nd d.node).Bm.take (j+1))=(BS.DI b3.a g.node ((b3.a.nd d.node).Bm.take j)).IF g.node (b3.a.nd d.node).Bm[j] 0:=by rw[AP hlt,Y3]
    rw[CM] at e9;simp only[abS,(Ac:(j:Int)<((b3.a.nd d.node).Bm.length:Int)),e9,Z.Ad,CE (Ac:j<9223372036854775807)];refine .next (j+1) rfl ⟨hlt,O,by rw[hs];exact pI,?_,?_,x9.trans Ĉ⟩ Ac
    .have:=z.Iw (Qa (p:=g.node) (n:=(b3.a.nd d.node).Bm[j]) (b:=0) z.ok) Qc;rw[hs];exact this
    .have:=y.Iw (Kr (p:=g.node) (x:=(b3.a.nd d.node).Bm[j]) (bf:=0));rw[hs];exact this
   .simp only[abS,(Ac:¬(j:Int)<((b3.a.nd d.node).Bm.length:Int))];exact .IE j rfl ⟨Ac,M,w9,z,y,x9⟩
  .rintro j D ⟨rfl,M,w9,z,y,x9⟩;rw[BN] at w9 z y;have hl8:h.length<P.length:=(Al.1 V).1;have hn9:¬BI bi M h.length:=λhg=>by
    rcases x9.BI h.length hg with hg|hg
    .exact hn8 hg
    .omega
   have U:D[h.length]?=_:=(x9.old h.length hl8 hn8).trans V;have l9d:Bd D none (Pt h.length 9)=some (I d.node):=At.load ⟨_,U,rfl⟩;have le9:=(MD (n:=g.node) (l:=(b3.a.nd d.node).Bm) B.ok).2;have lef:Le b.a (BS.DI b3.a g.node (b3.a.nd d.node).Bm):=((le0.trans le2).trans le8).trans le9;obtain⟨Y1,O,Z,pI,Ĉ⟩:=nU (x:=g.node) (p:=d.node) (bf:=0) w9 z.ba y;rw[TM (by show((BS.DI b3.a g.node (b3.a.nd d.node).Bm).nd d.node).kind=4;rw[lef.kind _ G_.1];exact G_.2)] at pI;have hl9:h.length<D.length:=(Al.1 U).1;have aIG:¬BI bi O h.length:=λhg=>by
    rcases Ĉ.BI h.length hg with hg|hg
    .exact hn9 hg
    .omega
   have aEv:Y1[h.length]?=_:=(Ĉ.old h.length hl9 hn9).trans U;have l3c:Bd Y1 none (Pt h.length 3)=some (I (q:Int)):=At.load ⟨_,aEv,rfl⟩;have aIH:=y.Iw (Kr (p:=d.node) (x:=g.node) (bf:=0));have aII:Dn ({b3 with a:=(BS.DI b3.a g.node (b3.a.nd d.node).Bm).IF d.node g.node 0}:BS).AY c5:=by simp only;rw[YO];exact i.hc
   have hqa:=i.rm.AY;obtain⟨bX,wQ,r14,T,aEw,H_,x11⟩:=yE pI aII aIH aEv aIG (k:=q) (by simp only;rw[YO];exact hq) ⟨Ac,Ac⟩ ⟨Ac,Ac⟩;simp only at T aEw;have l1:Bd bX none (Pt h.length 1)=some (.str fe.c.name):=At.load ⟨_,H_,rfl⟩;have l2:Bd bX none (Pt h.length 2)=some fe.v:=At.load ⟨_,H_,rfl⟩;have l4:Bd bX none (Pt h.length 4)=some (I (down q (s'.2.2:Int))):=At.load ⟨_,H_,rfl⟩;obtain⟨fs2,aAo,Rv⟩:=aEw;have aOm:b3.AY.length=s'.1.AY.length:=by rw[YO]
   have aOn:fs2.length<=900000000:=by have h1:=Cm List.length aAo;rw[Aw,Ja (by rw[YO];exact hq)] at h1;omega
   have aIt:=Ri.2.1;obtain⟨u1,e2,he2,r15,bD⟩:=aHW (h:=bX) (id:=bi) (o:=3) (l:=fs2) ⟨wQ,T.pH,Rv⟩ Ac (e:=⟨{fe.c with node:=g.node},fe.v,fe.ok⟩) (by unfold gj;simp only;omega) (down q (s'.2.2:Int));have aIK:B2 cx 217 [Pt bi 3,.agg [I g.node,.str fe.c.name,fe.v],I (down q (s'.2.2:Int))] bX (.tuple []) (put bX bi 3 u1):=r15;obtain⟨jG,dx⟩:∃jG:Nat,jG=if q<s'.2.2 then s'.2.2 -1 else s'.2.2:=⟨_,rfl⟩
   have ta:down q (s'.2.2:Int)=(jG:Int):=by rw[dx];unfold down;split<;>split<;>omega
   have w12:=T.PH (u:=u1) (l:=(Bv b3.AY q).take (Gt jG (Bv b3.AY q).length)++{fe.c with node:=g.node}::(Bv b3.AY q).drop (Gt jG (Bv b3.AY q).length));have aIL:Dn ((Bv b3.AY q).take (Gt jG (Bv b3.AY q).length)++{fe.c with node:=g.node}::(Bv b3.AY q).drop (Gt jG (Bv b3.AY q).length)) u1:=by refine⟨_,?_,bD⟩;rw[ta,BW,A9,GM,K5,aAo,he2,<-aAo,Aw]
   have hob:=i.rm.AA;obtain⟨u2,r16,Qs⟩:=ql w12.sO (by simp only;rw[ho3];omega) fe.c.node;have R:=w12.Mo Qs;have qH:(Cv fe.c.node b3.AA).length<=s'.1.AA.length:=by rw[<-ho3];exact Gv.length_le
   have aIN:(put (put bX bi 3 u1) bi 2 u2)[h.length]?=_:=(CU bo).trans ((CU bo).trans H_);have l9e:Bd (put (put bX bi 3 u1) bi 2 u2) none (Pt h.length 9)=some (I d.node):=At.load ⟨_,aIN,rfl⟩;have r17:=YZ R.sA Gw d.node;have hli: -1<=AW (BK d.node) (Cv fe.c.node b3.AA)/\AW (BK d.node) (Cv fe.c.node b3.AA)<=(Cv fe.c.node b3.AA).length:=by rcases D5 (q:=BK d.node) (l:=Cv fe.c.node b3.AA) with⟨h,_⟩|⟨n,h1,h2,_⟩<;>omega
   have add:=Vh (a:=AW (BK d.node) (Cv fe.c.node b3.AA)) (b:=1) Ac Ac;obtain⟨u3,r18,hu3⟩:=aHQ R.sO Gw g (AW (BK d.node) (Cv fe.c.node b3.AA)+1);have w14:=R.Mo hu3;simp only[abS,Nat.reduceLeDiff,↓reduceIte,Bj,Jw,l9d,Z.Ad,l3c,r14.Ad,l1,l2,hv3,l4,aIK.Ad,r16.Ad,l9e,r17.Ad,add,r18.Ad];have hE:BS.Ib fe.c d.node an.node s'={b3 with a:=(BS.DI b3.a g.node (b3.a.nd d.node).Bm).IF d.node g.node 0,AY:=(Bv b3.AY q).take (Gt jG (Bv b3.AY q).length)++{fe.c with node:=g.node}::(Bv b3.AY q).drop (Gt jG (Bv b3.AY q).length),AA:=(Cv fe.c.node b3.AA).take (Gg (AW (BK d.node) (Cv fe.c.node b3.AA)+1) (Cv fe.c.node b3.AA).length)++g::(Cv fe.c.node b3.AA).drop (Gg (AW (BK d.node) (Cv fe.c.node b3.AA)+1) (Cv fe.c.node b3.AA).length)}:=by
    have Ŀ:Fy fe.c.node b3.AY=(q:Int):=by rw[YO];exact zt
    unfold BS.Ib;simp only
    rw[<-Qt,<-Ņ,<-hnw,Ŀ,By,<-dx]
   rw[hE];refine⟨_,rfl,rfl,u3,u1,O,w14,aIL,X6 (Ab _) ?_⟩;exact((((x8'.trans (EB (x9.trans Ĉ) h.length)).trans x11).trans (EB BL h.length)).trans (EB BL h.length)).trans (EB BL h.length)
 obtain⟨r,h',hr,rfl,o',c',G',w',OZ,x'⟩:=OT.ret;rw[e];exact⟨h',o',c',G',hr,w',OZ,x'⟩
end
section
variable{h h':Ai}{bi a ai:Nat}{o c t:Aa}{G G' F:Nat->Prop}{b b':BS}{x:Int}{m:Nat}
variable{nm:Aj}{av:Aa}{l:List AZ}{r:List Aa}{sp p:Int}{e:De}{at_ mk last:Int}{anc far:Item}
def dz{blk anc:Int}{far i:Nat}{l:Int}{mk:Nat}:(BS.Hc blk anc far i b l mk).1.AA.length<=b.AA.length:=by
 have h1:(Bv b.AA i).length<=b.AA.length:=CZ.length_le;unfold BS.Hc;simp only
 split;.exact h1
 .split;.exact h1
  .have QD:∀nm l p,(b.E7 nm l 1 p).AA=b.AA:=λnm l p=>by unfold BS.E7;rw[Ag Lt]
   simp only[QD,BY];exact Ab _
def aB{blk anc:Int}{far k m:Nat}:∀{c:Nat} {s:BS×Int×Nat},Cf s.1 (m+4*c)->Cf (BS.MY blk anc far k c s).1 m/\(BS.MY blk anc far k c s).1.AA.length<=s.1.AA.length
 |0,s,r=>⟨r.le Ac,Ab _⟩
 |c+1,s,r=>by have d:=X5 (blk:=blk) (anc:=anc) (far:=far) (i:=k+(c+1)) (l:=s.2.1) (mk:=s.2.2) (m:=m+4*c) (r.le Ac);have h:=aB (blk:=blk) (anc:=anc) (far:=far) (k:=k) (m:=m) (c:=c) (s:=BS.Hc blk anc far (k+(c+1)) s.1 s.2.1 s.2.2) d;exact⟨h.1,Bn h.2 dz⟩
def oA{fe:Ci}{blk anc:Int}{s:BS×Int×Nat}(r:Cf s.1 (m+4))(Ri:fe.name.length<=1000/\E1 fe.As):Cf (BS.Ib fe blk anc s) m/\(BS.Ib fe blk anc s).AA.length<=s.1.AA.length+1:=by
 unfold BS.Ib;simp only
 generalize cy:s.1.place anc=pb;have j:=r.Iw (LI (x:=s.2.1) (p:=pb.1) (bf:=pb.2));generalize Qt:({s.1 with a:=s.1.a.HV s.2.1 pb.1 pb.2}:BS)=b2 at j;have wA:b2.AA=s.1.AA:=by rw[<-Qt]
 have d:=LC (m:=m+1) (nm:=fe.name) (l:=fe.As) (sp:=1) (p:=blk) (j.le Ac) Ri.2;have QD:(b2.E7 fe.name fe.As 1 blk).AA=b2.AA:=by unfold BS.E7;rw[Ag Lt]
 have g:(b2.Jq fe.name fe.As 1).name.length<=1000:=PD Ri.1;generalize b2.E7 fe.name fe.As 1 blk=b3 at*;generalize b2.Jq fe.name fe.As 1=n at*;have q:=d.Iw ((QP (n:=n.node) (l:=(b3.a.nd blk).Bm)).trans (Kr (p:=blk) (x:=n.node) (bf:=0)));have MN:∀{U:Type} (l:List U) (k:Nat) (y:U),(l.take k++y::l.drop k).length=l.length+1/\∀z∈l.take k++y::l.drop k,z∈l\/z=y:=λl k y=>⟨by rw[Ao,AG,AB,Bi];omega,λz hz=>by
  rcases Aq.1 hz with hz|hz
  .exact .inl (A0 hz)
  .rcases AF.1 hz with rfl|hz
   .exact .inr rfl
   .exact .inl (Bu hz)⟩
 have hr:=Gv (n:=fe.node) (l:=b3.AA);have hd:=CZ (l:=b3.AY) (k:=(Fy fe.node b3.AY).toNat);have f:=q.le (m':=m) Ac;refine⟨⟨f.n,f.at_,f.data,?_,?_,f.tm,λe he=>?_,λi hi=>?_⟩,?_⟩;.simp only[(MN _ _ _).1];have:=hr.length_le;have:=d.AA;omega
 .simp only[(MN _ _ _).1];have:=hd.length_le;have:=d.AY;omega
 .rcases(MN _ _ _).2 e he with he|rfl
  .exact d.DD e (hd.subset he)
  .exact Ri
 .rcases(MN _ _ _).2 i hi with hi|rfl
  .exact d.Z4 i (hr.subset hi)
  .exact g
 .simp only[(MN _ _ _).1];have h1:=hr.length_le;have h2:=Cm List.length (QD.trans wA);omega
def X8(r:Cf b (m+4*b.AA.length+10))(nm:Aj):Cf (b.round nm).2 m/\(b.round nm).2.AA.length<=b.AA.length+1:=by
 have d:Cf b m:=r.le Ac;unfold BS.round;simp only
 split
 .have key:(b.C6 nm).a=b.a/\List.Sublist (b.C6 nm).AA b.AA/\(b.C6 nm).AY=b.AY/\(b.C6 nm).tm=b.tm:=by
   unfold BS.C6;split
   .split;.exact⟨rfl,Ho.trans Cq,rfl,rfl⟩
    .exact⟨rfl,AE _,rfl,rfl⟩
   .exact⟨rfl,AE _,rfl,rfl⟩
  exact⟨d.sub key.1 key.2.1 (by rw[key.2.2.1];exact AE _) (by rw[key.2.2.2];exact Ab _),Bn key.2.1.length_le (Fj _)⟩
 .rename_i hf;obtain⟨f,Iq,g⟩:=X7 (TV.1 hf);have sy:b.AY.getD (E3 nm b.AY).toNat Ci.zero=b.AY[f]:=by rw[g,By,AK,Au Iq];rfl
  have Ri:=r.DD _ (Bb Iq);rw[sy];split;.exact⟨d.sub rfl (AE _) CZ (Ab _),Fj _⟩
  .split;.exact⟨d,Fj _⟩
   .split;.exact⟨d.sub rfl Ho CZ (Ab _),Bn Ho.length_le (Fj _)⟩
    .rename_i hk _ hfa;have hlt:(D0 b.AY[f].node b.AA).toNat-1 -(AW (BK b.AY[f].node) b.AA).toNat<=b.AA.length:=by
      rw[Mz];split;.omega
      .unfold Gf;split;.rename_i j hj;have:=(Kz.1 hj).1;rw[Bi] at this;omega
       .omega
     have h1:=aB (blk:=(b.AA.getD (D0 b.AY[f].node b.AA).toNat Item.zero).node) (anc:=(b.AA.getD ((AW (BK b.AY[f].node) b.AA).toNat-1) Item.zero).node) (far:=(D0 b.AY[f].node b.AA).toNat) (k:=(AW (BK b.AY[f].node) b.AA).toNat) (m:=m+4) (c:=(D0 b.AY[f].node b.AA).toNat-1 -(AW (BK b.AY[f].node) b.AA).toNat) (s:=(b,(b.AA.getD (D0 b.AY[f].node b.AA).toNat Item.zero).node,(E3 nm b.AY).toNat)) (r.le Ac);have h2:=oA (fe:=b.AY[f]) (blk:=(b.AA.getD (D0 b.AY[f].node b.AA).toNat Item.zero).node) (anc:=(b.AA.getD ((AW (BK b.AY[f].node) b.AA).toNat-1) Item.zero).node) h1.1 Ri;exact⟨h2.1,Bn h2.2 (Nat.succ_le_succ h1.2)⟩
def MH:∀{n:Nat} {b:BS} {k:Nat},b.AA.length<=k->Cf b (m+n*(4*(k+n)+10))->Cf (BS.FA n b nm) m/\(BS.FA n b nm).AA.length<=k+n
 |0,b,k,hk,r=>⟨r.le Ac,hk⟩
 |n+1,b,k,hk,r=>by
  have e:(n+1)*(4*(k+(n+1))+10)=n*(4*(k+1+n)+10)+(4*(k+(n+1))+10):=by rw[BC,Eo,(Ac:k+(n+1)=k+1+n)]
  rw[e] at r;have h1:=X8 (m:=m+n*(4*(k+1+n)+10)) (r.le Ac) nm;unfold BS.FA;simp only
  split;.have h2:=MH (n:=n) (k:=k+1) Ac h1.1;exact⟨h2.1,Ac⟩
  .exact⟨h1.1.le Ac,Ac⟩
def aEy(w:BX h bi a o c t G b)(hc:Dn b.AY c)(ok:E0 b)(rm:Cf b (m+8*(4*(b.AA.length+8)+10)))(nm:Aj):
  ∃h' o' c' G',B2 cx 57 [Pt bi 0,.str nm] h (.tuple []) h'/\BX h' bi a o' c' t G' (b.Dh nm)/\Dn (b.Dh nm).AY c'/\EH h (BI bi G) h' (BI bi G'):=by
 have ho:=rm.AA;have D:=ſ w rm;have em:Az (.DX 1) [.str nm]=some (.sl 1 ([nm].map B6)):=Ez (ws:=[nm]) rfl Ax;have r2:B2 cx 106 [.agg (Fs b.AA).row,.sl 1 ([nm].map B6)] h (.bool (Bf [nm] (Fs b.AA))) h:=uG (ws:=[nm]) CO Ax _ h;have K:=hc.at w rm (Fs b.AA).node;have J:b.Hj.AY=b.AY:=by unfold BS.Hj;split<;>rfl
 by_cases h1:Bf [nm] (Fs b.AA)=true/\Fy (Fs b.AA).node b.AY<0
 .obtain⟨h2,v,N,s,q⟩:=A_ w rm;have e:b.Dh nm=b.Hj:=by unfold BS.Dh;rw[Ag h1]
  rw[e];refine⟨h2,v,c,G,?_,s,by rw[J];exact hc,q⟩;rw[h1.1] at r2;rw[Ae,cX];simp only[abS,Jw,(Ie w).Ad,D.Ad,em,r2.Ad,K.Ad,h1.2,N.Ad]
 have e:b.Dh nm=BS.FA 8 b nm:=by unfold BS.Dh;rw[Af h1]
 rw[e];have OT:Ev cx 57 [Pt bi 0,.str nm] h λr h'=>r= .tuple []/\∃o' c' G',BX h' bi a o' c' t G' (BS.FA 8 b nm)/\Dn (BS.FA 8 b nm).AY c'/\EH h (BI bi G) h' (BI bi G'):=by
  unfold Ev;rw[cX];have IE:∀(Q:JE) (k:DV->List Aa->IT),(∀x vs h1,(x= .exit 0\/x= .ret)->(∃o' c' G',BX h1 bi a o' c' t G' (BS.FA 8 b nm)/\Dn (BS.FA 8 b nm).AY c'/\EH h (BI bi G) h1 (BI bi G'))->W cx (k x vs) Q h1)->
    W cx (.loop 5 [I 0] (λd=> .op (.int .lss) [g d 0,I 8] λv14=> .FH v14 (.call 127 [Pt bi 0,.str nm] λC=> .op (.un .not) [C] λv16=> .FH v16 (.ret .ret [g d 0]) (.op (.int .add) [g d 0,I 1] λB=> .ret .normal [B])) (.ret (.exit 0) [g d 0])) k) Q h:=by
   intro Q k hk;refine BM (λn:Nat=>[I ((8 -n:Nat):Int)]) (λn h1=>n<=8/\∃H y z b1,BX h1 bi a H y t z b1/\Dn b1.AY y/\E0 b1/\Cf b1 (m+n*(4*(b.AA.length+8)+10))/\b1.AA.length<=b.AA.length+(8 -n)/\BS.FA 8 b nm=BS.FA n b1 nm/\EH h (BI bi G) h1 (BI bi z)) (λn=>n) 8 rfl ⟨Ab _,o,c,G,b,w,hc,ok,rm,Ac,rfl,.refl⟩ ?_;rintro n h1 ⟨hn,H,y,z,b1,w1,YJ,i5,f,az,j,A⟩;cases n with
   |zero=>simp only[abS,(AM:¬((8 -0:Nat):Int)<8)];exact hk _ _ _ (.inl rfl) ⟨H,y,z,by rw[j];exact w1,by rw[j];exact YJ,A⟩
   |succ n=>
    have hsp:(n+1)*(4*(b.AA.length+8)+10)=n*(4*(b.AA.length+8)+10)+(4*(b.AA.length+8)+10):=by rw[BC,Eo]
    rw[hsp] at f;have aEz:Cf b1 (m+n*(4*(b.AA.length+8)+10)+4*b1.AA.length+10):=f.le Ac;obtain⟨h2,v,L,M,u,s,KS,q⟩:=aIw w1 YJ i5 aEz nm;obtain⟨uH,pF⟩:=X8 aEz nm;have E:=(nJ (nm:=nm) i5).1;have hlt:((8 -(n+1):Nat):Int)<8:=Ac;have inc:Az (.int .add) [I ((8 -(n+1):Nat):Int),I 1]=some (I ((8 -n:Nat):Int)):=by have:=CE (n:=8 -(n+1)) Ac;rwa [(Ac:8 -(n+1)+1=8 -n)] at this
    have i:BS.FA (n+1) b1 nm=if(b1.round nm).1 then BS.FA n (b1.round nm).2 nm else(b1.round nm).2:=rfl
    cases hr:(b1.round nm).1 with
    |true=>rw[hr] at u i;simp only[abS,hlt,u.Ad,inc];exact Br.next n rfl ⟨Ac,v,L,M,_,s,KS,E,uH,Ac,j.trans i,A.trans q⟩ Ac
    |false=>rw[hr] at u i;simp only[abS,hlt,u.Ad];exact hk _ _ _ (.inr rfl) ⟨v,L,M,by rw[j,i];exact s,by rw[j,i];exact KS,A.trans q⟩
  by_cases h2:Bf [nm] (Fs b.AA)=true
  .have O:¬Fy (Fs b.AA).node b.AY<0:=λh=>h1 ⟨h2,h⟩;rw[h2] at r2;simp only[abS,Jw,(Ie w).Ad,D.Ad,em,r2.Ad,K.Ad,O];refine IE _ _ ?_;rintro x vs h1 (rfl|rfl) ⟨o',c',G',a1,a2,a3⟩;.simp only[B9];exact⟨_,rfl,rfl,o',c',G',a1,a2,a3⟩
   .simp only[B9];exact⟨_,rfl,rfl,o',c',G',a1,a2,a3⟩
  .have h2:Bf [nm] (Fs b.AA)=false:=by simpa using h2
   rw[h2] at r2;simp only[abS,Jw,(Ie w).Ad,D.Ad,em,r2.Ad];refine IE _ _ ?_;rintro x vs h1 (rfl|rfl) ⟨o',c',G',a1,a2,a3⟩;.simp only[B9];exact⟨_,rfl,rfl,o',c',G',a1,a2,a3⟩
   .simp only[B9];exact⟨_,rfl,rfl,o',c',G',a1,a2,a3⟩
 obtain⟨r,h',hr,rfl,o',c',G',w',OZ,x'⟩:=OT.ret;exact⟨h',o',c',G',hr,w',OZ,x'⟩
end
structure d_ where
 k:Int
 name:Aj
 As:List AZ
 Be:Int
 a:Int
 b:Bool
 s:Aj
 r:Int
 n:Int
def NA(h:Int):Item:=⟨h,0,[],false⟩
def ee(b:BS)(q:d_):BS×Item:=
 if q.k=1 then(b.DY q.name q.As 1,NA (b.a.len+1))
 else if q.k=2 then(b.DY q.name q.As q.Be,NA (b.Nz q.Be))
 else if q.k=3 then(b.FY q.name q.As,NA (b.a.len+1))
 else if q.k=4 then(b.Mm q.r,Item.zero)
 else if q.k=5 then(b.C1 q.s q.a,Item.zero)
 else if q.k=6 then(b.Df q.name q.As q.n,Item.zero)
 else if q.k=7 then(b.B7,Item.zero)
 else if q.k=8 then(b.AU,Item.zero)
 else if q.k=9 then(b.C6 q.name,Item.zero)
 else if q.k=10 then(b.Dh q.name,Item.zero)
 else if q.k=11 then(b.IW,Item.zero)
 else if q.k=12 then(b.Fh q.As q.a,Item.zero)
 else if q.k=13 then(b.CR,Item.zero)
 else if q.k=14 then({b with stop:=true},Item.zero)
 else if q.k=15 then({b with HS:=q.b},Item.zero)
 else if q.k=16 then({b with tm:=b.tm++[q.n]},Item.zero)
 else if q.k=17 then({b with AY:=b.AY++[Ci.zero]},Item.zero)
 else if q.k=18 then(b.Hj,b.sK)
 else if q.k=19 then({b with head:=q.a},Item.zero)
 else if q.k=20 then({b with mode:=q.n},Item.zero)
 else if q.k=21 then({b with AY:=Fz b.AY},Item.zero)
 else if q.k=22 then({b with AA:=Dd Da (Bf [q.name]) b.AA},Item.zero)
 else if q.k=23 then({b with IG:=q.a},Item.zero)
 else if q.k=24 then(b.E7 q.name q.As q.Be q.a,b.Jq q.name q.As q.Be)
 else(b,Item.zero)
structure ĉ(q:d_):Prop where
 name:q.name.length<=1000
 As:E1 q.As
 s:q.s.length<=1000
 r: -2147483648<=q.r/\q.r<=2147483647
section
variable{b:BS}{q:d_}{m j:Nat}
def aAp(o:E0 b){nm:Aj}{l:List AZ}{sp p:Int}:E0 (b.E7 nm l sp p):=by
 by_cases hs:BS.JP sp;.exact(Ur o hs).1
 .unfold BS.E7;rw[Af hs];exact o
def jH(o:E0 b):E0 {b with AY:=b.AY++[Ci.zero]}:=by have:=o.Ŝ (e:=Ci.zero) (k:=b.AY.length) (.inl rfl) (.inl rfl);rw[BN,GQ] at this;exact this
def Ej{U:Type}{P:U->Prop}{c:Prop}[Decidable c]{x y:U}(h1:P x)(h2:P y):P (if c then x else y):=by split;exact h1;exact h2
def oB{P:BS×Item->Prop}(h1:P (b.DY q.name q.As 1,NA (b.a.len+1)))(h2:P (b.DY q.name q.As q.Be,NA (b.Nz q.Be)))(B:P (b.FY q.name q.As,NA (b.a.len+1)))(A:P (b.Mm q.r,Item.zero))(z:P (b.C1 q.s q.a,Item.zero))(y:P (b.Df q.name q.As q.n,Item.zero))(x:P (b.B7,Item.zero))(w:P (b.AU,Item.zero))(v:P (b.C6 q.name,Item.zero))(Y1:P (b.Dh q.name,Item.zero))(bX:P (b.IW,Item.zero))(u:P (b.Fh q.As q.a,Item.zero))(t:P (b.CR,Item.zero))(p:P ({b with stop:=true},Item.zero))(o:P ({b with HS:=q.b},Item.zero))(l:P ({b with tm:=b.tm++[q.n]},Item.zero))(k:P ({b with AY:=b.AY++[Ci.zero]},Item.zero))(i:P (b.Hj,b.sK))(h:P ({b with head:=q.a},Item.zero))(g:P ({b with mode:=q.n},Item.zero))(f:P ({b with AY:=Fz b.AY},Item.zero))(e:P ({b with AA:=Dd Da (Bf [q.name]) b.AA},Item.zero))(d:P ({b with IG:=q.a},Item.zero))(c:P (b.E7 q.name q.As q.Be q.a,b.Jq q.name q.As q.Be))(h0:P (b,Item.zero)):P (ee b q):=by unfold ee;exact Ej h1 (Ej h2 (Ej B (Ej A (Ej z (Ej y (Ej x (Ej w (Ej v (Ej Y1 (Ej bX (Ej u (Ej t (Ej p (Ej o (Ej l (Ej k (Ej i (Ej h (Ej g (Ej f (Ej e (Ej d (Ej c (h0))))))))))))))))))))))))
def aAq(o:E0 b):E0 (ee b q).1:=oB (P:=λr=>E0 r.1) (Rh (nm:=q.name) (at_:=q.As) (sp:=1) o) (Rh o) (ZY o) (xN o) (XD o) (sS o) (cu o) (XF o) (ZZ o) (Z3 o) (Sl o) (nH o) (XE o) (o.of_eq rfl rfl rfl rfl) (o.of_eq rfl rfl rfl rfl) (o.of_eq rfl rfl rfl rfl) (jH o) (oz o) (o.of_eq rfl rfl rfl rfl) (o.of_eq rfl rfl rfl rfl) (o.nG (Ca _ _)) (o.IH Cq) (o.of_eq rfl rfl rfl rfl) (aAp o) o
def Cf.yG{k m:Nat}{h:Int}{x:Fg}(r:Cf b (m+k))(h1:x.As.length<=(b.a.nd h).As.length+k\/x.As.length<=1000)(h2:x.data.length<=(b.a.nd h).data.length+k\/x.data.length<=100000):Cf {b with a:=b.a.set h x} m:=by
 have hn:(b.a.set h x).n.length=b.a.n.length:=by have:=yu (A:=b.a) (h:=h) (x:=x);unfold Ar.len at this;omega
 have c:=r.le (m':=m) Ac;have rn:=r.n;refine⟨by simp only;rw[hn];exact c.n,λy=>?_,λy=>?_,c.AA,c.AY,c.tm,c.DD,c.Z4⟩
 .simp only;rw[JM];split;.rename_i d;have:=r.at_ h;omega
  .exact c.at_ y
 .simp only;rw[JM];split;.have:=r.data h;omega
  .exact c.data y
def Uu{m:Nat}{s:Aj}{p bf:Int}(r:Cf b (m+5))(hs:s.length<=4):Cf {b with a:=BS.Oe b.a s p bf} m:=by
 have Ng:∀d,Cf {b with a:=(b.a.add {kind:=5,Cl:=d,data:=s}).HV (b.a.len+1) p bf} m:=λd=>((r.le (m':=m+1) Ac).ID (KU (Bc _) Gw)).Iw LI
 have c:=r.le (m':=m) Ac;unfold BS.Oe;split
 .split
  .split;.exact Cf.yG (k:=5) r (.inl Gw) (.inl (by simp only[Ao];omega))
   .exact Ng _
  .exact Ng _
 .exact c
def JW{m:Nat}{s:Aj}{p bf:Int}(r:Cf b (m+5))(hs:s.length<=100000):Cf {b with a:=BS.Iv b.a s p bf} m:=by
 unfold BS.Iv;split;.exact((r.le (m':=m+1) Ac).ID (KU (Bc _) hs)).Iw LI
 .exact r.le Ac
end
section
variable{b:BS}{q:d_}{m j:Nat}{nm:Aj}
def X9{l:List AZ}{x:Int}(r:Cf b (m+1000))(hl:l.length<=1000):Cf (b.Fh l x) m:=by
 unfold BS.Fh;split;.refine Cf.yG (k:=1000) r (.inl ?_) (.inl Gw);have:=P9 (l:=(b.a.nd x).As++BS.plain l);rw[Ao,BS.plain,Aw] at this;unfold BS.plain;simp only;omega
 .exact r.le Ac
def aC:∀{l:List Ci} {b:BS},(BS.Ke l b).2.AA.length<=b.AA.length+l.length/\(BS.Ke l b).2.AY=b.AY/\(BS.Ke l b).1.length=l.length/\∀e∈(BS.Ke l b).1,∃a∈l,e.name=a.name/\e.As=a.As
 |[],b=>⟨by simp[BS.Ke],rfl,rfl,λe he=>by simp[BS.Ke] at he⟩
 |e::l,b=>by
  obtain⟨h1,h2,g,f⟩:=aC (l:=l) (b:=b.DY e.name e.As 1);have i:(b.DY e.name e.As 1).AA.length<=b.AA.length+1:=by
   unfold BS.DY;rw[Ag Lt];simp only
   have:(b.E7 e.name e.As 1 (b.place 0).1).AA=b.AA:=by unfold BS.E7;rw[Ag Lt]
   rw[Ao,AS];first|(rw[this];exact Ab _)|exact Ab _
  rw[BS.Ke];refine⟨by simp only[AG];omega,by simp only;rw[h2,EA],by simp only[AG,g],λh he=>?_⟩;rcases AF.1 he with rfl|he
  .exact⟨e,Ax,rfl,rfl⟩
  .obtain⟨a,d,c⟩:=f h he;exact⟨a,by simp[d],c⟩
def SI(r:Cf b (m+4*b.AY.length)):Cf b.AU m/\b.AU.AA.length<=b.AA.length+b.AY.length/\b.AU.AY.length=b.AY.length:=by
 have hk:=jB (b:=b);have a:=aA (l:=b.AY.drop b.OU) (b:=b) (m:=m) (r.le (by rw[Bi];omega)) λe he=>r.DD e (Bu he);obtain⟨h1,h2,c,h⟩:=aC (l:=b.AY.drop b.OU) (b:=b);rw[Bi] at h1 c;have hl:b.AU.AY.length=b.AY.length:=by unfold BS.AU;simp only[Ao,AB,c];omega
 refine⟨⟨a.n,a.at_,a.data,a.AA,?_,a.tm,λe he=>?_,a.Z4⟩,by unfold BS.AU;simp only;omega,hl⟩;.rw[hl];have:=r.AY;omega
 .unfold BS.AU at he;simp only at he;rcases Aq.1 he with he|he
  .exact r.DD e (A0 he)
  .obtain⟨i,g,f,d⟩:=h e he;rw[f,d];exact r.DD i (Bu g)
def oC{blk anc:Int}{far k:Nat}:∀{c:Nat} {s:BS×Int×Nat},(BS.MY blk anc far k c s).1.AY.length<=s.1.AY.length
 |0,s=>Ab _
 |c+1,s=>by
  refine Bn (oC (c:=c)) ?_;unfold BS.Hc;simp only
  split;.exact Ab _
  .split;.exact CZ.length_le
   .have:∀nm l p,(s.1.E7 nm l 1 p).AY=s.1.AY:=λnm l p=>by unfold BS.E7;rw[Ag Lt]
    simp only[this,BY];exact Ab _
def eo:(b.round nm).2.AY.length<=b.AY.length+1:=by
 unfold BS.round;simp only
 split
 .have:(b.C6 nm).AY=b.AY:=by
   unfold BS.C6;split;.split<;>rfl
   .rfl
  rw[this];omega
 .split;.exact Bn CZ.length_le (Fj _)
  .split;.exact Fj _
   .split;.exact Bn CZ.length_le (Fj _)
    .unfold BS.Ib;simp only
     generalize hs:BS.MY _ _ _ _ _ _=s;have h1:s.1.AY.length<=b.AY.length:=by rw[<-hs];exact oC
     have:∀(b2:BS) nm l p,(b2.E7 nm l 1 p).AY=b2.AY:=λb2 nm l p=>by unfold BS.E7;rw[Ag Lt]
     simp only[this,Ao,AG,AB,Bi];have h2:∀k,(Bv s.1.AY k).length<=s.1.AY.length:=λk=>CZ.length_le;refine Bn (m:=(Bv s.1.AY (Fy (b.AY.getD (E3 nm b.AY).toNat Ci.zero).node s.1.AY).toNat).length+1) ?_ (Nat.succ_le_succ (Bn (h2 _) h1));omega
def Rn:∀{n:Nat} {b:BS},(BS.FA n b nm).AY.length<=b.AY.length+n
 |0,b=>Ab _
 |n+1,b=>by
  have h:=eo (b:=b) (nm:=nm);unfold BS.FA;simp only
  split;.have:=Rn (n:=n) (b:=(b.round nm).2);omega
  .omega
structure Sz(b:BS)(j:Nat):Prop where
 rm:Cf b (5000000*j)
 AA:b.AA.length+1200*j<=125000
 AY:b.AY.length+10*j<=1100
def Sz.of{b':BS}(h:Sz b (j+1))(r:Cf b' (5000000*j))(h1:b'.AA.length<=b.AA.length+1200)(h2:b'.AY.length<=b.AY.length+10):Sz b' j:=⟨r,by have:=h.AA;omega,by have:=h.AY;omega⟩
def Sz.kK{k:Nat}(h:Sz b (j+1))(hk:k<=5000000:=by omega):Cf b (5000000*j+k):=h.rm.le Ac
def Sz.OV{b':BS}(h:Sz b (j+1))(ha:b'.a=b.a)(ho:b'.AA.Sublist b.AA)(hc:b'.AY.Sublist b.AY)(ht:b'.tm.length<=b.tm.length):Sz b' j:=
 h.of ((h.rm.le Ac).sub ha ho hc ht) (by have:=ho.length_le;omega) (by have:=hc.length_le;omega)
def Sz.Hj(h:Sz b (j+1)):Sz b.Hj j:=by
 unfold BS.Hj;split;.exact h.OV rfl (AE _) (AE _) (Ab _)
 .exact h.OV rfl (Ca _ _) (AE _) (Ab _)
def SJ{l:List AZ}{sp:Int}:(b.DY nm l sp).AA.length<=b.AA.length+1200:=by
 unfold BS.DY;split
 .rename_i hs;have:(b.E7 nm l sp (b.place 0).1).AA=b.AA:=by unfold BS.E7;rw[Ag hs]
  have:=Cm List.length this;simp only[Ao,AS];omega
 .omega
def uL{l:List AZ}:(b.FY nm l).AY.length<=b.AY.length+10:=by
 unfold BS.FY;simp only
 obtain⟨l',h1,h2⟩:=Sj (l:=(b.DY nm l 1).AY) (e:=⟨b.a.len+1,nm,l⟩);rw[h2,Ao,AS];have:=h1.length_le;rw[EA] at this;omega
def aAr(h:Sz b (j+1))(hq:ĉ q):Sz (ee b q).1 j:=oB (P:=λr=>Sz r.1 j)
 (h.of (JR (sp:=1) h.kK hq.As hq.name) SJ (by rw[EA];omega))
 (h.of (JR h.kK hq.As hq.name) SJ (by rw[EA];omega))
 (h.of (Us h.kK hq.As hq.name) SJ uL)
 (h.of (Uu h.kK (X2 _)) (FF _ _) (FF _ _))
 (by
  dsimp only;unfold BS.C1;split;.exact h.of (JW h.kK (by have:=hq.s;omega)) (FF _ _) (FF _ _)
  .exact h.of (JW h.kK (by have:=hq.s;omega)) (FF _ _) (FF _ _))
 (h.of ((JR h.kK hq.As hq.name).eq rfl rfl rfl rfl) SJ (by show(b.DY q.name q.As 1).AY.length<=_;rw[EA];omega))
 (by
  dsimp only;unfold BS.B7;split;.exact h.OV rfl (Cq.trans Cq) (AE _) (Ab _)
  .exact h.OV rfl (AE _) (AE _) (Ab _))
 (by dsimp only;have h1:=SI (m:=5000000*j) (h.rm.le (by have:=h.AY;omega));exact h.of h1.1 (by have:=h.AY;have:=h1.2.1;omega) (by rw[h1.2.2];omega))
 (by
  dsimp only;unfold BS.C6;split
  .split;.exact h.OV rfl (Ho.trans Cq) (AE _) (Ab _)
   .exact h.OV rfl (AE _) (AE _) (Ab _)
  .exact h.OV rfl (AE _) (AE _) (Ab _))
 (by
  dsimp only;unfold BS.Dh;split;.exact h.Hj
  .have h1:=MH (n:=8) (b:=b) (k:=b.AA.length) (nm:=q.name) (m:=5000000*j) (Ab _) (h.rm.le (by have:=h.AA;omega));exact h.of h1.1 (by have:=h1.2;omega) (by have:=Rn (n:=8) (b:=b) (nm:=q.name);omega))
 (h.OV rfl (AE _) (AE _) (Ab _))
 (by
  dsimp only;have e:(b.Fh q.As q.a).AA=b.AA/\(b.Fh q.As q.a).AY=b.AY:=by unfold BS.Fh;split<;>exact⟨rfl,rfl⟩
  exact h.of (X9 (m:=5000000*j) (h.rm.le Ac) hq.As.1) (by rw[e.1];omega) (by rw[e.2];omega))
 (by
  dsimp only;unfold BS.CR;split;.exact h.OV rfl (AE _) (AE _) (Ab _)
  .exact h.OV rfl (show(Dd Da (Bf [A5]) (Dd DT Da b.AA)).Sublist b.AA from Cq.trans Cq) (Ca _ _) (Ax:b.tm.dropLast.length<=b.tm.length))
 (h.OV rfl (AE _) (AE _) (Ab _))
 (h.OV rfl (AE _) (AE _) (Ab _))
 (by dsimp only;have r:=h.rm.le (m':=5000000*j+1) Ac;have c:=r.le (m':=5000000*j) Ac;exact h.of ⟨c.n,c.at_,c.data,c.AA,c.AY,by have:=r.tm;simp only[Ao,AS];omega,c.DD,c.Z4⟩ (FF _ _) (FF _ _))
 (by
  dsimp only;refine h.of ((h.rm.le (m':=5000000*j+1) Ac).xP (e:=Ci.zero) Ax (λe he=>?_) ⟨AM,AM,λa ha=>by cases ha⟩) (FF _ _) Ax;rcases Aq.1 he with he|he
  .exact .inl he
  .exact .inr (by simpa using he))
 (h.Hj)
 (h.OV rfl (AE _) (AE _) (Ab _))
 (h.OV rfl (AE _) (AE _) (Ab _))
 (h.OV rfl (AE _) (Ca _ _) (Ab _))
 (h.OV rfl Cq (AE _) (Ab _))
 (h.OV rfl (AE _) (AE _) (Ab _))
 (by
  dsimp only;have e:(b.E7 q.name q.As q.Be q.a).AA=b.AA/\(b.E7 q.name q.As q.Be q.a).AY=b.AY:=by unfold BS.E7;split<;>exact⟨rfl,rfl⟩
  exact h.of (LC (m:=5000000*j) (h.rm.le Ac) hq.As) (by rw[e.1];omega) (by rw[e.2];omega))
 (h.OV rfl (AE _) (AE _) (Ab _))
end
def SK(q:d_)(av:Aa):List Aa:=[I q.k,.str q.name,av,I q.Be,I q.a,.bool q.b,.str q.s,.int .i32 q.r,I q.n]
section
variable{h h':Ai}{bi a:Nat}{o c t:Aa}{G G' F:Nat->Prop}{b:BS}{x:Int}{m j:Nat}{q:d_}
variable{nm:Aj}{av:Aa}{l:List AZ}{r:List Aa}{sp p:Int}
def et(hv:A6 q.As av)(hl:q.As.length<=1000)(h:Ai):∃r aD,B2 cx 48 [.agg (SK q av)] h (.agg r) h/\XY q.name aD r/\A6 q.As aD:=by have yl:AJ=140737488355328:=rfl;obtain⟨u,e,hu⟩:=Bz.Pv (b:=40) hv Ac;have hc:u.cells=[u]:=Bz.cells hu;refine⟨_,u,?_,⟨I 2,ff,S [],ff,S [],ff,ff,ff,S [],.int .i32 0,rfl⟩,hu⟩;rw[Ae,ũ,SK];simp only[abS,Nat.reduceLeDiff,↓reduceIte,Bj,e,hc]
def aEA(i:Item)(h:Ai):B2 cx 63 [.agg i.row] h (.agg i.row) h:=by rw[Ae,Ū,Item.row];simp only[abS,Nat.reduceLeDiff,↓reduceIte,Bj]
set_option maxHeartbeats 4000000 in
def aIP(w:BX h bi a o c t G b)(hc:Dn b.AY c)(ok:E0 b)(sz:Sz b (j+1))(hq:ĉ q)(hv:A6 q.As av):
  ∃h' o' c' t' G',B2 cx 20 [Pt bi 0,.agg (SK q av)] h (.agg (ee b q).2.row) h'/\BX h' bi a o' c' t' G' (ee b q).1/\Dn (ee b q).1.AY c'/\EH h (BI bi G) h' (BI bi G'):=by
 unfold ee SK;by_cases d:q.k=1;.rw[Ag d];dsimp only;obtain⟨r,aD,D,hr,Hq⟩:=et (q:=q) hv hq.As.1 h;rw[SK] at D;obtain⟨h',o',G',r2,w',x'⟩:=di (m:=5000000*j) w ok sz.kK hr Hq hq.As hq.name;refine⟨h',o',c,t,G',?_,w',by rw[EA];exact hc,x'⟩;rw[Ae,Fm];simp only[abS,Nat.reduceLeDiff,↓reduceIte,Bj,A3 d,D.Ad,r2.Ad];try rfl
 rw[Af d];by_cases f:q.k=2;.rw[Ag f];dsimp only;obtain⟨r,aD,D,hr,Hq⟩:=et (q:=q) hv hq.As.1 h;rw[SK] at D;obtain⟨h',o',G',r2,w',x'⟩:=aAb (m:=5000000*j) w ok sz.kK hr Hq hq.As hq.name q.Be;refine⟨h',o',c,t,G',?_,w',by rw[EA];exact hc,x'⟩;rw[Ae,Fm];simp only[abS,Nat.reduceLeDiff,↓reduceIte,Bj,d,A3 f,D.Ad,r2.Ad];try rfl
 rw[Af f];by_cases g:q.k=3;.rw[Ag g];dsimp only;obtain⟨r,aD,D,hr,Hq⟩:=et (q:=q) hv hq.As.1 h;rw[SK] at D;obtain⟨h',o',c',G',r2,w',OZ,x'⟩:=aDZ (m:=5000000*j) w hc ok sz.kK hr Hq hq.As hq.name;refine⟨h',o',c',t,G',?_,w',OZ,x'⟩;rw[Ae,Fm];simp only[abS,Nat.reduceLeDiff,↓reduceIte,Bj,d,f,A3 g,D.Ad,r2.Ad];try rfl
 rw[Af g];by_cases i:q.k=4;.rw[Ag i];dsimp only;obtain⟨h',G',r2,w',x'⟩:=aD5 (m:=5000000*j) w ok sz.kK q.r hq.r;refine⟨h',o,c,t,G',?_,w',hc,x'⟩;rw[Ae,Fm];simp only[abS,↓reduceIte,Bj,d,f,g,A3 i,r2.Ad];try rfl
 rw[Af i];by_cases y:q.k=5;.rw[Ag y];dsimp only;obtain⟨h',G',r2,w',x'⟩:=aD6 (m:=5000000*j) w ok sz.kK q.s (by have:=hq.s;omega) q.a;refine⟨h',o,c,t,G',?_,w',hc,x'⟩;rw[Ae,Fm];simp only[abS,↓reduceIte,Bj,d,f,g,i,A3 y,r2.Ad];try rfl
 rw[Af y];by_cases z:q.k=6;.rw[Ag z];dsimp only;obtain⟨r,aD,D,hr,Hq⟩:=et (q:=q) hv hq.As.1 h;rw[SK] at D;obtain⟨h',o',G',r2,w',x'⟩:=aAe (m:=5000000*j) w ok sz.kK hr Hq hq.As hq.name q.n;refine⟨h',o',c,t,G',?_,w',by show Dn (b.DY q.name q.As 1).AY c;rw[EA];exact hc,x'⟩;rw[Ae,Fm];simp only[abS,↓reduceIte,Bj,d,f,g,i,y,A3 z,D.Ad,r2.Ad];try rfl
 rw[Af z];by_cases A:q.k=7;.rw[Ag A];dsimp only;obtain⟨h',o',r2,w',x'⟩:=aD7 w sz.rm;refine⟨h',o',c,t,G,?_,w',by have e:b.B7.AY=b.AY:=(by unfold BS.B7;split<;>rfl);rw[e];exact hc,x'⟩;rw[Ae,Fm];simp only[abS,↓reduceIte,Bj,d,f,g,i,y,z,A3 A,r2.Ad];try rfl
 rw[Af A];by_cases B:q.k=8;.rw[Ag B];dsimp only;obtain⟨h',o',c',G',r2,w',OZ,x'⟩:=aEl (m:=5000000*j) w hc ok (sz.rm.le (by have:=sz.AY;omega));refine⟨h',o',c',t,G',?_,w',OZ,x'⟩;rw[Ae,Fm];simp only[abS,↓reduceIte,Bj,d,f,g,i,y,z,A,A3 B,r2.Ad];try rfl
 rw[Af B];by_cases C:q.k=9;.rw[Ag C];dsimp only;obtain⟨h',o',r2,w',x'⟩:=aAf w sz.rm q.name;refine⟨h',o',c,t,G,?_,w',by have e:(b.C6 q.name).AY=b.AY:=(by unfold BS.C6;split;split<;>rfl;rfl);rw[e];exact hc,x'⟩;rw[Ae,Fm];simp only[abS,↓reduceIte,Bj,d,f,g,i,y,z,A,B,A3 C,r2.Ad];try rfl
 rw[Af C];by_cases Il:q.k=10;.rw[Ag Il];dsimp only;obtain⟨h',o',c',G',r2,w',OZ,x'⟩:=aEy (m:=5000000*j) w hc ok (sz.rm.le (by have:=sz.AA;omega)) q.name;refine⟨h',o',c',t,G',?_,w',OZ,x'⟩;rw[Ae,Fm];simp only[abS,↓reduceIte,Bj,d,f,g,i,y,z,A,B,C,A3 Il,r2.Ad];try rfl
 rw[Af Il];by_cases MI:q.k=11;.rw[Ag MI];dsimp only;obtain⟨h',r2,w',x'⟩:=so w sz.rm;refine⟨h',o,c,t,G,?_,w',hc,x'⟩;rw[Ae,Fm];simp only[abS,↓reduceIte,Bj,d,f,g,i,y,z,A,B,C,Il,A3 MI,r2.Ad];try rfl
 rw[Af MI];by_cases NB:q.k=12;.rw[Ag NB];dsimp only;obtain⟨r,aD,D,hr,Hq⟩:=et (q:=q) hv hq.As.1 h;rw[SK] at D;obtain⟨h',G',r2,w',x'⟩:=aEd (m:=5000000*j) w ok sz.kK hr Hq hq.As q.a;refine⟨h',o,c,t,G',?_,w',by have e:(b.Fh q.As q.a).AY=b.AY:=(by unfold BS.Fh;split<;>rfl);rw[e];exact hc,x'⟩;rw[Ae,Fm];simp only[abS,↓reduceIte,Bj,d,f,g,i,y,z,A,B,C,Il,MI,A3 NB,D.Ad,r2.Ad];try rfl
 rw[Af NB];by_cases NC:q.k=13;.rw[Ag NC];dsimp only;obtain⟨h',o',c',t',r2,w',OZ,x'⟩:=aEe w hc sz.rm;refine⟨h',o',c',t',G,?_,w',OZ,x'⟩;rw[Ae,Fm];simp only[abS,↓reduceIte,Bj,d,f,g,i,y,z,A,B,C,Il,MI,NB,A3 NC,r2.Ad];try rfl
 rw[Af NC];by_cases QS:q.k=14;.rw[Ag QS];dsimp only;obtain⟨h',r2,w',x'⟩:=aEi w;refine⟨h',o,c,t,G,?_,w',hc,x'⟩;rw[Ae,Fm];simp only[abS,↓reduceIte,Bj,d,f,g,i,y,z,A,B,C,Il,MI,NB,NC,A3 QS,r2.Ad];try rfl
 rw[Af QS];by_cases TN:q.k=15;.rw[Ag TN];dsimp only;have w':BX (put h bi 15 (.bool q.b)) bi a o c t G {b with HS:=q.b}:=w.put rfl rfl w.o w.t;refine⟨put h bi 15 (.bool q.b),o,c,t,G,?_,w',hc,BL⟩;rw[Ae,Fm];simp only[abS,↓reduceIte,Bj,d,f,g,i,y,z,A,B,C,Il,MI,NB,NC,QS,A3 TN,w.st (k:=15) (v:= .bool q.b) rfl rfl];try rfl
 rw[Af TN];by_cases U4:q.k=16;.rw[Ag U4];dsimp only;have L:=sz.rm.tm;have yl:AJ=140737488355328:=rfl;obtain⟨u,N,hu⟩:=w.t.1.Pv Ac;have M:=Bz.Xi (b:=8) (a:=q.n) hu Ac;have em:Az (.DX 1) [I q.n]=some (.sl 1 [CM q.n]):=rfl;have Qs:GI (b.tm++[q.n]) (.sl 1 ((b.tm++[q.n]).map CM)):= .mk;have w':=w.sr (SE.lR (l:=b.tm) (m:=q.n));refine⟨put h bi 6 (.sl 1 ((b.tm++[q.n]).map CM)),o,c,_,G,?_,w',hc,BL⟩;rw[Ae,Fm];simp only[abS,↓reduceIte,Bj,d,f,g,i,y,z,A,B,C,Il,MI,NB,NC,QS,TN,A3 U4,w.l6,N,em,M,w.st (k:=6) (v0:=t) rfl (Bz.cells Qs)];try rfl
 rw[Af U4];by_cases Ya:q.k=17;.rw[Ag Ya];dsimp only;have XG:=sz.rm.AY;obtain⟨fs,JF,Rv⟩:=hc;obtain⟨u,r2,hu⟩:=f63 (h:=h) (id:=bi) (o:=3) (l:=fs) ⟨c,w.pH,Rv⟩ (by rw[<-JF,Aw] at XG;omega);have w':=w.PH (u:=u) (l:=b.AY++[Ci.zero]);have OZ:Dn (b.AY++[Ci.zero]) u:=⟨_,by rw[BW,JF];rfl,hu⟩;refine⟨put h bi 3 u,o,u,t,G,?_,w',OZ,BL⟩;rw[Ae,Fm];simp only[abS,↓reduceIte,Bj,d,f,g,i,y,z,A,B,C,Il,MI,NB,NC,QS,TN,U4,A3 Ya,r2.Ad];try rfl
 rw[Af Ya];by_cases Uv:q.k=18;.rw[Ag Uv];dsimp only;obtain⟨h',o',r2,w',x'⟩:=A_ w sz.rm;have K:=aEA b.sK h';refine⟨h',o',c,t,G,?_,w',by have e:b.Hj.AY=b.AY:=(by unfold BS.Hj;split<;>rfl);rw[e];exact hc,x'⟩;rw[Ae,Fm];simp only[abS,↓reduceIte,Bj,Jw,d,f,g,i,y,z,A,B,C,Il,MI,NB,NC,QS,TN,U4,Ya,A3 Uv,r2.Ad,K.Ad];try rfl
 rw[Af Uv];by_cases jI:q.k=19;.rw[Ag jI];dsimp only;have w':BX (put h bi 7 (I q.a)) bi a o c t G {b with head:=q.a}:=w.put rfl rfl w.o w.t;refine⟨put h bi 7 (I q.a),o,c,t,G,?_,w',hc,BL⟩;rw[Ae,Fm];simp only[abS,↓reduceIte,Bj,d,f,g,i,y,z,A,B,C,Il,MI,NB,NC,QS,TN,U4,Ya,Uv,A3 jI,w.st (k:=7) (v:= I q.a) rfl rfl];try rfl
 rw[Af jI];by_cases oD:q.k=20;.rw[Ag oD];dsimp only;have w':=w.aAg q.n;refine⟨put h bi 4 (I q.n),o,c,t,G,?_,w',hc,BL⟩;rw[Ae,Fm];simp only[abS,↓reduceIte,Bj,d,f,g,i,y,z,A,B,C,Il,MI,NB,NC,QS,TN,U4,Ya,Uv,jI,A3 oD,w.st (k:=4) (v:= I q.n) rfl rfl];try rfl
 rw[Af oD];by_cases tc:q.k=21;.rw[Ag tc];dsimp only;have XG:=sz.rm.AY;obtain⟨fs,JF,Rv⟩:=hc;obtain⟨u,r2,hu⟩:=f65 (h:=h) (id:=bi) (o:=3) (l:=fs) ⟨c,w.pH,Rv⟩ (by rw[<-JF,Aw] at XG;omega);have w':=w.PH (u:=u) (l:=Fz b.AY);have OZ:Dn (Fz b.AY) u:=⟨_,by rw[i6,JF],hu⟩;refine⟨put h bi 3 u,o,u,t,G,?_,w',OZ,BL⟩;rw[Ae,Fm];simp only[abS,↓reduceIte,Bj,d,f,g,i,y,z,A,B,C,Il,MI,NB,NC,QS,TN,U4,Ya,Uv,jI,oD,A3 tc,r2.Ad];try rfl
 rw[Af tc];by_cases E:q.k=22;.rw[Ag E];dsimp only;have ho:=sz.rm.AA;have em:Az (.DX 1) [.str q.name]=some (.sl 1 ([q.name].map B6)):=Ez (ws:=[q.name]) rfl Ax;obtain⟨u,r2,hu⟩:=f66 w.sO Ac (CO (ws:=[q.name])) Ax;have w':=w.Mo hu;refine⟨put h bi 2 u,u,c,t,G,?_,w',hc,BL⟩;rw[Ae,Fm];simp only[abS,↓reduceIte,Bj,d,f,g,i,y,z,A,B,C,Il,MI,NB,NC,QS,TN,U4,Ya,Uv,jI,oD,tc,A3 E,em,r2.Ad];try rfl
 rw[Af E];by_cases H:q.k=23;.rw[Ag H];dsimp only;have w':BX (put h bi 8 (I q.a)) bi a o c t G {b with IG:=q.a}:=w.put rfl rfl w.o w.t;refine⟨put h bi 8 (I q.a),o,c,t,G,?_,w',hc,BL⟩;rw[Ae,Fm];simp only[abS,↓reduceIte,Bj,d,f,g,i,y,z,A,B,C,Il,MI,NB,NC,QS,TN,U4,Ya,Uv,jI,oD,tc,E,A3 H,w.st (k:=8) (v:= I q.a) rfl rfl];try rfl
 rw[Af H];by_cases J:q.k=24;.rw[Ag J];dsimp only;obtain⟨r,aD,D,hr,Hq⟩:=et (q:=q) hv hq.As.1 h;rw[SK] at D;obtain⟨h',G',r2,w',x'⟩:=rq (m:=5000000*j) w ok sz.kK hr Hq hq.As hq.name q.a q.Be;have K:=aEA (b.Jq q.name q.As q.Be) h';refine⟨h',o,c,t,G',?_,w',by have e:(b.E7 q.name q.As q.Be q.a).AY=b.AY:=(by unfold BS.E7;split<;>rfl);rw[e];exact hc,x'⟩;rw[Ae,Fm];simp only[abS,↓reduceIte,Bj,Jw,d,f,g,i,y,z,A,B,C,Il,MI,NB,NC,QS,TN,U4,Ya,Uv,jI,oD,tc,E,H,A3 J,D.Ad,r2.Ad,K.Ad];try rfl
 rw[Af J];refine⟨h,o,c,t,G,?_,w,hc,.refl⟩;rw[Ae,Fm];simp only[abS,↓reduceIte,Bj,d,f,g,i,y,z,A,B,C,Il,MI,NB,NC,QS,TN,U4,Ya,Uv,jI,oD,tc,E,H,J];try rfl
end
def Ċ(q:Bool):Ar:={n:=[{kind:=1,Cl:=1,CL:=q}],i:=[0]}
def F8(q:Bool):BS:={a:=Ċ q,Cl:=1,AA:=[],AY:=[],mode:=1,Qu:=0,tm:=[],head:=0,IG:=0,PC:=false,ctx:=Item.zero,fs:=true,HS:=false,aCW:=[],skip:=false,sw:=0,stop:=false}
def KZ(sp:Int)(nm:Aj)(l:List AZ)(q:Bool):BS:=
 {(F8 q).E7 F9 [] 1 1 with a:=((F8 q).E7 F9 [] 1 1).a.HV ((F8 q).Jq F9 [] 1).node 1 0,AA:=((F8 q).E7 F9 [] 1 1).AA++[(F8 q).Jq F9 [] 1],PC:=true,ctx:=⟨0,sp,nm,Iu sp nm l⟩}
def QT(sp:Int)(nm:Aj)(l:List AZ)(q:Bool):BS:=if Bf [A5] (KZ sp nm l q).ctx then{KZ sp nm l q with tm:=[18]} else KZ sp nm l q
def oE(sp:Int)(nm:Aj)(l:List AZ)(q f:Bool):BS:=if f then{(QT sp nm l q).IW with IG:= -1} else(QT sp nm l q).IW
structure Hd where
 PC:Bool
 Be:Int
 name:Aj
 As:List AZ
 CL:Bool
 IG:Bool
def Hd.b(s:Hd):BS:=if s.PC then oE s.Be s.name s.As s.CL s.IG else F8 s.CL
def SL(s:Hd)(av:Aa):List Aa:=[.bool s.PC,I s.Be,.str s.name,av,.bool s.CL,.bool s.IG]
def aAs(q:Bool):Er (Ċ q) 0:=by
 have h0:Er (⟨[],[]⟩:Ar) 0:=by
  have hn:∀h,¬(⟨[],[]⟩:Ar).has h:=λh d=>by have h1:=d.1;have h2:=d.2;simp at h2;omega
  exact⟨rfl,λh d=>absurd d (hn h),λh d=>absurd d (hn h),λh d=>absurd d (hn h),λh d=>absurd d (hn h),λh d=>absurd d (hn h),λh d=>absurd d (hn h),λh d=>absurd d (hn h),λh d=>absurd d (hn h),λh d=>absurd d (hn h),⟨λ_=>0,λh d=>absurd d (hn h)⟩⟩
 have hx:sC {kind:=1,Cl:=1,CL:=q}:=by constructor<;>simp[CC,Gu]
 exact Rg h0 hx (.inl ⟨rfl,rfl⟩) rfl rfl rfl rfl (λh=>absurd h.1 (AM:¬(1:Int)=4))
def SM(q:Bool):E0 (F8 q):=by refine⟨aAs q,⟨⟨NM 1,NM 1⟩,rfl⟩,λi hi=>(nomatch hi),Mf,λe he=>(nomatch he),Mf⟩
def jJ{q:Bool}(x:Int):(F8 q).a.nd x=if x=1 then{kind:=1,Cl:=1,CL:=q} else{}:=by
 unfold Ar.nd;by_cases h:x=1;.subst h;rfl
 .rw[Af h,Af];intro d;have h1:=d.1;have h2:=d.2;simp[F8,Ċ] at h2;omega
def Qm(q:Bool):Sz (F8 q) 101:=by
 refine⟨⟨by simp[F8,Ċ],λx=>?_,λx=>?_,by simp[F8],by simp[F8],by simp[F8],λe he=>(nomatch he),λi hi=>(nomatch hi)⟩,by simp[F8],by simp[F8]⟩;.rw[jJ];split<;>simp
 .rw[jJ];split<;>simp
section
variable{h h':Ai}{bi a:Nat}{o c t:Aa}{G G' F:Nat->Prop}{b:BS}{x:Int}{m j:Nat}{q:d_}
variable{nm:Aj}{av:Aa}{l:List AZ}{r:List Aa}{sp p:Int}
def aIQ(h:Ai)(q:Bool):∃h1 h',B2 cx 43 [] h (Pt h.length 0) h1/\B2 cx 44 [Pt h.length 0,.bool q] h1 (I 1) h'/\PA h' h.length (h.length+1) none [⟨{kind:=1,Cl:=1,CL:=q},.slnil,.slnil,rfl⟩] (Ċ q)/\h'=h++[.cells [.CT (h.length+1) 0 1 13,.map none],.cells [I 1,I 0,.slnil,I 1,I 0,S [],.slnil,S [],S [],S [],.bool q,I 0,I 0]]:=by
 have yl:AJ=140737488355328:=rfl;have g1:∀u:Ai,FN u 13 168 .slnil (.sl 13 [[I 1,I 0,.slnil,I 0,I 0,S [],.slnil,S [],S [],S [],.bool q,I 0,I 0]])=some (u++[.cells [I 1,I 0,.slnil,I 0,I 0,S [],.slnil,S [],S [],S [],.bool q,I 0,I 0]],.CT u.length 0 1 13):=λu=>rfl;obtain⟨d,e⟩:∃d,d=h++[EN.cells [.slnil,.map none]]:=⟨_,rfl⟩;have A:d[h.length]?=some (.cells [.slnil,.map none]):=by rw[e];simp
 have az:d.length=h.length+1:=by rw[e];simp
 have g2:=g1 d;rw[az] at g2;have B:At d h.length 0 .slnil:=⟨_,A,rfl⟩;have w:(d++[EN.cells [I 1,I 0,.slnil,I 0,I 0,S [],.slnil,S [],S [],S [],.bool q,I 0,I 0]])[h.length]?=some (.cells [.slnil,.map none]):=(An Ac).trans A;have J:(d++[EN.cells [I 1,I 0,.slnil,I 0,I 0,S [],.slnil,S [],S [],S [],.bool q,I 0,I 0]])[h.length+1]?=some (.cells [I 1,I 0,.slnil,I 0,I 0,S [],.slnil,S [],S [],S [],.bool q,I 0,I 0]):=by rw[<-az];simp
 have pF:(d++[EN.cells [I 1,I 0,.slnil,I 0,I 0,S [],.slnil,S [],S [],S [],.bool q,I 0,I 0]]).length=h.length+2:=by rw[Ao,az];rfl
 have s:d++[EN.cells [I 1,I 0,.slnil,I 0,I 0,S [],.slnil,S [],S [],S [],.bool q,I 0,I 0]]=h++[.cells [.slnil,.map none],.cells [I 1,I 0,.slnil,I 0,I 0,S [],.slnil,S [],S [],S [],.bool q,I 0,I 0]]:=by rw[e,AT];rfl
 generalize d++[EN.cells [I 1,I 0,.slnil,I 0,I 0,S [],.slnil,S [],S [],S [],.bool q,I 0,I 0]]=g at*;have t2:At g h.length 0 .slnil:=⟨_,w,rfl⟩;have D:=t2.store (u:= .CT (h.length+1) 0 1 13) rfl;have z:=Jr (k:=0) (v:= .CT (h.length+1) 0 1 13) w;have n:(put g h.length 0 (.CT (h.length+1) 0 1 13))[h.length+1]?=_:=(CU Ac).trans J;have M:put g h.length 0 (.CT (h.length+1) 0 1 13)=h++[.cells [.CT (h.length+1) 0 1 13,.map none],.cells [I 1,I 0,.slnil,I 0,I 0,S [],.slnil,S [],S [],S [],.bool q,I 0,I 0]]:=by rw[HQ w,s,B0 _ _ (Ab _),Eb];rfl
 generalize put g h.length 0 (.CT (h.length+1) 0 1 13)=f at*;have l3:Bd f none (Pt h.length 0)=some (.CT (h.length+1) 0 1 13):=At.load ⟨_,z,rfl⟩;have L:Az (.FG 13) [.CT (h.length+1) 0 1 13,I 0]=some (.ptr (some (h.length+1,0))):=Ge (k:= .i64) (i:=0) AM;have t3:At f (h.length+1) 3 (I 0):=⟨_,n,rfl⟩;have C:=t3.store (u:=I 1) rfl;have N:(put f (h.length+1) 3 (I 1))[h.length]?=_:=(CU Ac).trans z;have H:=Jr (k:=3) (v:=I 1) n;have K:put f (h.length+1) 3 (I 1)=h++[.cells [.CT (h.length+1) 0 1 13,.map none],.cells [I 1,I 0,.slnil,I 1,I 0,S [],.slnil,S [],S [],S [],.bool q,I 0,I 0]]:=by rw[HQ n,M,B0 _ _ Ac,S1];rfl
 refine⟨d,put f (h.length+1) 3 (I 1),?_,?_,⟨rfl,rfl,N,H,?_,?_,.inl ⟨rfl,λk=>?_⟩⟩,K⟩;.rw[Ae,sW];simp only[abS,↓reduceIte,Bj,e]
 .have E:B2 cx 101 [Pt h.length 0,.agg [I 1,I 0,.slnil,I 0,I 0,S [],.slnil,S [],S [],S [],.bool q,I 0,I 0]] d (I 1) f:=by rw[Ae,Vl];simp only[B9,Nat.reduceLeDiff,↓reduceIte,Bj,YU,B.load,show Az (.DX 13) [.agg [I 1,I 0,.slnil,I 0,I 0,S [],.slnil,S [],S [],S [],.bool q,I 0,I 0]]=some (.sl 13 [[I 1,I 0,.slnil,I 0,I 0,S [],.slnil,S [],S [],S [],.bool q,I 0,I 0]]) from rfl,g2,D,l3,show Az (.len false) [.CT (h.length+1) 0 1 13]=some (I 1) from rfl]
  have r2:B2 cx 102 [Pt h.length 0,I 1] f (.ptr (some (h.length+1,0))) f:=by rw[Ae,Vm];simp only[B9,YU,l3,show Az (.int .sub) [I 1,I 1]=some (I 0) from rfl,L]
  rw[Ae,cT];simp only[abS,Nat.reduceLeDiff,↓reduceIte,Bj,E.Ad,r2.Ad,C]
 .intro p hp;rw[AQ] at hp;subst hp;exact .inl ⟨rfl,rfl⟩
 .simp[Fw,Hs]
 .unfold Ar.inr;split;.rename_i y;have h1:=y.1;have h2:=y.2;simp[Ċ] at h2;have:k=1:=Ac;subst this;rfl
  .rfl
def aEC(h:Ai)(q:Bool):∃h1 h2 h' bi G,B2 cx 43 [] h (Pt h.length 0) h1/\B2 cx 44 [Pt h.length 0,.bool q] h1 (I 1) h2/\B2 cx 46 [Pt h.length 0,I 1] h2 (Pt bi 0) h'/\BX h' bi h.length .slnil .slnil .slnil G (F8 q)/\EH h (λ_=>False) h' (BI bi G):=by
 obtain⟨h1,h2,k,r2,d,g⟩:=aIQ h q;obtain⟨r,t,f,K,V,rfl,s,n,_⟩:=Ź (x:=1) d ((Qm q).rm.TD) ((Qm q).rm.TD.Bm (SM q).ok 1);have hx:(Ċ q).has 1:=⟨NM 1,NM 1⟩;have e:(Ċ q).nd 1={kind:=1,Cl:=1,CL:=q}:=(jJ (q:=q) 1).trans (Ag rfl);rw[Ag hx,e] at f;have wt:PA (h2++t) _ _ _ _ _:=d.E4 λi hi=>An (d.lt i hi);refine⟨h1,h2,h2++t++[.cells (PG h.length (F8 q) .slnil .slnil .slnil)],(h2++t).length,λi=>i∈Fw h.length (h.length+1) none [⟨{kind:=1,Cl:=1,CL:=q},.slnil,.slnil,rfl⟩],k,r2,?_,⟨Ax,.inr ⟨rfl,rfl⟩,SE.nil,?_,?_⟩,?_⟩;.rw[Ae,sX];simp only[abS,Nat.reduceLeDiff,↓reduceIte,Bj,f.Ad,aaS];exact⟨λh=>absurd rfl h,λ_=>⟨λh=>absurd rfl h,λ_=>rfl⟩⟩
 .exact⟨_,_,_,wt.E4 λi hi=>An (wt.lt i hi),λi=>Iff.rfl⟩
 .intro hm;exact absurd (wt.lt _ hm) (Di _)
 .have Es:h.length<=h2.length:=by rw[g];simp
  refine⟨Ek,λi hi _=>?_,λi hi=> .inr ?_⟩;.rw[AT,An Ac,g,An hi]
  .rcases hi with rfl|hi
   .simp;omega
   .simp[Fw,Hs] at hi;omega
def td(sp:Int)(nm:Aj)(l:List AZ)(q:Bool):E0 (KZ sp nm l q)/\Sz (KZ sp nm l q) 100:=by
 refine⟨?_,?_⟩
 .obtain⟨i5,f,w⟩:=Ur (nm:=F9) (at_:=[]) (p:=1) (SM q) Lt;have s:=i5.Iw (Oh (n:=((F8 q).Jq F9 [] 1).node) (p:=1) (b:=0) i5.ok) I3;have u:Le ((F8 q).E7 F9 [] 1 1).a (((F8 q).E7 F9 [] 1 1).a.HV ((F8 q).Jq F9 [] 1).node 1 0):=I3;have ho:((F8 q).E7 F9 [] 1 1).AA=[]:=by unfold BS.E7;rw[Ag Lt];rfl
  have g:=s.ze (i:=(F8 q).Jq F9 [] 1) (k:=0) ⟨u.has _ f.has,by rw[u.kind _ f.has];exact f.kind⟩ (by simp only[ho];simp) (.inr ho);exact g.of_eq rfl rfl (by unfold KZ;simp only[ho];rfl) rfl
 .have sz:=Qm q;have e:((F8 q).E7 F9 [] 1 1).AA=[]/\((F8 q).E7 F9 [] 1 1).AY=[]:=by unfold BS.E7;rw[Ag Lt];exact⟨rfl,rfl⟩
  have v:=LC (m:=5000000*100+1) (nm:=F9) (l:=[]) (sp:=1) (p:=1) (sz.rm.le Ac) ⟨AM,λa ha=>(nomatch ha)⟩;have r2:=v.Iw (LI (x:=((F8 q).Jq F9 [] 1).node) (p:=1) (bf:=0));have d:=r2.pd (i:=(F8 q).Jq F9 [] 1) (l':=((F8 q).E7 F9 [] 1 1).AA++[(F8 q).Jq F9 [] 1]) Ax (λj hj=>by simpa using hj) (PD AM);exact⟨⟨d.n,d.at_,d.data,d.AA,d.AY,d.tm,d.DD,d.Z4⟩,by unfold KZ;simp only[e.1];show 1+1200*100<=125000;decide,by unfold KZ;simp only[e.2];decide⟩
def oF(sp:Int)(nm:Aj)(l:List AZ)(q:Bool):E0 (QT sp nm l q)/\Sz (QT sp nm l q) 100:=by
 obtain⟨e,d⟩:=td sp nm l q;unfold QT;split;.have r:=d.rm;exact⟨e.of_eq rfl rfl rfl rfl,⟨⟨r.n,r.at_,r.data,r.AA,r.AY,Ax,r.DD,r.Z4⟩,d.AA,d.AY⟩⟩
 .exact⟨e,d⟩
def I_(sp:Int)(nm:Aj)(l:List AZ)(q f:Bool):E0 (oE sp nm l q f)/\Sz (oE sp nm l q f) 100:=by
 obtain⟨î,d⟩:=oF sp nm l q;have e:Cf (QT sp nm l q).IW (5000000*100):=d.rm.mode;unfold oE;split;.exact⟨(Sl î).of_eq rfl rfl rfl rfl,⟨⟨e.n,e.at_,e.data,e.AA,e.AY,e.tm,e.DD,e.Z4⟩,d.AA,d.AY⟩⟩
 .exact⟨Sl î,⟨e,d.AA,d.AY⟩⟩
def BX.aED(w:BX h bi a o c t G b)(i:Item):∃h',CK h 4 (Pt bi 10) (.agg i.row)=some h'/\BX h' bi a o c t G {b with ctx:=i}/\EH h (BI bi G) h' (BI bi G):=by refine⟨h.set bi (.cells (PG a {b with ctx:=i} o c t)),?_,⟨AD w.lt,w.o,w.t,w.w.E4 λj hj=>Ap λe=>w.nb (by rw[e];exact hj),w.nb⟩,⟨by rw[BY];exact Ab _,λj _ hn=>Ap λe=>hn (.inl e.symm),λ_ h=> .inl h⟩⟩;simp only[CK,w.hb];rfl
def aIS(h:Ai)(sp:Int)(nm:Aj)(hv:A6 l av)(hl:E1 l)(q f q':Bool):∃h1 h2 h' bi o t G,B2 cx 43 [] h (Pt h.length 0) h1/\B2 cx 44 [Pt h.length 0,.bool q] h1 (I 1) h2/\B2 cx 45 [Pt h.length 0,I 1,.agg [I sp,.str nm,av,.bool q',.bool f]] h2 (Pt bi 0) h'/\BX h' bi h.length o .slnil t G (oE sp nm l q f)/\EH h (λ_=>False) h' (BI bi G):=by
 obtain⟨h1,h2,h3,bi,G,O,r2,N,w,x⟩:=aEC h q;have hr:XY F9 .slnil [I 2,.str F9,ff,S [],ff,S [],ff,ff,.slnil,ff,S [],.int .i32 0]:=⟨I 2,ff,S [],ff,S [],ff,ff,ff,S [],.int .i32 0,rfl⟩;obtain⟨h4,G4,M,w4,x4⟩:=rq (m:=1000) w (SM q).ba ((Qm q).rm.le Ac) hr (l:=[]) (.inr ⟨rfl,rfl⟩) ⟨AM,λa ha=>(nomatch ha)⟩ AM 1 1;obtain⟨î,f4,le4⟩:=Ur (nm:=F9) (at_:=[]) (p:=1) (SM q) Lt;have T:=LC (m:=1000) (nm:=F9) (l:=[]) (sp:=1) (p:=1) ((Qm q).rm.le Ac) ⟨AM,λa ha=>(nomatch ha)⟩;obtain⟨B,g,L,W,Z⟩:=nU (x:=((F8 q).Jq F9 [] 1).node) (p:=1) (bf:=0) w4 î.ba T;have ho:((F8 q).E7 F9 [] 1 1).AA=[]:=by unfold BS.E7;rw[Ag Lt];rfl
 obtain⟨d,K,C⟩:=f95 W.sO (by simp only[ho];decide) ((F8 q).Jq F9 [] 1);have Q:=W.Mo C;have w7:BX (put (put B bi 2 d) bi 9 tt) bi h.length d .slnil .slnil g _:=Q.put (k:=9) (v:=tt) (b':={{{(F8 q).E7 F9 [] 1 1 with a:=((F8 q).E7 F9 [] 1 1).a.HV ((F8 q).Jq F9 [] 1).node 1 0} with AA:=((F8 q).E7 F9 [] 1 1).AA++[(F8 q).Jq F9 [] 1]} with PC:=true}) rfl rfl C Q.t;have H:CK (put B bi 2 d) 1 (Pt bi 9) tt=some (put (put B bi 2 d) bi 9 tt):=Q.st (k:=9) (v:=tt) (v0:= .bool ((F8 q).E7 F9 [] 1 1).PC) rfl rfl;have J:B2 cx 105 [I sp,.str nm,av] (put (put B bi 2 d) bi 9 tt) (.bool (Iu sp nm l)) (put (put B bi 2 d) bi 9 tt):=f96 hv (λa ha=>by have:=(hl.2 a ha).2;have:AJ=140737488355328:=rfl;omega) (by have:=hl.1;omega) sp nm _;obtain⟨y,s8,V,Y⟩:=w7.aED ⟨0,sp,nm,Iu sp nm l⟩;have i:BX y bi h.length d .slnil .slnil g (KZ sp nm l q):=V;have P:EH h (λ_=>False) y (BI bi g):=((((x.trans x4).trans Z).trans BL).trans BL).trans Y;clear V;have s:=i.aEb;have aOy:(KZ sp nm l q).ctx=⟨0,sp,nm,Iu sp nm l⟩:=rfl;obtain⟨aOz,R⟩:=oF sp nm l q;have A:=uG (ws:=[A5]) CO AM (KZ sp nm l q).ctx y;have key:∃D t9,BX D bi h.length d .slnil t9 g (QT sp nm l q)/\EH y (BI bi g) D (BI bi g)/\(Bf [A5] (KZ sp nm l q).ctx=true->CK y 1 (Pt bi 6) (.sl 1 [[I 18]])=some D)/\(Bf [A5] (KZ sp nm l q).ctx=false->D=y):=by
  by_cases u:Bf [A5] (KZ sp nm l q).ctx=true;.have hu:GI [18] (.sl 1 [[I 18]]):= .mk;refine⟨put y bi 6 (.sl 1 [[I 18]]),.sl 1 [[I 18]],?_,BL,λ_=>i.st (k:=6) (v0:= .slnil) rfl rfl,λh=>absurd u (by rw[h];decide)⟩;unfold QT;rw[Ag u];exact i.sr ⟨.inl hu,λe=>by injection e with _ e;simp at e⟩
  .refine⟨y,.slnil,?_,.refl,λh=>absurd h u,λ_=>rfl⟩;unfold QT;rw[Af u];exact i
 obtain⟨D,t9,w9,X,k1,k2⟩:=key;obtain⟨Y1,yF,pI,Ĉ⟩:=so w9 R.rm;have em:Az (.DX 1) [I 18]=some (.sl 1 [[I 18]]):=rfl;have E:EH h (λ_=>False) Y1 (BI bi g):=(P.trans X).trans Ĉ;have hir:((F8 q).Jq F9 [] 1).row=[I ((F8 q).Jq F9 [] 1).node,I ((F8 q).Jq F9 [] 1).Be,.str ((F8 q).Jq F9 [] 1).name,.bool ((F8 q).Jq F9 [] 1).OI]:=rfl;generalize(F8 q).Jq F9 [] 1=it at*;have n:CK (put (put B bi 2 d) bi 9 tt) 4 (Pt bi 10) (.agg [I 0,I sp,.str nm,.bool (Iu sp nm l)])=some y:=s8;have z:Az (.DX 1) [S aQh]=some (.sl 1 ([A5].map B6)):=yD;cases u:Bf [A5] (KZ sp nm l q).ctx with
 |true=>
  rw[u] at A;have ċ:=k1 u;cases f with
  |true=>
   refine⟨h1,h2,put Y1 bi 8 (I (-1)),bi,d,t9,g,O,r2,?_,?_,E.trans BL⟩;.rw[Ae,cU];simp only[abS,Nat.reduceLeDiff,↓reduceIte,Bj,Jw,N.Ad,M.Ad,L.Ad,K.Ad,H,J.Ad,n,s,z,A.Ad,em,ċ,yF.Ad,pI.st (k:=8) (v:=I (-1)) rfl rfl]
   .unfold oE;rw[Ag rfl];exact pI.put rfl rfl pI.o pI.t
  |false=>refine⟨h1,h2,Y1,bi,d,t9,g,O,r2,?_,pI,E⟩;rw[Ae,cU];simp only[abS,Nat.reduceLeDiff,↓reduceIte,Bj,Jw,N.Ad,M.Ad,L.Ad,K.Ad,H,J.Ad,n,s,z,A.Ad,em,ċ,yF.Ad]
 |false=>
  rw[u] at A;have U:=k2 u;subst U;cases f with
  |true=>
   refine⟨h1,h2,put Y1 bi 8 (I (-1)),bi,d,t9,g,O,r2,?_,?_,E.trans BL⟩;.rw[Ae,cU];simp only[abS,Nat.reduceLeDiff,↓reduceIte,Bj,Jw,N.Ad,M.Ad,L.Ad,K.Ad,H,J.Ad,n,s,z,A.Ad,em,yF.Ad,pI.st (k:=8) (v:=I (-1)) rfl rfl]
   .unfold oE;rw[Ag rfl];exact pI.put rfl rfl pI.o pI.t
  |false=>refine⟨h1,h2,Y1,bi,d,t9,g,O,r2,?_,pI,E⟩;rw[Ae,cU];simp only[abS,Nat.reduceLeDiff,↓reduceIte,Bj,Jw,N.Ad,M.Ad,L.Ad,K.Ad,H,J.Ad,n,s,z,A.Ad,em,yF.Ad]
def aIT(h:Ai)(s:Hd)(hv:A6 s.As av)(hl:E1 s.As):∃h' bi a o c t G,B2 cx 19 [.agg (SL s av)] h (Pt bi 0) h'/\BX h' bi a o c t G s.b/\Dn s.b.AY c/\EH h (λ_=>False) h' (BI bi G):=by
 have mg:(KZ s.Be s.name s.As s.CL).AY=[]:=by unfold KZ;simp only;unfold BS.E7;rw[Ag Lt];rfl
 cases hf:s.PC with
 |true=>
  obtain⟨h1,h2,h',bi,o,t,G,f,r2,d,w,x⟩:=aIS h s.Be s.name hv hl s.CL s.IG s.CL;refine⟨h',bi,h.length,o,.slnil,t,G,?_,by unfold Hd.b;rw[Ag hf];exact w,?_,x⟩;.rw[Ae,pv,SL,hf];simp only[B9,f.Ad,r2.Ad,d.Ad]
  .have e:s.b.AY=[]:=by unfold Hd.b oE QT;rw[Ag hf];split<;>split<;>exact mg
   rw[e];exact⟨[],rfl,.inr ⟨rfl,rfl⟩⟩
 |false=>
  obtain⟨h1,h2,h',bi,G,f,r2,d,w,x⟩:=aEC h s.CL;have e:s.b=F8 s.CL:=by unfold Hd.b;rw[Af (by rw[hf];decide)]
  refine⟨h',bi,h.length,.slnil,.slnil,.slnil,G,?_,by rw[e];exact w,by rw[e];exact⟨[],rfl,.inr ⟨rfl,rfl⟩⟩,x⟩;rw[Ae,pv,SL,hf];simp only[B9,f.Ad,r2.Ad,d.Ad]
def Hd.ok(s:Hd):E0 s.b/\Sz s.b 100:=by
 unfold Hd.b;split;.exact I_ _ _ _ _ _
 .have h:=Qm s.CL;exact⟨SM _,⟨h.rm.le Ac,by have:=h.AA;omega,by have:=h.AY;omega⟩⟩
end
end Go.Am
end
section
end
section
namespace Go.Am
open Go
def TO(h:Ai)(lo:Nat)(v:Aa)(l:List Fg):Prop:=∃Av:List (List Aa),Bz 13 Av v/\Av.length=l.length/\∀k (h1:k<Av.length) (h2:k<l.length),XS h lo l[k] Av[k]
section
variable{h h':Ai}{lo lo':Nat}{v v':Aa}
def Up.le{N b:Nat}(hu:Up N v)(hl:b<=N):Up b v:=λid k e=>Bn hl (hu id k e)
def XS.low{x:Fg}{r:List Aa}(hr:XS h lo x r)(hl:lo'<=lo):XS h lo' x r:=let⟨K,V,e,h1,h2,b⟩:=hr;⟨K,V,e,h1,h2,b.le hl⟩
end
def aAu{A:Ar}{k:Nat}(hk:k<A.n.length):A.has ((k:Int)+1)/\A.nd ((k:Int)+1)=A.n[k]:=by
 have h1:A.has ((k:Int)+1):=by unfold Ar.has;omega
 refine⟨h1,?_⟩;unfold Ar.nd;rw[Ag h1,AK,(Ac:((k:Int)+1).toNat-1=k),Au hk];rfl
section
variable{h h':Ai}{a n:Nat}{m:Option Nat}{ps:List PN}{A:Ar}{x:Int}
def aIU(w:PA h a n m ps A)(p:Mn A)(hk:∀x,(A.nd x).Bm.length<=1000000000)(hb:A.n.length<=900000000):∃v u,B2 cx 12 [Pt a 0] h v (h++u)/\TO (h++u) h.length v A.n:=by
 have yl:AJ=140737488355328:=rfl;have v8:A.n.length=ps.length:=by rw[w.e,Aw]
 have OT:Ev cx 12 [Pt a 0] h λr h'=>∃u,h'=h++u/\TO (h++u) h.length r A.n:=by
  unfold Ev;rw[Ş];simp only[B9,YU,w.nodes,show Az (.len false) [.CT n 0 ps.length 13]=some (I (ps.length:Int)) from rfl];refine BM (λz:Aa×Nat=>[z.1,I (z.2:Int)]) (λz h1=>z.2<=ps.length/\∃u,h1=h++u/\TO (h++u) h.length z.1 (A.n.take z.2)) (λz=>ps.length-z.2) (.slnil,0) rfl ⟨Bc _,[],Ax,[],.nil,Ax,λk h1 h2=>by simp at h1⟩ ?_;rintro⟨V,k⟩ h1 ⟨pA,u,rfl,c⟩;simp only at pA c;have w1:PA (h++u) a n m ps A:=w.E4 λi hi=>An (w.lt i hi);rcases Bl k ps.length with hlt|GS
  .obtain⟨hx,ex⟩:=aAu (A:=A) (k:=k) Ac;obtain⟨r,t,l,hr⟩:=õ w1 p hx (hk _);have ea:Az (.FG 13) [.CT n 0 ps.length 13,I (k:Int)]=some (.ptr (some (n,nP n ((k:Int)+1)))):=by have:=Ge (k:= .i64) (id:=n) (z:=13) hlt;rw[this];unfold nP;congr 4
   obtain⟨Av,g,d,o⟩:=c;rw[AB,Cx Ac] at d;obtain⟨K,W,f,Lu⟩:=hr;have em:Az (.DX 13) [.agg r]=some (.sl 13 [r]):=R4 (a:= .agg r) (by rw[f];rfl) AM;have s:=Bz.mz (b:=168) (row:=r) g Ac;simp only[abS,(Ac:(k:Int)<(ps.length:Int)),w1.nodes,ea,l.Ad,em,s,CE (Ac:k<9223372036854775807)];refine Br.next (_,k+1) rfl ⟨hlt,u++t,by rw[AT],Av++[r],.mk,by rw[Ao,AB,d];simp;omega,λj h1 h2=>?_⟩ Gw;rw[<-AT];rw[aLA];by_cases hj:j<Av.length;.rw[K6 hj];have:=o j hj (by rw[AB];omega);rw[aLA] at this;exact this.Jn
   .have q:j=k:=by simp at h1;omega
    subst q;rw[List.getElem_append_right Ac];simp only[d,Eb,aA8];rw[<-ex];exact XS.low (lo:=(h++u).length) ⟨K,W,f,Lu⟩ Ax
  .rw[A8 Ac] at c;simp only[abS,(Ac:¬(k:Int)<(ps.length:Int))];exact⟨_,rfl,u,rfl,c⟩
 obtain⟨r,h',hr,u,rfl,c⟩:=OT.ret;exact⟨r,u,hr,c⟩
end
def PB(h:Ai)(bi:Nat)(b:BS)(F:Nat->Prop):Prop:=∃a o c t G,BX h bi a o c t G b/\Dn b.AY c/\F=BI bi G
structure Fin(b:BS)(j:Nat):Prop where
 ok:E0 b
 sz:Sz b j
section
variable{h h':Ai}{bi wi:Nat}{b:BS}{F F2:Nat->Prop}{q:d_}{av:Aa}{j:Nat}
def PB.lt(w:PB h bi b F){i:Nat}(hi:F i):i<h.length:=by
 obtain⟨a,o,c,t,G,w,_,rfl⟩:=w;rcases hi with rfl|hi
 .exact w.lt
 .exact w.w.lt hi
def PB.E4(w:PB h bi b F)(hf:∀i,F i->h'[i]?=h[i]?):PB h' bi b F:=by obtain⟨a,o,c,t,G,w,hc,rfl⟩:=w;exact⟨a,o,c,t,G,w.E4 hf,hc,rfl⟩
def PB.Jn(w:PB h bi b F){u:Ai}:PB (h++u) bi b F:=w.E4 λi hi=>An (w.lt hi)
def Fin.le{k:Nat}(f:Fin b j)(hk:k<=j):Fin b k:=⟨f.ok,f.sz.rm.le Ac,by have:=f.sz.AA;omega,by have:=f.sz.AY;omega⟩
def Fin.do(f:Fin b (j+1))(hq:ĉ q):Fin (ee b q).1 j:=⟨aAq f.ok,aAr f.sz hq⟩
def Hd.IE(s:Hd):Fin s.b 100:=⟨s.ok.1,s.ok.2⟩
def aIV(w:PB h bi b F)(f:Fin b (j+1))(hq:ĉ q)(hv:A6 q.As av):∃h' F',B2 cx 20 [Pt bi 0,.agg (SK q av)] h (.agg (ee b q).2.row) h'/\PB h' bi (ee b q).1 F'/\EH h F h' F':=by obtain⟨a,o,c,t,G,w,hc,rfl⟩:=w;obtain⟨h',o',c',t',d,r,w',OZ,x⟩:=aIP w hc f.ok f.sz hq hv;exact⟨h',_,r,⟨a,o',c',t',d,w',OZ,rfl⟩,x⟩
def aIW(s:Hd)(hv:A6 s.As av)(hl:E1 s.As)(h:Ai):∃h' bi F,B2 cx 19 [.agg (SL s av)] h (Pt bi 0) h'/\PB h' bi s.b F/\EH h (λ_=>False) h' F:=by obtain⟨h',bi,a,o,c,t,G,r,w,hc,x⟩:=aIT h s hv hl;exact⟨h',bi,_,r,⟨a,o,c,t,G,w,hc,rfl⟩,x⟩
end
structure QO where
 q:d_
 v:Aa
 ok:A6 q.As v
def QO.row(x:QO):List Aa:=SK x.q x.v
def QO.DW{x:QO}:x.row.length=9:=rfl
def QO.KT{x:QO}:x.row.take 9=x.row:=rfl
def oG(l:List QO)(v:Aa):Prop:=Bz 9 (l.map QO.row) v
def ND:BS->List QO->BS
 |b,[]=>b
 |b,x::l=>ND (ee b x.q).1 l
def Yb:∀{l:List QO} {b:BS} {x:QO},ND b (l++[x])=(ee (ND b l) x.q).1
 |[],_,_=>rfl
 |y::l,b,x=>by rw[CD,ND,Yb,ND]
def Yc:∀{l:List QO} {b:BS} {j:Nat},Fin b (j+l.length)->(∀x∈l,ĉ x.q)->Fin (ND b l) j
 |[],_,_,f,_=>f
 |x::l,b,j,f,hq=>by rw[ND];exact Yc (Fin.do (j:=j+l.length) (f.le (by simp only[AG];omega)) (hq x Ax)) λy hy=>hq y (by simp[hy])
end Go.Am
end
section
end
