/- Lemmas -/
import Derived.Test.YtjjnhgoknielgaaGreatDoorZ24
set_option linter.all false
set_option maxRecDepth 100000
section
namespace Go.Am
open Go
section
variable{h h':Ai}{bi a ai:Nat}{o c t:Aa}{G G' F:Nat->Prop}{b b':BS}{x:Int}{m:Nat}
variable{nm:Ah}{av:Aa}{l:List Be}{r:List Aa}{sp p:Int}{e:DG}{at_ mk last:Int}{anc far:Item}
def ED.find(hc:ED b.A4 c)(w:BX h bi a o c t G b)(rm:CK b m)(nm:Ah):Cy cx 212 [Pt bi 3,.str nm] h (I (DS nm b.A4)) h:=by obtain⟨fs,ME,hv⟩:=hc;have ha:=rm.A4;have:=aI4 w.qi hv (by rw[<-ME,Aw] at ha;omega) nm;rwa [gx,ME] at this
def Y4(ľ:h.length<=ai)(x:Fo h (NC ai bi G) h' (NC ai bi G')):Fo h (BT bi G) h' (BT bi G'):=
 ⟨x.len,λi hi hn=>x.old i hi λhg=>by
  rcases hg with rfl|hg
  .omega
  .exact hn hg,λi hi=>by
  rcases x.BT i (.inr hi) with(rfl|h)|h
  .exact .inr ľ
  .exact .inl h
  .exact .inr h⟩
def Y5{nm:Ah}{l:List Ck}(h:0<=DS nm l):∃p:Nat,∃hp:p<l.length,DS nm l=(p:Int):=by
 have key:∀r:List Ck,Pw nm r<r.length:=by
  intro r;induction r with
  |nil=>show(-1:Int)<0;decide
  |cons x r ih=>rw[Pw];simp only[AK];split<;>(try split)<;>omega
 have:=key l.reverse;rw[LJ] at this;refine⟨(DS nm l).toNat,?_,Ab⟩;unfold DS at h⊢;omega
def aA0{l:List Ck}{f:Nat}(hn:((l.map Ck.node).filter λn=>decide (n≠0)).Nodup)(hf:f<l.length)(h0:l[f].node≠0):FL l[f].node l=(f:Int):=by
 unfold FL;rw[Ac h0];refine Nj hf (by simp[VK]) λj hj h=>?_;by_cases he:l[j].node=l[f].node
 .exfalso;have:l=l.take j++l[j]::l.drop (j+1):=by rw[<-Az hj,Br]
  rw[this,Cg,Bj,Bc,HE,Af (by simpa[he] using h0),BW] at hn;have hm:l[f]∈l.take j:=CS.2 ⟨f,Ab,rfl⟩;exact hn.2.2 l[f].node (BD.2 ⟨bA hm,by simpa using h0⟩) l[j].node AB he.symm
 .simp[VK,he]
def oW{v:GJ}:Fo h (Am.NC ai bi G) (h.set ai v) (Am.NC ai bi G):=⟨by rw[Ch];exact Ad _,λi _ hn=>Aq λe=>hn (.inl e.symm),λ_ h=> .inl h⟩
def aGa(hc:h[ai]?=some (.cells (F5 e at_ mk anc far last)))(i:Item):C9 h 4 (Pt ai 5) (.agg i.row)=some (h.set ai (.cells (F5 e at_ mk i far last))):=by simp only[C9,hc];rfl
def aGb(hc:h[ai]?=some (.cells (F5 e at_ mk anc far last)))(i:Item):C9 h 4 (Pt ai 9) (.agg i.row)=some (h.set ai (.cells (F5 e at_ mk anc i last))):=by simp only[C9,hc];rfl
def aGc(hc:h[ai]?=some (.cells (F5 e at_ mk anc far last))):Bn h (some 3) (Pt ai 0)=some (.agg e.row):=by simp only[Bn,hc];rfl
def aE{A:Ar}{n x:Int}{l:List Int}:BS.Dz A n (l++[x])=(BS.Dz A n l).GC n x 0:=by unfold BS.Dz;rw[List.foldl_append];rfl
def aOL(w:BX h bi a o c t G b)(hc:ED b.A4 c)(ok:Ey b)(rm:CK b (m+4*b.Au.length+10))(nm:Ah):
  ∃h' o' c' G',Cy cx 216 [Pt bi 0,.str nm] h (.bool (b.round nm).1) h'/\BX h' bi a o' c' t G' (b.round nm).2/\ED (b.round nm).2.A4 c'/\Fo h (BT bi G) h' (BT bi G'):=by
 have ho:=rm.Au;have oB:=rm.A4;have r1:=hc.find w rm nm;by_cases hf:DS nm b.A4<0
 .obtain⟨h2,o2,r2,U,x2⟩:=aJO w rm nm;have e:b.round nm=(false,b.CV nm):=by unfold BS.round;simp only;rw[Af hf]
  have ea:(b.CV nm).A4=b.A4:=by
   unfold BS.CV;split;.split<;>rfl
   .rfl
  rw[e];refine⟨h2,o2,c,G,?_,U,by rw[ea];exact hc,x2⟩;rw[Ag,PG,oF];simp only[abS,Nat.reduceLeDiff,↓reduceIte,Cl,r1.Ae,hf,r2.Ae]
 obtain⟨f,Jj,ef⟩:=Y5 (Vf.1 hf);have ĵ:¬(f:Int)<0:=Ab;rw[ef] at r1;have Wd:=hc;obtain⟨fs,ME,hv⟩:=Wd;have aUp:b.A4.length=fs.length:=by rw[<-ME,Aw]
 have P:fs[f].c=b.A4[f]:=by simp only[<-ME,Ei]
 have l3:=w.l3;have e1:=BB.DN (k:= .i64) hv (Ab:f<fs.length);generalize hfe:fs[f]=fe at*;have ô:b.A4.getD f Ck.zero=fe.c:=by rw[AJ,Av Jj];exact P.symm
 have hv3:fe.v.cells=[fe.v]:=BB.cells fe.ok;have w1:=w.Mo (u:=[.cells (F5 fe (f:Int) (f:Int) Item.zero Item.zero 0)]);have B:(h++[GJ.cells (F5 fe (f:Int) (f:Int) Item.zero Item.zero 0)])[h.length]?=some (.cells (F5 fe (f:Int) (f:Int) Item.zero Item.zero 0)):=AB;have x1:Fo h (BT bi G) (h++[GJ.cells (F5 fe (f:Int) (f:Int) Item.zero Item.zero 0)]) (BT bi G):=w.EB;have Te:¬BT bi G h.length:=by
  rintro(e|hg);.exact absurd w.lt Ab
  .exact absurd (w.w.lt hg) (DH _)
 obtain⟨H1,A⟩:∃H1,H1=h++[GJ.cells (F5 fe (f:Int) (f:Int) Item.zero Item.zero 0)]:=⟨_,rfl⟩;rw[<-A] at w1 B x1;have l0:Bn H1 none (Pt h.length 0)=some (I fe.c.node):=At.load ⟨_,B,rfl⟩;have r2:=aB w1.sA Ab fe.c.node;have WE:F5 fe (f:Int) (f:Int) Item.zero Item.zero 0=[I fe.c.node,.str fe.c.name,fe.v,I (f:Int),I (f:Int),I 0,I 0,S [],ff,I 0,I 0,S [],ff,I 0]:=rfl;rw[WE] at A;rw[DG.row] at e1;by_cases hk:AD (Bt fe.c.node) b.Au<0
 .obtain⟨h2,c2,r3,U,Mn,_,x2⟩:=ij w1 hc rm B Te Jj ⟨Ab,Ab⟩ ⟨Ab,Ab⟩;have e:b.round nm=(false,{b with A4:=Bx b.A4 f}):=by unfold BS.round;simp only;rw[Ac hf,ef,BF,ô,Af hk]
  rw[e];refine⟨h2,o,c2,G,?_,U,Mn,Y4 (Ad _) ((E2 x1 h.length).trans x2)⟩;rw[Ag,PG,oF];simp only[abS,Nat.reduceLeDiff,↓reduceIte,Cl,r1.Ae,ĵ,l3,e1,<-A,l0,r2.Ae,hk,r3.Ae]
 obtain⟨k,ek⟩:∃k:Nat,AD (Bt fe.c.node) b.Au=(k:Int):=⟨_,(IU (Vf.1 hk)).symm⟩;obtain⟨XF,hkq,_⟩:=Mb ek;have M:¬(k:Int)<0:=Ab;rw[ek] at r2;by_cases hkz:k=0
 .have e:b.round nm=(false,b):=by unfold BS.round;simp only;rw[Ac hf,ef,BF,ô,Ac hk,Af (.inl (by rw[ek,hkz];rfl))]
  rw[e];refine⟨H1,o,c,G,?_,w1,hc,x1⟩;rw[Ag,PG,oF];simp only[abS,Nat.reduceLeDiff,↓reduceIte,Cl,r1.Ae,ĵ,l3,e1,<-A,l0,r2.Ae,M,BG (Ab:(k:Int)=0)]
 have aA1:¬(k:Int)=0:=Ab;have r3:=aI0 w1.sA Ab 1 fe.c.node;by_cases Ŏ:Il (Bt fe.c.node) (H7 1) b.Au.reverse=false
 .have e:b.round nm=(false,b):=by unfold BS.round;simp only;rw[Ac hf,ef,BF,ô,Ac hk,Af (.inr Ŏ)]
  rw[e];refine⟨H1,o,c,G,?_,w1,hc,x1⟩;rw[Ŏ] at r3;rw[Ag,PG,oF];simp only[abS,Nat.reduceLeDiff,↓reduceIte,Cl,r1.Ae,ĵ,l3,e1,<-A,l0,r2.Ae,M,aA1,r3.Ae]
 have aOM:Il (Bt fe.c.node) (H7 1) b.Au.reverse=true:=by simpa using Ŏ
 rw[aOM] at r3;have r4:=aNQ w1.sA Ab fe.c.node;have hor:¬(AD (Bt fe.c.node) b.Au=0\/Il (Bt fe.c.node) (H7 1) b.Au.reverse=false):=by rw[ek];rintro(h|h);exact aA1 h;exact Ŏ h
 by_cases hfa:Eb fe.c.node b.Au<0
 .have e:b.round nm=(false,{b with Au:=Hg fe.c.node b.Au,A4:=Bx b.A4 f}):=by unfold BS.round;simp only;rw[Ac hf,ef,BF,ô,Ac hk,Ac hor,Af hfa]
  obtain⟨u,r5,hu⟩:=aI3 w1.sO Ab fe.c.node;have U:=w1.PJ hu;have õ:(put H1 bi 2 u)[h.length]?=_:=(C5 (λe=>Te (.inl e))).trans B;obtain⟨h3,c3,r6,w3,bZ,_,x3⟩:=ij U hc ((rm.le (m':=0) Ab).sub rfl I6 (BQ _) (Ad _)) õ Te Jj ⟨Ab,Ab⟩ ⟨Ab,Ab⟩;rw[e];refine⟨h3,u,c3,G,?_,w3,bZ,Y4 (Ad _) ((E2 (x1.trans Cz) h.length).trans x3)⟩;rw[Ag,PG,oF];simp only[abS,Nat.reduceLeDiff,↓reduceIte,Cl,r1.Ae,ĵ,l3,e1,<-A,l0,r2.Ae,M,aA1,r3.Ae,r4.Ae,hfa,r5.Ae,r6.Ae]
 obtain⟨N,hN,eN⟩:∃N:Nat,k+1+N<b.Au.length/\Eb fe.c.node b.Au=((k+1+N:Nat):Int):=by
  have aGd:=hfa;rw[L4,Ac hk,ek,BF] at aGd⊢;unfold Gl at aGd⊢;split at aGd;.rename_i j hj;have:=(LK.1 hj).1;rw[AX] at this;exact⟨j,Ab,Ab⟩
  .omega
 obtain⟨d,hfb⟩:∃d,d=b.Au[k+1+N]:=⟨_,rfl⟩;obtain⟨an,han⟩:∃an,an=b.Au[k-1]'(by omega):=⟨_,rfl⟩;have ş:b.Au.getD (k+1+N) Item.zero=d:=by rw[AJ,Av hN,hfb];rfl
 have hga:b.Au.getD (k-1) Item.zero=an:=by rw[AJ,Av Ab,han];rfl
 have e:b.round nm=(true,BS.IG fe.c d.node an.node (BS.Nf d.node an.node (k+1+N) k N (b,d.node,f))):=by
  unfold BS.round;simp only
  rw[Ac hf,ef,BF,ô,Ac hk,Ac hor,Ac hfa,ek,eN,BF,BF,ş,hga,(Ab:k+1+N-1 -k=N)]
 have aA2:=ok.op d (by rw[hfb];exact AF _);have aON:b.Au[k].node=fe.c.node:=by simpa[Bt] using hkq
 have aJ6:b.a.has fe.c.node:=by rw[<-aON];exact(ok.op _ (AF _)).1
 have aOO:b.A4[f].node≠0:=by rw[<-P];have:=aJ6.1;omega
 have qx:=aA0 ok.uw Jj aOO;rw[<-P] at qx;have Ru:=rm.Ep _ (AF Jj);rw[<-P] at Ru;have sC:=N8 (n:=k) Ab Ab;have r5:=Wn w1.sA ((k-1:Nat):Int);rw[Iw Ab,<-han] at r5;have r6:=Wn w1.sA ((k+1+N:Nat):Int);rw[Iw hN,<-hfb] at r6;have s5:=aGa B an;have nr:h.length<H1.length:=(Aj.1 B).1;have hbn:h.length≠bi:=λe=>Te (.inl e);have õ:(H1.set h.length (.cells (F5 fe f f an Item.zero 0)))[h.length]?=_:=AI nr;have U:BX (H1.set h.length (.cells (F5 fe f f an Item.zero 0))) bi a o c t G b:=w1.FM λj hj=>Aq λe=>Te (by rw[e];exact hj);have x2:=(E2 x1 h.length).trans (oW (v:= .cells (F5 fe f f an Item.zero 0)));generalize H1.set h.length (.cells (F5 fe f f an Item.zero 0))=H2 at*;have s6:=aGb õ d;have sB:h.length<H2.length:=(Aj.1 õ).1;have Z:(H2.set h.length (.cells (F5 fe f f an d 0)))[h.length]?=_:=AI sB;have w3:BX (H2.set h.length (.cells (F5 fe f f an d 0))) bi a o c t G b:=U.FM λj hj=>Aq λe=>Te (by rw[e];exact hj);have x3:=x2.trans (oW (v:= .cells (F5 fe f f an d 0)));generalize H2.set h.length (.cells (F5 fe f f an d 0))=H3 at*;have l9:Bn H3 none (Pt h.length 9)=some (I d.node):=At.load ⟨_,Z,rfl⟩;have t13:At H3 h.length 13 (I 0):=⟨_,Z,rfl⟩;have s7:=t13.store (u:= I d.node) rfl;have st4:=Kr (k:=13) (v:= I d.node) Z;have w4:BX (put H3 h.length 13 (I d.node)) bi a o c t G b:=w3.FM λj hj=>C5 λe=>Te (by rw[<-e];exact hj);have x4:=x3.trans (QR (k:=13) (v:= I d.node));generalize put H3 h.length 13 (I d.node)=H4 at*;have i0:oV H4 bi a h.length t G fe an d k N (m+10) (b,d.node,f) N H4 o c G (b,d.node,f):=
  ⟨Ad _,w4,hc,ok,rm.le Ab,aA2.1,by rw[qx];exact st4,Te,.refl,by rw[qx];omega,by show f<=1000000000;omega,rfl,HC,rfl,aJ6⟩
 have le0:=(gO (blk:=d.node) (anc:=an.node) (far:=k+1+N) (k:=k) (c:=N) (s:=(b,d.node,f)) ok aA2.1).2.2;obtain⟨h5,o5,c5,G5,s',r7,es,i⟩:=aJ1 i0 Ab ek hN;rw[<-es] at le0 e;obtain⟨q,hq,è,hq0,hq2,hq3⟩:=KP i.uk;have L:=i.st;rw[è] at L;have hmk:=i.mkb;have zd:h.length≠bi:=hbn;have l5:Bn h5 none (Pt h.length 5)=some (I an.node):=At.load ⟨_,L,rfl⟩;obtain⟨u6,r8⟩:=aAS i.w i.ok i.rm an.node;have w6:=i.w.Mo (u:=u6);have w6':=i.w.EB (u:=u6);have hl5:h.length<h5.length:=(Aj.1 L).1;have st6:(h5++u6)[h.length]?=_:=(Al hl5).trans L;have l13:Bn (h5++u6) none (Pt h.length 13)=some (I s'.2.1):=At.load ⟨_,st6,rfl⟩;have hl6:h.length<(h5++u6).length:=by rw[Ao];omega
 obtain⟨h7,G7,r9,w7,x7⟩:=uQ (x:=s'.2.1) (p:=(s'.1.place an.node).1) (bf:=(s'.1.place an.node).2) w6 i.ok i.rm;have hn7:¬BT bi G7 h.length:=λhg=>by
  rcases x7.BT h.length hg with hg|hg
  .exact i.hn hg
  .omega
 have K:h7[h.length]?=_:=(x7.old h.length hl6 i.hn).trans st6;have l3b:Bn h7 (some 3) (Pt h.length 0)=some (.agg fe.row):=aGc K;have l9b:Bn h7 none (Pt h.length 9)=some (I d.node):=At.load ⟨_,K,rfl⟩;obtain⟨r,r10,hr⟩:=ò fe h7;have le7:Le s'.1.a (s'.1.a.E1 s'.2.1 (s'.1.place an.node).1 (s'.1.place an.node).2):=Jr;have ok7:=i.ok.IP (Pz (n:=s'.2.1) (p:=(s'.1.place an.node).1) (b:=(s'.1.place an.node).2) i.ok.ok) le7;have rm7:=i.rm.IP (OL (x:=s'.2.1) (p:=(s'.1.place an.node).1) (bf:=(s'.1.place an.node).2));obtain⟨b2,Qb⟩:∃b2,b2={s'.1 with a:=s'.1.a.E1 s'.2.1 (s'.1.place an.node).1 (s'.1.place an.node).2}:=⟨_,rfl⟩;have mF:b2.Au=s'.1.Au:=by rw[Qb]
 have Mn:b2.A4=s'.1.A4:=by rw[Qb]
 have le2:Le s'.1.a b2.a:=by rw[Qb];exact le7
 rw[<-Qb] at w7 ok7 rm7;obtain⟨T,G8,r11,w8,x8⟩:=aF4 (m:=m+7) w7 ok7 (rm7.le Ab) hr fe.ok Ru.2 Ru.1 d.node 1;obtain⟨C,fr,le8⟩:=P5 (nm:=fe.c.name) (at_:=fe.c.As) (p:=d.node) ok7 Kw;have H:=Rv (m:=m+7) (nm:=fe.c.name) (l:=fe.c.As) (sp:=1) (p:=d.node) (rm7.le Ab) Ru.2;obtain⟨g,hnw⟩:∃g,g=b2.HQ fe.c.name fe.c.As 1:=⟨_,rfl⟩;obtain⟨b3,O⟩:∃b3,b3=b2.Gm fe.c.name fe.c.As 1 d.node:=⟨_,rfl⟩;have ho3:b3.Au=s'.1.Au:=by rw[O,<-mF];unfold BS.Gm;rw[Af Kw]
 have bZ:b3.A4=s'.1.A4:=by rw[O,<-Mn];unfold BS.Gm;rw[Af Kw]
 rw[<-hnw] at r11 fr;rw[<-O] at w8 C fr le8 H;have hl7:h.length<h7.length:=(Aj.1 K).1;have hn8:¬BT bi G8 h.length:=λhg=>by
  rcases x8.BT h.length hg with hg|hg
  .exact hn7 hg
  .omega
 have Y:T[h.length]?=_:=(x8.old h.length hl7 hn7).trans K;have l9c:Bn T none (Pt h.length 9)=some (I d.node):=At.load ⟨_,Y,rfl⟩;obtain⟨kv,r12,hkv⟩:∃v,Cy cx 12 [Pt a 0,I d.node] T v T/\IH (b3.a.nd d.node).Bm v:=by obtain⟨n',m',ps,wa⟩:=w8.w.pa;exact Þ wa H.Wk (H.Wk.Bm C.ok d.node)
 have aUx:(b3.a.nd d.node).Bm.length<=1000000000:=H.Wk.Bm C.ok d.node;have WG:g.row=[I g.node,I g.A9,.str g.name,.bool g.QG]:=rfl;rw[DG.row] at r10 l3b;have Qa:Ev cx 216 [Pt bi 0,.str nm] h λr h'=>r= .bool true/\∃o' c' G',BX h' bi a o' c' t G' (BS.IG fe.c d.node an.node s')/\ED (BS.IG fe.c d.node an.node s').A4 c'/\Fo h (BT bi G) h' (BT bi G'):=by
  unfold Ev;rw[PG,oF];simp only[abS,Nat.reduceLeDiff,↓reduceIte,Cl,r1.Ae,ĵ,l3,e1,<-A,l0,r2.Ae,M,aA1,r3.Ae,r4.Ae,eN,(Ab:¬((k+1+N:Nat):Int)<0),sC,r5.Ae,r6.Ae,s5,s6,l9,s7];simp only[abS,r7.Ae,l5,r8.Ae];simp only[abS,l13,r9.Ae];simp only[Cx,l3b,l9b];simp only[abS,↓reduceIte,Lo,r10.Ae,DI,r11.Ae,l9b];simp only[Cx,w8.l0,l9c,r12.Ae,BB.GN hkv];have x8':Fo h (NC h.length bi G) T (NC h.length bi G8):=(((x4.trans i.x).trans (E2 w6' h.length)).trans (E2 x7 h.length)).trans (E2 x8 h.length);refine F0 (i:=0) (λj:Nat=>[I (j:Int)]) (λj J=>j<=(b3.a.nd d.node).Bm.length/\∃Q,BX J bi a o5 c5 t Q {b3 with a:=BS.Dz b3.a g.node ((b3.a.nd d.node).Bm.take j)}/\Ey {b3 with a:=BS.Dz b3.a g.node ((b3.a.nd d.node).Bm.take j)}/\CK {b3 with a:=BS.Dz b3.a g.node ((b3.a.nd d.node).Bm.take j)} (m+7)/\Fo T (BT bi G8) J (BT bi Q)) (λj=>(b3.a.nd d.node).Bm.length-j)
   (λj J=>j=(b3.a.nd d.node).Bm.length/\∃Q,BX J bi a o5 c5 t Q {b3 with a:=BS.Dz b3.a g.node ((b3.a.nd d.node).Bm.take j)}/\Ey {b3 with a:=BS.Dz b3.a g.node ((b3.a.nd d.node).Bm.take j)}/\CK {b3 with a:=BS.Dz b3.a g.node ((b3.a.nd d.node).Bm.take j)} (m+7)/\Fo T (BT bi G8) J (BT bi Q)) 0 rfl ⟨Bp _,G8,w8,C,H,.refl⟩ ?_ ?_
  .rintro j J ⟨hj,Q,w9,z,y,x9⟩;rcases Bl j (b3.a.nd d.node).Bm.length with hlt|IS
   .have e9:=BB.DN (k:= .i64) hkv hlt;obtain⟨YV,R,r13,E,D⟩:=uQ (x:=(b3.a.nd d.node).Bm[j]) (p:=g.node) (bf:=0) w9 z y;have lej:=(Kq (n:=g.node) (l:=(b3.a.nd d.node).Bm.take j) C.ok).2;rw[UZ (by show((BS.Dz b3.a g.node ((b3.a.nd d.node).Bm.take j)).nd g.node).kind=4;rw[lej.kind _ fr.has];exact fr.kind)] at E;have hs:BS.Dz b3.a g.node ((b3.a.nd d.node).Bm.take (j+1))=(BS.Dz b3.a g.node ((b3.a.nd d.node).Bm.take j)).GC g.node (b3.a.nd d.node).Bm[j] 0:=by rw[Bd hlt,aE]
    rw[Dj] at e9;simp only[abS,(Ab:(j:Int)<((b3.a.nd d.node).Bm.length:Int)),e9,r13.Ae,Dw (Ab:j<9223372036854775807)];refine .next (j+1) rfl ⟨hlt,R,by rw[hs];exact E,?_,?_,x9.trans D⟩ Ab
    .have:=z.IP (NT (p:=g.node) (n:=(b3.a.nd d.node).Bm[j]) (b:=0) z.ok) Hi;rw[hs];exact this
    .have:=y.IP (Lv (p:=g.node) (x:=(b3.a.nd d.node).Bm[j]) (bf:=0));rw[hs];exact this
   .simp only[abS,(Ab:¬(j:Int)<((b3.a.nd d.node).Bm.length:Int))];exact .Jz j rfl ⟨Ab,Q,w9,z,y,x9⟩
  .rintro j J ⟨rfl,Q,w9,z,y,x9⟩;rw[Bk] at w9 z y;have hl8:h.length<T.length:=(Aj.1 Y).1;have hn9:¬BT bi Q h.length:=λhg=>by
    rcases x9.BT h.length hg with hg|hg
    .exact hn8 hg
    .omega
   have X:J[h.length]?=_:=(x9.old h.length hl8 hn8).trans Y;have l9d:Bn J none (Pt h.length 9)=some (I d.node):=At.load ⟨_,X,rfl⟩;have le9:=(Kq (n:=g.node) (l:=(b3.a.nd d.node).Bm) C.ok).2;have lef:Le b.a (BS.Dz b3.a g.node (b3.a.nd d.node).Bm):=((le0.trans le2).trans le8).trans le9;obtain⟨YV,R,r13,E,D⟩:=uQ (x:=g.node) (p:=d.node) (bf:=0) w9 z y;rw[UZ (by show((BS.Dz b3.a g.node (b3.a.nd d.node).Bm).nd d.node).kind=4;rw[lef.kind _ aA2.1];exact aA2.2.1)] at E;have hl9:h.length<J.length:=(Aj.1 X).1;have aOT:¬BT bi R h.length:=λhg=>by
    rcases D.BT h.length hg with hg|hg
    .exact hn9 hg
    .omega
   have aKb:YV[h.length]?=_:=(D.old h.length hl9 hn9).trans X;have l3c:Bn YV none (Pt h.length 3)=some (I (q:Int)):=At.load ⟨_,aKb,rfl⟩;have aOU:=y.IP (Lv (p:=d.node) (x:=g.node) (bf:=0));have aOV:ED ({b3 with a:=(BS.Dz b3.a g.node (b3.a.nd d.node).Bm).GC d.node g.node 0}:BS).A4 c5:=by simp only;rw[bZ];exact i.hc
   have hqa:=i.rm.A4;obtain⟨RI,xT,r14,W,aKc,aA3,x11⟩:=ij E aOV aOU aKb aOT (k:=q) (by simp only;rw[bZ];exact hq) ⟨Ab,Ab⟩ ⟨Ab,Ab⟩;simp only at W aKc;have l1:Bn RI none (Pt h.length 1)=some (.str fe.c.name):=At.load ⟨_,aA3,rfl⟩;have l2:Bn RI none (Pt h.length 2)=some fe.v:=At.load ⟨_,aA3,rfl⟩;have l4:Bn RI none (Pt h.length 4)=some (I (down q (s'.2.2:Int))):=At.load ⟨_,aA3,rfl⟩;obtain⟨fs2,aGg,WD⟩:=aKc;have aUC:b3.A4.length=s'.1.A4.length:=by rw[bZ]
   have aUD:fs2.length<=900000000:=by have h1:=B3 List.length aGg;rw[Aw,Ke (by rw[bZ];exact hq)] at h1;omega
   have aOJ:=Ru.2.1;obtain⟨u1,e2,he2,r15,eX⟩:=aN1 (h:=RI) (id:=bi) (o:=3) (l:=fs2) ⟨xT,W.qi,WD⟩ Ab (e:=⟨{fe.c with node:=g.node},fe.v,fe.ok⟩) (by unfold uq;simp only;omega) (down q (s'.2.2:Int));have aOX:Cy cx 254 [Pt bi 3,.agg [I g.node,.str fe.c.name,fe.v],I (down q (s'.2.2:Int))] RI (.tuple []) (put RI bi 3 u1):=r15;obtain⟨jL,qw⟩:∃jL:Nat,jL=if q<s'.2.2 then s'.2.2 -1 else s'.2.2:=⟨_,rfl⟩
   have ö:down q (s'.2.2:Int)=(jL:Int):=by rw[qw];unfold down;split<;>split<;>omega
   have w12:=W.TW (u:=u1) (l:=(Bx b3.A4 q).take (Hh jL (Bx b3.A4 q).length)++{fe.c with node:=g.node}::(Bx b3.A4 q).drop (Hh jL (Bx b3.A4 q).length));have aOY:ED ((Bx b3.A4 q).take (Hh jL (Bx b3.A4 q).length)++{fe.c with node:=g.node}::(Bx b3.A4 q).drop (Hh jL (Bx b3.A4 q).length)) u1:=by refine⟨_,?_,eX⟩;rw[ö,Cg,Bj,HA,Mk,aGg,he2,<-aGg,Aw]
   have hob:=i.rm.Au;obtain⟨u2,r16,Tt⟩:=aAN w12.sO (by simp only;rw[ho3];omega) fe.c.node;have V:=w12.PJ Tt;have rJ:(Ce fe.c.node b3.Au).length<=s'.1.Au.length:=by rw[<-ho3];exact EI.length_le
   have aO0:(put (put RI bi 3 u1) bi 2 u2)[h.length]?=_:=(C5 zd).trans ((C5 zd).trans aA3);have l9e:Bn (put (put RI bi 3 u1) bi 2 u2) none (Pt h.length 9)=some (I d.node):=At.load ⟨_,aO0,rfl⟩;have r17:=aB V.sA HC d.node;have hli: -1<=AD (Bt d.node) (Ce fe.c.node b3.Au)/\AD (Bt d.node) (Ce fe.c.node b3.Au)<=(Ce fe.c.node b3.Au).length:=by rcases BY (q:=Bt d.node) (l:=Ce fe.c.node b3.Au) with⟨h,_⟩|⟨n,h1,h2,_⟩<;>omega
   have add:=TC (a:=AD (Bt d.node) (Ce fe.c.node b3.Au)) (b:=1) Ab Ab;obtain⟨u3,r18,hu3⟩:=aNV V.sO HC g (AD (Bt d.node) (Ce fe.c.node b3.Au)+1);have w14:=V.PJ hu3;simp only[abS,Nat.reduceLeDiff,↓reduceIte,Cl,Lo,l9d,r13.Ae,l3c,r14.Ae,l1,l2,hv3,l4,aOX.Ae,r16.Ae,l9e,r17.Ae,add,r18.Ae];have hE:BS.IG fe.c d.node an.node s'={b3 with a:=(BS.Dz b3.a g.node (b3.a.nd d.node).Bm).GC d.node g.node 0,A4:=(Bx b3.A4 q).take (Hh jL (Bx b3.A4 q).length)++{fe.c with node:=g.node}::(Bx b3.A4 q).drop (Hh jL (Bx b3.A4 q).length),Au:=(Ce fe.c.node b3.Au).take (HO (AD (Bt d.node) (Ce fe.c.node b3.Au)+1) (Ce fe.c.node b3.Au).length)++g::(Ce fe.c.node b3.Au).drop (HO (AD (Bt d.node) (Ce fe.c.node b3.Au)+1) (Ce fe.c.node b3.Au).length)}:=by
    have hq':FL fe.c.node b3.A4=(q:Int):=by rw[bZ];exact è
    unfold BS.IG;simp only
    rw[<-Qb,<-O,<-hnw,hq',BF,<-qw]
   rw[hE];refine⟨_,rfl,rfl,u3,u1,R,w14,aOY,Y4 (Ad _) ?_⟩;exact((((x8'.trans (E2 (x9.trans D) h.length)).trans x11).trans (E2 Cz h.length)).trans (E2 Cz h.length)).trans (E2 Cz h.length)
 obtain⟨r,h',hr,rfl,o',c',G',w',Wd,x'⟩:=Qa.ret;rw[e];exact⟨h',o',c',G',hr,w',Wd,x'⟩
end
section
variable{h h':Ai}{bi a ai:Nat}{o c t:Aa}{G G' F:Nat->Prop}{b b':BS}{x:Int}{m:Nat}
variable{nm:Ah}{av:Aa}{l:List Be}{r:List Aa}{sp p:Int}{e:DG}{at_ mk last:Int}{anc far:Item}
def qy{blk anc:Int}{far i:Nat}{l:Int}{mk:Nat}:(BS.Gi blk anc far i b l mk).1.Au.length<=b.Au.length:=by
 have h1:(Bx b.Au i).length<=b.Au.length:=CL.length_le;unfold BS.Gi;simp only
 split;.exact h1
 .split;.exact h1
  .have NH:∀nm l p,(b.Gm nm l 1 p).Au=b.Au:=λnm l p=>by unfold BS.Gm;rw[Af Kw]
   simp only[NH,Ch];exact Ad _
def dF{blk anc:Int}{far k m:Nat}:∀{c:Nat} {s:BS×Int×Nat},CK s.1 (m+4*c)->CK (BS.Nf blk anc far k c s).1 m/\(BS.Nf blk anc far k c s).1.Au.length<=s.1.Au.length
 |0,s,r=>⟨r.le Ab,Ad _⟩
 |c+1,s,r=>by have d:=Y3 (blk:=blk) (anc:=anc) (far:=far) (i:=k+(c+1)) (l:=s.2.1) (mk:=s.2.2) (m:=m+4*c) (r.le Ab);have h:=dF (blk:=blk) (anc:=anc) (far:=far) (k:=k) (m:=m) (c:=c) (s:=BS.Gi blk anc far (k+(c+1)) s.1 s.2.1 s.2.2) d;exact⟨h.1,Bv h.2 qy⟩
def oX{fe:Ck}{blk anc:Int}{s:BS×Int×Nat}(r:CK s.1 (m+4))(Ru:fe.name.length<=1000/\GD fe.As):CK (BS.IG fe blk anc s) m/\(BS.IG fe blk anc s).Au.length<=s.1.Au.length+1:=by
 unfold BS.IG;simp only
 generalize ux:s.1.place anc=pb;have j:=r.IP (OL (x:=s.2.1) (p:=pb.1) (bf:=pb.2));generalize Qb:({s.1 with a:=s.1.a.E1 s.2.1 pb.1 pb.2}:BS)=b2 at j;have mF:b2.Au=s.1.Au:=by rw[<-Qb]
 have d:=Rv (m:=m+1) (nm:=fe.name) (l:=fe.As) (sp:=1) (p:=blk) (j.le Ab) Ru.2;have NH:(b2.Gm fe.name fe.As 1 blk).Au=b2.Au:=by unfold BS.Gm;rw[Af Kw]
 have g:(b2.HQ fe.name fe.As 1).name.length<=1000:=TN Ru.1;generalize b2.Gm fe.name fe.As 1 blk=b3 at*;generalize b2.HQ fe.name fe.As 1=n at*;have q:=d.IP ((R2 (n:=n.node) (l:=(b3.a.nd blk).Bm)).trans (Lv (p:=blk) (x:=n.node) (bf:=0)));have Mm:∀{U:Type} (l:List U) (k:Nat) (y:U),(l.take k++y::l.drop k).length=l.length+1/\∀z∈l.take k++y::l.drop k,z∈l\/z=y:=λl k y=>⟨by rw[Ao,AK,Ay,AX];omega,λz hz=>by
  rcases An.1 hz with hz|hz
  .exact .inl (AZ hz)
  .rcases AE.1 hz with rfl|hz
   .exact .inr rfl
   .exact .inl (AY hz)⟩
 have hr:=EI (n:=fe.node) (l:=b3.Au);have hd:=CL (l:=b3.A4) (k:=(FL fe.node b3.A4).toNat);have f:=q.le (m':=m) Ab;refine⟨⟨f.n,f.at_,f.data,?_,?_,f.tm,λe he=>?_,λi hi=>?_⟩,?_⟩;.simp only[(Mm _ _ _).1];have:=hr.length_le;have:=d.Au;omega
 .simp only[(Mm _ _ _).1];have:=hd.length_le;have:=d.A4;omega
 .rcases(Mm _ _ _).2 e he with he|rfl
  .exact d.Ep e (hd.subset he)
  .exact Ru
 .rcases(Mm _ _ _).2 i hi with hi|rfl
  .exact d.tT i (hr.subset hi)
  .exact g
 .simp only[(Mm _ _ _).1];have h1:=hr.length_le;have h2:=B3 List.length (NH.trans mF);omega
def Y6(r:CK b (m+4*b.Au.length+10))(nm:Ah):CK (b.round nm).2 m/\(b.round nm).2.Au.length<=b.Au.length+1:=by
 have d:CK b m:=r.le Ab;unfold BS.round;simp only
 split
 .have key:(b.CV nm).a=b.a/\List.Sublist (b.CV nm).Au b.Au/\(b.CV nm).A4=b.A4/\(b.CV nm).tm=b.tm:=by
   unfold BS.CV;split
   .split;.exact⟨rfl,I6.trans Dd,rfl,rfl⟩
    .exact⟨rfl,BQ _,rfl,rfl⟩
   .exact⟨rfl,BQ _,rfl,rfl⟩
  exact⟨d.sub key.1 key.2.1 (by rw[key.2.2.1];exact BQ _) (by rw[key.2.2.2];exact Ad _),Bv key.2.1.length_le (FV _)⟩
 .rename_i hf;obtain⟨f,Jj,g⟩:=Y5 (Vf.1 hf);have ô:b.A4.getD (DS nm b.A4).toNat Ck.zero=b.A4[f]:=by rw[g,BF,AJ,Av Jj];rfl
  have Ru:=r.Ep _ (AF Jj);rw[ô];split;.exact⟨d.sub rfl (BQ _) CL (Ad _),FV _⟩
  .split;.exact⟨d,FV _⟩
   .split;.exact⟨d.sub rfl I6 CL (Ad _),Bv I6.length_le (FV _)⟩
    .rename_i hk _ hfa;have hlt:(Eb b.A4[f].node b.Au).toNat-1 -(AD (Bt b.A4[f].node) b.Au).toNat<=b.Au.length:=by
      rw[L4];split;.omega
      .unfold Gl;split;.rename_i j hj;have:=(LK.1 hj).1;rw[AX] at this;omega
       .omega
     have h1:=dF (blk:=(b.Au.getD (Eb b.A4[f].node b.Au).toNat Item.zero).node) (anc:=(b.Au.getD ((AD (Bt b.A4[f].node) b.Au).toNat-1) Item.zero).node) (far:=(Eb b.A4[f].node b.Au).toNat) (k:=(AD (Bt b.A4[f].node) b.Au).toNat) (m:=m+4) (c:=(Eb b.A4[f].node b.Au).toNat-1 -(AD (Bt b.A4[f].node) b.Au).toNat) (s:=(b,(b.Au.getD (Eb b.A4[f].node b.Au).toNat Item.zero).node,(DS nm b.A4).toNat)) (r.le Ab);have h2:=oX (fe:=b.A4[f]) (blk:=(b.Au.getD (Eb b.A4[f].node b.Au).toNat Item.zero).node) (anc:=(b.Au.getD ((AD (Bt b.A4[f].node) b.Au).toNat-1) Item.zero).node) h1.1 Ru;exact⟨h2.1,Bv h2.2 (Nat.succ_le_succ h1.2)⟩
def QS:∀{n:Nat} {b:BS} {k:Nat},b.Au.length<=k->CK b (m+n*(4*(k+n)+10))->CK (BS.Gd n b nm) m/\(BS.Gd n b nm).Au.length<=k+n
 |0,b,k,hk,r=>⟨r.le Ab,hk⟩
 |n+1,b,k,hk,r=>by
  have e:(n+1)*(4*(k+(n+1))+10)=n*(4*(k+1+n)+10)+(4*(k+(n+1))+10):=by rw[BJ,ER,(Ab:k+(n+1)=k+1+n)]
  rw[e] at r;have h1:=Y6 (m:=m+n*(4*(k+1+n)+10)) (r.le Ab) nm;unfold BS.Gd;simp only
  split;.have h2:=QS (n:=n) (k:=k+1) Ab h1.1;exact⟨h2.1,Ab⟩
  .exact⟨h1.1.le Ab,Ab⟩
def aO1(w:BX h bi a o c t G b)(hc:ED b.A4 c)(ok:Ey b)(rm:CK b (m+8*(4*(b.Au.length+8)+10)))(nm:Ah):
  ∃h' o' c' G',Cy cx 157 [Pt bi 0,.str nm] h (.tuple []) h'/\BX h' bi a o' c' t G' (b.C1 nm)/\ED (b.C1 nm).A4 c'/\Fo h (BT bi G) h' (BT bi G'):=by
 have ho:=rm.Au;have D:=aF3 w rm;have em:AH (.CC 1) [.str nm]=some (.sl 1 ([nm].map Cv)):=Fh (ws:=[nm]) rfl AB;have r2:Cy cx 164 [.agg (D1 b.Au).row,.sl 1 ([nm].map Cv)] h (.bool (AG [nm] (D1 b.Au))) h:=qj (ws:=[nm]) Dg AB _ h;have K:=hc.at w rm (D1 b.Au).node;have J:b.FY.A4=b.A4:=by unfold BS.FY;split<;>rfl
 by_cases h1:AG [nm] (D1 b.Au)=true/\FL (D1 b.Au).node b.A4<0
 .obtain⟨h2,v,N,s,q⟩:=aJW w rm;have e:b.C1 nm=b.FY:=by unfold BS.C1;rw[Af h1]
  rw[e];refine⟨h2,v,c,G,?_,s,by rw[J];exact hc,q⟩;rw[h1.1] at r2;rw[Ag,iE,aAo];simp only[abS,Lo,(I9 w).Ae,D.Ae,em,r2.Ae,K.Ae,h1.2,N.Ae]
 have e:b.C1 nm=BS.Gd 8 b nm:=by unfold BS.C1;rw[Ac h1]
 rw[e];have Qa:Ev cx 157 [Pt bi 0,.str nm] h λr h'=>r= .tuple []/\∃o' c' G',BX h' bi a o' c' t G' (BS.Gd 8 b nm)/\ED (BS.Gd 8 b nm).A4 c'/\Fo h (BT bi G) h' (BT bi G'):=by
  unfold Ev;rw[iE,aAo];have Jz:∀(Q:Lj) (k:Gs->List Aa->IT),(∀x vs h1,(x= .exit 0\/x= .ret)->(∃o' c' G',BX h1 bi a o' c' t G' (BS.Gd 8 b nm)/\ED (BS.Gd 8 b nm).A4 c'/\Fo h (BT bi G) h1 (BT bi G'))->W cx (k x vs) Q h1)->
    W cx (.loop 5 [I 0] (λd=> .op (.int .lss) [g d 0,I 8] λv14=> .A3 v14 (.call 216 [Pt bi 0,.str nm] λC=> .op (.un .not) [C] λv16=> .A3 v16 (.ret .ret [g d 0]) (.op (.int .add) [g d 0,I 1] λB=> .ret .normal [B])) (.ret (.exit 0) [g d 0])) k) Q h:=by
   intro Q k hk;refine Co (λn:Nat=>[I ((8 -n:Nat):Int)]) (λn h1=>n<=8/\∃H y z b1,BX h1 bi a H y t z b1/\ED b1.A4 y/\Ey b1/\CK b1 (m+n*(4*(b.Au.length+8)+10))/\b1.Au.length<=b.Au.length+(8 -n)/\BS.Gd 8 b nm=BS.Gd n b1 nm/\Fo h (BT bi G) h1 (BT bi z)) (λn=>n) 8 rfl ⟨Ad _,o,c,G,b,w,hc,ok,rm,Ab,rfl,.refl⟩ ?_;rintro n h1 ⟨hn,H,y,z,b1,w1,ZU,RA,f,nr,j,A⟩;cases n with
   |zero=>simp only[abS,(AA:¬((8 -0:Nat):Int)<8)];exact hk _ _ _ (.inl rfl) ⟨H,y,z,by rw[j];exact w1,by rw[j];exact ZU,A⟩
   |succ n=>
    have hsp:(n+1)*(4*(b.Au.length+8)+10)=n*(4*(b.Au.length+8)+10)+(4*(b.Au.length+8)+10):=by rw[BJ,ER]
    rw[hsp] at f;have aKe:CK b1 (m+n*(4*(b.Au.length+8)+10)+4*b1.Au.length+10):=f.le Ab;obtain⟨h2,v,L,M,u,s,Mn,q⟩:=aOL w1 ZU RA aKe nm;obtain⟨uR,sB⟩:=Y6 aKe nm;have E:=(YK (nm:=nm) RA).1;have hlt:((8 -(n+1):Nat):Int)<8:=Ab;have inc:AH (.int .add) [I ((8 -(n+1):Nat):Int),I 1]=some (I ((8 -n:Nat):Int)):=by have:=Dw (n:=8 -(n+1)) Ab;rwa [(Ab:8 -(n+1)+1=8 -n)] at this
    have i:BS.Gd (n+1) b1 nm=if(b1.round nm).1 then BS.Gd n (b1.round nm).2 nm else(b1.round nm).2:=rfl
    cases hr:(b1.round nm).1 with
    |true=>rw[hr] at u i;simp only[abS,hlt,u.Ae,inc];exact BC.next n rfl ⟨Ab,v,L,M,_,s,Mn,E,uR,Ab,j.trans i,A.trans q⟩ Ab
    |false=>rw[hr] at u i;simp only[abS,hlt,u.Ae];exact hk _ _ _ (.inr rfl) ⟨v,L,M,by rw[j,i];exact s,by rw[j,i];exact Mn,A.trans q⟩
  by_cases h2:AG [nm] (D1 b.Au)=true
  .have h3:¬FL (D1 b.Au).node b.A4<0:=λh=>h1 ⟨h2,h⟩;rw[h2] at r2;simp only[abS,Lo,(I9 w).Ae,D.Ae,em,r2.Ae,K.Ae,h3];refine Jz _ _ ?_;rintro x vs h1 (rfl|rfl) ⟨o',c',G',a1,a2,a3⟩;.simp only[Cx];exact⟨_,rfl,rfl,o',c',G',a1,a2,a3⟩
   .simp only[Cx];exact⟨_,rfl,rfl,o',c',G',a1,a2,a3⟩
  .have h2:AG [nm] (D1 b.Au)=false:=by simpa using h2
   rw[h2] at r2;simp only[abS,Lo,(I9 w).Ae,D.Ae,em,r2.Ae];refine Jz _ _ ?_;rintro x vs h1 (rfl|rfl) ⟨o',c',G',a1,a2,a3⟩;.simp only[Cx];exact⟨_,rfl,rfl,o',c',G',a1,a2,a3⟩
   .simp only[Cx];exact⟨_,rfl,rfl,o',c',G',a1,a2,a3⟩
 obtain⟨r,h',hr,rfl,o',c',G',w',Wd,x'⟩:=Qa.ret;exact⟨h',o',c',G',hr,w',Wd,x'⟩
end
structure BOp where
 k:Int
 name:Ah
 As:List Be
 A9:Int
 a:Int
 b:Bool
 s:Ah
 r:Int
 n:Int
section
variable{b:BS}{q:BOp}{m j:Nat}
def jM(o:Ey b):Ey {b with A4:=b.A4++[Ck.zero]}:=by have:=o.aDV (e:=Ck.zero) (k:=b.A4.length) (.inl rfl) (.inl rfl);rw[Bk,Ft] at this;exact this
def CK.ir{k m:Nat}{h:Int}{x:HP}(r:CK b (m+k))(h1:x.As.length<=(b.a.nd h).As.length+k\/x.As.length<=1000)(h2:x.data.length<=(b.a.nd h).data.length+k\/x.data.length<=100000):CK {b with a:=b.a.set h x} m:=by
 have hn:(b.a.set h x).n.length=b.a.n.length:=by have:=ŷ (A:=b.a) (h:=h) (x:=x);unfold Ar.len at this;omega
 have c:=r.le (m':=m) Ab;have rn:=r.n;refine⟨by simp only;rw[hn];exact c.n,λy=>?_,λy=>?_,c.Au,c.A4,c.tm,c.Ep,c.tT⟩
 .simp only;rw[Ka];split;.rename_i d;have:=r.at_ h;omega
  .exact c.at_ y
 .simp only;rw[Ka];split;.have:=r.data h;omega
  .exact c.data y
def oY{m:Nat}{s:Ah}{p bf:Int}(r:CK b (m+5))(hs:s.length<=4):CK {b with a:=BS.QK b.a s p bf} m:=by
 have M4:∀d,CK {b with a:=(b.a.add {kind:=5,BM:=d,data:=s}).E1 (b.a.len+1) p bf} m:=λd=>((r.le (m':=m+1) Ab).GL (L7 (Bp _) HC)).IP OL
 have c:=r.le (m':=m) Ab;unfold BS.QK;split
 .split
  .split;.exact CK.ir (k:=5) r (.inl HC) (.inl (by simp only[Ao];omega))
   .exact M4 _
  .exact M4 _
 .exact c
def QT{m:Nat}{s:Ah}{p bf:Int}(r:CK b (m+5))(hs:s.length<=100000):CK {b with a:=BS.HR b.a s p bf} m:=by
 unfold BS.HR;split;.exact((r.le (m':=m+1) Ab).GL (L7 (Bp _) hs)).IP OL
 .exact r.le Ab
end
section
variable{b:BS}{q:BOp}{m j:Nat}{nm:Ah}
def uV{l:List Be}{x:Int}(r:CK b (m+1000))(hl:l.length<=1000):CK (b.FD l x) m:=by
 unfold BS.FD;split;.refine CK.ir (k:=1000) r (.inl ?_) (.inl HC);have:=TG (l:=(b.a.nd x).As++BS.plain l);rw[Ao,BS.plain,Aw] at this;unfold BS.plain;simp only;omega
 .exact r.le Ab
def dG:∀{l:List Ck} {b:BS},(BS.JG l b).2.Au.length<=b.Au.length+l.length/\(BS.JG l b).2.A4=b.A4/\(BS.JG l b).1.length=l.length/\∀e∈(BS.JG l b).1,∃a∈l,e.name=a.name/\e.As=a.As
 |[],b=>⟨by simp[BS.JG],rfl,rfl,λe he=>by simp[BS.JG] at he⟩
 |e::l,b=>by
  obtain⟨h1,h2,h3,f⟩:=dG (l:=l) (b:=b.Cu e.name e.As 1);have h:(b.Cu e.name e.As 1).Au.length<=b.Au.length+1:=by
   unfold BS.Cu;rw[Af Kw];simp only
   have:(b.Gm e.name e.As 1 (b.place 0).1).Au=b.Au:=by unfold BS.Gm;rw[Af Kw]
   rw[Ao,AS];first|(rw[this];exact Ad _)|exact Ad _
  rw[BS.JG];refine⟨by simp only[AK];omega,by simp only;rw[h2,HS],by simp only[AK,h3],λg he=>?_⟩;rcases AE.1 he with rfl|he
  .exact⟨e,AB,rfl,rfl⟩
  .obtain⟨a,d,c⟩:=f g he;exact⟨a,by simp[d],c⟩
def jN(r:CK b (m+4*b.A4.length)):CK b.AL m/\b.AL.Au.length<=b.Au.length+b.A4.length/\b.AL.A4.length=b.A4.length:=by
 have hk:=jG (b:=b);have a:=dE (l:=b.A4.drop b.NA) (b:=b) (m:=m) (r.le (by rw[AX];omega)) λe he=>r.Ep e (AY he);obtain⟨h1,h2,h3,g⟩:=dG (l:=b.A4.drop b.NA) (b:=b);rw[AX] at h1 h3;have hl:b.AL.A4.length=b.A4.length:=by unfold BS.AL;simp only[Ao,Ay,h3];omega
 refine⟨⟨a.n,a.at_,a.data,a.Au,?_,a.tm,λe he=>?_,a.tT⟩,by unfold BS.AL;simp only;omega,hl⟩;.rw[hl];have:=r.A4;omega
 .unfold BS.AL at he;simp only at he;rcases An.1 he with he|he
  .exact r.Ep e (AZ he)
  .obtain⟨h,f,d,c⟩:=g e he;rw[d,c];exact r.Ep h (AY f)
def oZ{blk anc:Int}{far k:Nat}:∀{c:Nat} {s:BS×Int×Nat},(BS.Nf blk anc far k c s).1.A4.length<=s.1.A4.length
 |0,s=>Ad _
 |c+1,s=>by
  refine Bv (oZ (c:=c)) ?_;unfold BS.Gi;simp only
  split;.exact Ad _
  .split;.exact CL.length_le
   .have:∀nm l p,(s.1.Gm nm l 1 p).A4=s.1.A4:=λnm l p=>by unfold BS.Gm;rw[Af Kw]
    simp only[this,Ch];exact Ad _
def qz:(b.round nm).2.A4.length<=b.A4.length+1:=by
 unfold BS.round;simp only
 split
 .have:(b.CV nm).A4=b.A4:=by
   unfold BS.CV;split;.split<;>rfl
   .rfl
  rw[this];omega
 .split;.exact Bv CL.length_le (FV _)
  .split;.exact FV _
   .split;.exact Bv CL.length_le (FV _)
    .unfold BS.IG;simp only
     generalize hs:BS.Nf _ _ _ _ _ _=s;have h1:s.1.A4.length<=b.A4.length:=by rw[<-hs];exact oZ
     have:∀(b2:BS) nm l p,(b2.Gm nm l 1 p).A4=b2.A4:=λb2 nm l p=>by unfold BS.Gm;rw[Af Kw]
     simp only[this,Ao,AK,Ay,AX];have h2:∀k,(Bx s.1.A4 k).length<=s.1.A4.length:=λk=>CL.length_le;refine Bv (m:=(Bx s.1.A4 (FL (b.A4.getD (DS nm b.A4).toNat Ck.zero).node s.1.A4).toNat).length+1) ?_ (Nat.succ_le_succ (Bv (h2 _) h1));omega
def Y7:∀{n:Nat} {b:BS},(BS.Gd n b nm).A4.length<=b.A4.length+n
 |0,b=>Ad _
 |n+1,b=>by
  have h:=qz (b:=b) (nm:=nm);unfold BS.Gd;simp only
  split;.have:=Y7 (n:=n) (b:=(b.round nm).2);omega
  .omega
structure Sz(b:BS)(j:Nat):Prop where
 rm:CK b (5000000*j)
 Au:b.Au.length+1200*j<=125000
 A4:b.A4.length+10*j<=1100
end
end Go.Am
end
section
end
section
namespace Go.Am
open Go
def arD(q:Bool):Ar:={n:=[{kind:=1,BM:=1,DW:=q}],i:=[0]}
def II(q:Bool):BS:={a:=arD q,BM:=1,Au:=[],A4:=[],mode:=1,IE:=0,tm:=[],head:=0,GO:=0,K8:=false,ctx:=Item.zero,fs:=true,Ec:=false,aII:=[],skip:=false,sw:=0,stop:=false}
structure ø where
 K8:Bool
 A9:Int
 name:Ah
 As:List Be
 DW:Bool
 GO:Bool
def aGi(q:Bool):EA (arD q) 0:=by
 have h0:EA (⟨[],[]⟩:Ar) 0:=by
  have hn:∀h,¬(⟨[],[]⟩:Ar).has h:=λh d=>by have h1:=d.1;have h2:=d.2;simp at h2;omega
  exact⟨rfl,λh d=>absurd d (hn h),λh d=>absurd d (hn h),λh d=>absurd d (hn h),λh d=>absurd d (hn h),λh d=>absurd d (hn h),λh d=>absurd d (hn h),λh d=>absurd d (hn h),λh d=>absurd d (hn h),λh d=>absurd d (hn h),⟨λ_=>0,λh d=>absurd d (hn h)⟩⟩
 have hx:qK {kind:=1,BM:=1,DW:=q}:=by constructor<;>simp[Dt,GB]
 exact Pv h0 hx (.inl ⟨rfl,rfl⟩) rfl rfl rfl rfl (λh=>absurd h.1 (AA:¬(1:Int)=4))
def jO(q:Bool):Ey (II q):=by refine⟨aGi q,⟨⟨OZ 1,OZ 1⟩,rfl⟩,λi hi=>(nomatch hi),ĳ,λe he=>(nomatch he),ĳ⟩
def W0{q:Bool}(x:Int):(II q).a.nd x=if x=1 then{kind:=1,BM:=1,DW:=q} else{}:=by
 unfold Ar.nd;by_cases h:x=1;.subst h;rfl
 .rw[Ac h,Ac];intro d;have h1:=d.1;have h2:=d.2;simp[II,arD] at h2;omega
def jP(q:Bool):Sz (II q) 101:=by
 refine⟨⟨by simp[II,arD],λx=>?_,λx=>?_,by simp[II],by simp[II],by simp[II],λe he=>(nomatch he),λi hi=>(nomatch hi)⟩,by simp[II],by simp[II]⟩;.rw[W0];split<;>simp
 .rw[W0];split<;>simp
section
variable{h h':Ai}{bi a:Nat}{o c t:Aa}{G G' F:Nat->Prop}{b:BS}{x:Int}{m j:Nat}{q:BOp}
variable{nm:Ah}{av:Aa}{l:List Be}{r:List Aa}{sp p:Int}
def aO2(h:Ai)(q:Bool):∃h1 h',Cy cx 30 [] h (Pt h.length 0) h1/\Cy cx 32 [Pt h.length 0,.bool q] h1 (I 1) h'/\PA h' h.length (h.length+1) none [⟨{kind:=1,BM:=1,DW:=q},.slnil,.slnil,rfl⟩] (arD q)/\h'=h++[.cells [.Dn (h.length+1) 0 1 13,.map none],.cells [I 1,I 0,.slnil,I 1,I 0,S [],.slnil,S [],S [],S [],.bool q,I 0,I 0]]:=by
 have H:AV=140737488355328:=rfl;have g1:∀u:Ai,GZ u 13 168 .slnil (.sl 13 [[I 1,I 0,.slnil,I 0,I 0,S [],.slnil,S [],S [],S [],.bool q,I 0,I 0]])=some (u++[.cells [I 1,I 0,.slnil,I 0,I 0,S [],.slnil,S [],S [],S [],.bool q,I 0,I 0]],.Dn u.length 0 1 13):=λu=>rfl;obtain⟨H1,d⟩:∃H1,H1=h++[GJ.cells [.slnil,.map none]]:=⟨_,rfl⟩;have y:H1[h.length]?=some (.cells [.slnil,.map none]):=by rw[d];simp
 have nr:H1.length=h.length+1:=by rw[d];simp
 have g2:=g1 H1;rw[nr] at g2;have z:At H1 h.length 0 .slnil:=⟨_,y,rfl⟩;have n:(H1++[GJ.cells [I 1,I 0,.slnil,I 0,I 0,S [],.slnil,S [],S [],S [],.bool q,I 0,I 0]])[h.length]?=some (.cells [.slnil,.map none]):=(Al Ab).trans y;have E:(H1++[GJ.cells [I 1,I 0,.slnil,I 0,I 0,S [],.slnil,S [],S [],S [],.bool q,I 0,I 0]])[h.length+1]?=some (.cells [I 1,I 0,.slnil,I 0,I 0,S [],.slnil,S [],S [],S [],.bool q,I 0,I 0]):=by rw[<-nr];simp
 have sB:(H1++[GJ.cells [I 1,I 0,.slnil,I 0,I 0,S [],.slnil,S [],S [],S [],.bool q,I 0,I 0]]).length=h.length+2:=by rw[Ao,nr];rfl
 have g:H1++[GJ.cells [I 1,I 0,.slnil,I 0,I 0,S [],.slnil,S [],S [],S [],.bool q,I 0,I 0]]=h++[.cells [.slnil,.map none],.cells [I 1,I 0,.slnil,I 0,I 0,S [],.slnil,S [],S [],S [],.bool q,I 0,I 0]]:=by rw[d,A6];rfl
 generalize H1++[GJ.cells [I 1,I 0,.slnil,I 0,I 0,S [],.slnil,S [],S [],S [],.bool q,I 0,I 0]]=H2 at*;have t2:At H2 h.length 0 .slnil:=⟨_,n,rfl⟩;have B:=t2.store (u:= .Dn (h.length+1) 0 1 13) rfl;have w:=Kr (k:=0) (v:= .Dn (h.length+1) 0 1 13) n;have f:(put H2 h.length 0 (.Dn (h.length+1) 0 1 13))[h.length+1]?=_:=(C5 Ab).trans E;have L:put H2 h.length 0 (.Dn (h.length+1) 0 1 13)=h++[.cells [.Dn (h.length+1) 0 1 13,.map none],.cells [I 1,I 0,.slnil,I 0,I 0,S [],.slnil,S [],S [],S [],.bool q,I 0,I 0]]:=by rw[IC n,g,Cc _ _ (Ad _),E9];rfl
 generalize put H2 h.length 0 (.Dn (h.length+1) 0 1 13)=e at*;have l3:Bn e none (Pt h.length 0)=some (.Dn (h.length+1) 0 1 13):=At.load ⟨_,w,rfl⟩;have K:AH (.GY 13) [.Dn (h.length+1) 0 1 13,I 0]=some (.ptr (some (h.length+1,0))):=Jq (k:= .i64) (i:=0) AA;have t3:At e (h.length+1) 3 (I 0):=⟨_,f,rfl⟩;have A:=t3.store (u:=I 1) rfl;have M:(put e (h.length+1) 3 (I 1))[h.length]?=_:=(C5 Ab).trans w;have D:=Kr (k:=3) (v:=I 1) f;have J:put e (h.length+1) 3 (I 1)=h++[.cells [.Dn (h.length+1) 0 1 13,.map none],.cells [I 1,I 0,.slnil,I 1,I 0,S [],.slnil,S [],S [],S [],.bool q,I 0,I 0]]:=by rw[IC f,L,Cc _ _ Ab,Uh];rfl
 refine⟨H1,put e (h.length+1) 3 (I 1),?_,?_,⟨rfl,rfl,M,D,?_,?_,.inl ⟨rfl,λk=>?_⟩⟩,J⟩;.rw[Ag,J_,t30];simp only[abS,↓reduceIte,Cl,d]
 .have C:Cy cx 38 [Pt h.length 0,.agg [I 1,I 0,.slnil,I 0,I 0,S [],.slnil,S [],S [],S [],.bool q,I 0,I 0]] H1 (I 1) e:=by rw[Ag,uB,t38];simp only[Cx,Nat.reduceLeDiff,↓reduceIte,Cl,fX,z.load,show AH (.CC 13) [.agg [I 1,I 0,.slnil,I 0,I 0,S [],.slnil,S [],S [],S [],.bool q,I 0,I 0]]=some (.sl 13 [[I 1,I 0,.slnil,I 0,I 0,S [],.slnil,S [],S [],S [],.bool q,I 0,I 0]]) from rfl,g2,B,l3,show AH (.len false) [.Dn (h.length+1) 0 1 13]=some (I 1) from rfl]
  have r2:Cy cx 24 [Pt h.length 0,I 1] e (.ptr (some (h.length+1,0))) e:=by rw[Ag,tY,t24];simp only[Cx,fX,l3,show AH (.int .sub) [I 1,I 1]=some (I 0) from rfl,K]
  rw[Ag,tZ,t32];simp only[abS,Nat.reduceLeDiff,↓reduceIte,Cl,C.Ae,r2.Ae,A]
 .intro p hp;rw[Bq] at hp;subst hp;exact .inl ⟨rfl,rfl⟩
 .simp[Gb,H9]
 .unfold Ar.inr;split;.rename_i s;have h1:=s.1;have h2:=s.2;simp[arD] at h2;have:k=1:=Ab;subst this;rfl
  .rfl
def aO4(h:Ai)(q:Bool):∃h1 h2 h' bi G,Cy cx 30 [] h (Pt h.length 0) h1/\Cy cx 32 [Pt h.length 0,.bool q] h1 (I 1) h2/\Cy cx 31 [Pt h.length 0,I 1] h2 (Pt bi 0) h'/\BX h' bi h.length .slnil .slnil .slnil G (II q)/\Fo h (λ_=>False) h' (BT bi G):=by
 obtain⟨h1,h2,g,r2,d,f⟩:=aO2 h q;obtain⟨r,t,e,K,V,rfl,n,k,_⟩:=aAO (x:=1) d ((jP q).rm.Wk) ((jP q).rm.Wk.Bm (jO q).ok 1);have hx:(arD q).has 1:=⟨OZ 1,OZ 1⟩;have rF:(arD q).nd 1={kind:=1,BM:=1,DW:=q}:=(W0 (q:=q) 1).trans (Af rfl);rw[Af hx,rF] at e;have wt:PA (h2++t) _ _ _ _ _:=d.FM λi hi=>Al (d.lt i hi);refine⟨h1,h2,h2++t++[.cells (SE h.length (II q) .slnil .slnil .slnil)],(h2++t).length,λi=>i∈Gb h.length (h.length+1) none [⟨{kind:=1,BM:=1,DW:=q},.slnil,.slnil,rfl⟩],g,r2,?_,⟨AB,.inr ⟨rfl,rfl⟩,.inr ⟨rfl,rfl⟩,?_,?_⟩,?_⟩;.rw[Ag,K_,t31];simp only[abS,Nat.reduceLeDiff,↓reduceIte,Cl,e.Ae,aaS];exact⟨λh=>absurd rfl h,λ_=>⟨λh=>absurd rfl h,λ_=>rfl⟩⟩
 .exact⟨_,_,_,wt.FM λi hi=>Al (wt.lt i hi),λi=>aGY⟩
 .intro hm;exact absurd (wt.lt _ hm) (DH _)
 .have EU:h.length<=h2.length:=by rw[f];simp
  refine⟨Et,λi hi _=>?_,λi hi=> .inr ?_⟩;.rw[A6,Al Ab,f,Al hi]
  .rcases hi with rfl|hi
   .simp;omega
   .simp[Gb,H9] at hi;omega
end
end Go.Am
end
section
end
section
namespace Go.Am
open Go
def PB(h:Ai)(bi:Nat)(b:BS)(F:Nat->Prop):Prop:=∃a o c t G,BX h bi a o c t G b/\ED b.A4 c/\F=BT bi G
section
variable{h h':Ai}{bi wi:Nat}{b:BS}{F F2:Nat->Prop}{q:BOp}{av:Aa}{j:Nat}
def PB.lt(w:PB h bi b F){i:Nat}(hi:F i):i<h.length:=by
 obtain⟨a,o,c,t,G,w,_,rfl⟩:=w;rcases hi with rfl|hi
 .exact w.lt
 .exact w.w.lt hi
def PB.FM(w:PB h bi b F)(hf:∀i,F i->h'[i]?=h[i]?):PB h' bi b F:=by obtain⟨a,o,c,t,G,w,hc,rfl⟩:=w;exact⟨a,o,c,t,G,w.FM hf,hc,rfl⟩
def PB.Mo(w:PB h bi b F){u:Ai}:PB (h++u) bi b F:=w.FM λi hi=>Al (w.lt hi)
end
structure QO where
 q:BOp
 v:Aa
 ok:Bw q.As v
end Go.Am
end
section
end
