/- Lemmas -/
import Derived.Test.YtdejbjapknkdnaaGreatDoorV24
set_option linter.all false
set_option maxRecDepth 100000
section
namespace Go.Am
open Go
def UT{A:Ar}{x p bf:Int}(h:(A.nd p).kind=4):A.Gr x p bf=A.Ip p x bf:=by unfold Ar.Gr;rw[if_neg (by rw[h];intro h;exact absurd h.1 (by decide))]
section
variable{h h':Ae}{bi a ai:Nat}{o c t:Aa}{G G' F:Nat->Prop}{b b':BS}{x:Int}{m:Nat}
variable{nm:Ad}{av:Aa}{l:List A9}{r:List Aa}{sp p:Int}{e:C9}{at_ mk last:Int}{anc far:Item}
def Ec.at(hc:Ec b.AW c)(w:BX h bi a o c t G b)(rm:Cw b m)(n:Int):Cj cx 211 [Pt bi 3,I n] h (I (Fo n b.AW)) h:=by obtain⟨fs,Lx,d⟩:=hc;have ha:=rm.AW;have:=f41 w.my d (by rw[<-Lx,Ao] at ha;omega) n;rwa [YG,Lx] at this
structure nJ(h:Ae)(bi a ai:Nat)(t:Aa)(G0:Nat->Prop)(fe:C9)(anc far:Item)(k N m:Nat)(s0:BS×Int×Nat)(n:Nat)(h1:Ae)(o c:Aa)(G:Nat->Prop)(s:BS×Int×Nat):Prop where
 le:n<=N
 w:BX h1 bi a o c t G s.1
 hc:Ec s.1.AW c
 ok:Fa s.1
 rm:Cw s.1 (m+4*n)
 last:s.1.a.has s.2.1
 st:h1[ai]?=some (.cells (Fz fe (Fo fe.c.node s.1.AW) (s.2.2:Int) anc far s.2.1))
 hn:¬BN bi G ai
 x:Ey h (Nl ai bi G0) h1 (Nl ai bi G)
 qj:0<=Fo fe.c.node s.1.AW
 mkb:s.2.2<=1000000000
 Au:s.1.Au.take (k+n+1)=s0.1.Au.take (k+n+1)
 len:k+n+1<=s.1.Au.length
 eq:BS.O2 far.node anc.node (k+1+N) k N s0=BS.O2 far.node anc.node (k+1+N) k n s
 fe:s.1.a.has fe.c.node
def np{blk anc:Int}{far i:Nat}{l:Int}{mk:Nat}(hi:i<b.Au.length):(BS.HF blk anc far i b l mk).1.Au.take i=b.Au.take i/\i<=(BS.HF blk anc far i b l mk).1.Au.length:=by
 have h1:(Bs b.Au i).take i=b.Au.take i/\i<=(Bs b.Au i).length:=by refine⟨?_,by rw[JP hi];omega⟩;unfold Bs;rw[A0 (by rw[Av];omega),Cy,Nat.min_self]
 unfold BS.HF;simp only
 split;.exact h1
 .split;.exact h1
  .have RA:∀nm l p,(b.HL nm l 1 p).Au=b.Au:=λnm l p=>by unfold BS.HL;rw[if_pos Lm]
   simp only[RA];exact⟨Z5 (Ab i),by rw[BY];omega⟩
def nJ.step{h1 h2:Ae}{C D A z:Aa}{B u:Nat->Prop}{fe:C9}{k N n:Nat}{s0 s s':BS×Int×Nat}(i:nJ h bi a ai t G fe anc far k N m s0 (n+1) h1 C D B s)(e:s'=BS.HF far.node anc.node (k+1+N) (k+(n+1)) s.1 s.2.1 s.2.2)
  (w:BX h2 bi a A z t u s'.1) (hc:Ec s'.1.AW z) (st:h2[ai]?=some (.cells (Fz fe (Fo fe.c.node s'.1.AW) (s'.2.2:Int) anc far s'.2.1))) (hn:¬BN bi u ai) (x:Ey h1 (Nl ai bi B) h2 (Nl ai bi u)) (qj:0<=Fo fe.c.node s'.1.AW) (mk:s'.2.2<=1000000000):
  nJ h bi a ai t G fe anc far k N m s0 n h2 A z u s':=by
 obtain⟨g,last',j⟩:=Tz (blk:=far.node) (anc:=anc.node) (far:=k+1+N) (i:=k+(n+1)) (m:=s.2.2) i.ok i.last;have hl:=i.len;obtain⟨f,v⟩:=np (blk:=far.node) (anc:=anc.node) (far:=k+1+N) (i:=k+(n+1)) (l:=s.2.1) (mk:=s.2.2) (b:=s.1) (by omega);have d:=YL (blk:=far.node) (anc:=anc.node) (far:=k+1+N) (i:=k+(n+1)) (l:=s.2.1) (mk:=s.2.2) (m:=m+4*n) (i.rm.le (by omega));have RA:=i.Au;have y:BS.O2 far.node anc.node (k+1+N) k (n+1) s=BS.O2 far.node anc.node (k+1+N) k n (BS.HF far.node anc.node (k+1+N) (k+(n+1)) s.1 s.2.1 s.2.2):=rfl;have q:=i.eq.trans y;rw[<-e] at g last' j f v d q;refine⟨by have:=i.le;omega,w,hc,g,d,last',st,hn,i.x.trans x,qj,mk,?_,by omega,q,j.has _ i.fe⟩;have:=BQ (λl=>l.take (k+(n+1))) RA;simp only[Cy] at this;rw[show k+n+1=k+(n+1) by omega,f];rwa [BG (by omega)] at this
def aJi{fe:C9}{k N:Nat}{s0:BS×Int×Nat}(i0:nJ h bi a ai t G fe anc far k N m s0 N h o c G s0)(ü:1<=k)(Xm:Ax (Bq fe.c.node) s0.1.Au=(k:Int))(hN:k+1+N<s0.1.Au.length):
  ∃h' o' c' G' s',Cj cx 250 [Pt bi 0,Pt ai 0,I (k:Int),I ((k+1+N:Nat):Int)] h (.tuple []) h'/\s'=BS.O2 far.node anc.node (k+1+N) k N s0/\nJ h bi a ai t G fe anc far k N m s0 0 h' o' c' G' s':=by
 have ho:=i0.rm.Au;have PI:Ev cx 250 [Pt bi 0,Pt ai 0,I (k:Int),I ((k+1+N:Nat):Int)] h λr h'=>r= .tuple []/\∃o' c' G' s',s'=BS.O2 far.node anc.node (k+1+N) k N s0/\nJ h bi a ai t G fe anc far k N m s0 0 h' o' c' G' s':=by
  unfold Ev;rw[ay,aEO];have i1:=D1 (a:=((k+1+N:Nat):Int)) (b:=1) (by omega) (by omega);rw[show((k+1+N:Nat):Int)-1=((k+N:Nat):Int) by omega] at i1;simp only[Ce,i1];refine BO (λn:Nat=>[I ((N-n:Nat):Int),I ((k+n:Nat):Int)]) (λn h1=>∃o c G1 s,nJ h bi a ai t G fe anc far k N m s0 n h1 o c G1 s) (λn=>n) N (by rw[DM];rfl) ⟨o,c,_,s0,i0⟩ ?_;rintro n h1 ⟨o1,c1,G1,s,i⟩;cases n with
  |zero=>simp only[abS,↓reduceIte,show¬(k:Int)<(k:Int) by omega];exact⟨_,rfl,rfl,o1,c1,G1,s,i.eq.symm,i⟩
  |succ n=>
   have hnN:=i.le;have hlen:=i.len;have C:k+(n+1)<s.1.Au.length:=by omega
   have hwo:=i.rm.Au;have hwa:=i.rm.AW;have lY:ai≠bi:=λe=>i.hn (.inl e);have Ĉ:ai<h1.length:=(Af.1 i.st).1;have M:=We i.w.sA ((k+(n+1):Nat):Int);rw[HD C] at M;have V:=iF i.ok.qt C;have hxf:s.1.Au[k+(n+1)].node≠fe.c.node:=by have h2:=BQ (λl=>l[k+(n+1)]?) i.Au;simp only[Co] at h2;rw[if_pos (by omega),if_pos (by omega),An C,An (by omega)] at h2;obtain⟨_,_,h3⟩:=LN Xm;have g:=h3 (k+(n+1)) (by omega) (by omega);rw[C0 h2];intro h5;unfold Bq at g;rw[h5] at g;simp at g
   have À:s.1.Au.getD (k+(n+1)) Item.zero=s.1.Au[k+(n+1)]:=by rw[AG,An C];rfl
   generalize s.1.Au[k+(n+1)]=x at*;have r2:=i.hc.at i.w i.rm x.node;obtain⟨q,hq,Ą,hq0,hq2,hq3⟩:=Ks i.qj;have inc:Az (.int .add) [I ((N-(n+1):Nat):Int),I 1]=some (I ((N-n:Nat):Int)):=by have:=CI (n:=N-(n+1)) (by omega);rwa [show N-(n+1)+1=N-n by omega] at this
   have dec:Az (.int .sub) [I ((k+(n+1):Nat):Int),I 1]=some (I ((k+n:Nat):Int)):=by have:=NN (n:=k+(n+1)) (by omega) (by omega);rwa [show k+(n+1)-1=k+n by omega] at this
   have z:(k:Int)<((k+(n+1):Nat):Int):=by omega
   have X:∀l:List Item,l=s.1.Au->B9 x.node l=Bs l (k+(n+1)):=by intro l e;subst e;unfold B9;rw[V,if_neg (by omega),Bz]
   by_cases he:Fo x.node s.1.AW<0
   .obtain⟨u,E,hu⟩:=Ű i.w.sO (by omega) x.node;rw[X _ rfl] at hu;have A:=i.w.Pb hu;have es:({s.1 with Au:=Bs s.1.Au (k+(n+1))},s.2.1,s.2.2)=BS.HF far.node anc.node (k+1+N) (k+(n+1)) s.1 s.2.1 s.2.2:=by unfold BS.HF;simp only[À];rw[if_pos he]
    have H:=i.step es A i.hc ((CW lY).trans i.st) i.hn (EL Cn ai) i.qj i.mkb;by_cases aY:(3:Int)<((N-n:Nat):Int);.simp only[abS,↓reduceIte,KG,z,M.call,inc,r2.call,aY,he,show¬(0:Int)<=Fo x.node s.1.AW by omega,E.call,dec];exact Bk.next n rfl ⟨_,_,_,_,H⟩ (by omega)
    .simp only[abS,↓reduceIte,KG,z,M.call,inc,r2.call,aY,he,E.call,dec];exact Bk.next n rfl ⟨_,_,_,_,H⟩ (by omega)
   .obtain⟨p,hp,ep,hx0,qx,hp3⟩:=Ks (Vb.1 he);have HK:(0:Int)<=(p:Int):=by omega
    rw[ep] at r2;have Y:s.1.AW[p].node≠fe.c.node:=by rw[qx];exact hxf
    have J:(Fo x.node s.1.AW).toNat=p:=by rw[ep,Bz]
    by_cases aY:(3:Int)<((N-n:Nat):Int)
    .obtain⟨h2,c2,E,A,LX,Á,K⟩:=dh i.w i.hc i.rm i.st i.hn hp ⟨i.qj,by omega⟩ ⟨by omega,by have:=i.mkb;omega⟩;have tH:Cw {s.1 with AW:=Bs s.1.AW p} (m+4*(n+1)):=i.rm.sub rfl (BK _) CA (Ab _);have r4:=Ec.at (b:={s.1 with AW:=Bs s.1.AW p}) LX A tH x.node;have vT:Fo x.node (Bs s.1.AW p)<0:=by have:=nl (n:=x.node) i.ok.qu (Vb.1 he);rwa [J] at this
     obtain⟨u,r5,hu⟩:=Ű A.sO (by simp only;omega) x.node;rw[X _ rfl] at hu;have O:=A.Pb hu;have Â:(((if p<s.2.2 then s.2.2 -1 else s.2.2:Nat)):Int)=down p (s.2.2:Int):=by unfold down;split<;>split<;>omega
     have es:({s.1 with AW:=Bs s.1.AW p,Au:=Bs s.1.Au (k+(n+1))},s.2.1,if p<s.2.2 then s.2.2 -1 else s.2.2)=BS.HF far.node anc.node (k+1+N) (k+(n+1)) s.1 s.2.1 s.2.2:=by unfold BS.HF;simp only[À];rw[if_neg he,if_pos (show k+(n+1)+3<k+1+N by omega),J]
     have aJk:=nj i.qj hp Y;have hd0:0<=down p (Fo fe.c.node s.1.AW):=by unfold down;split<;>omega
     have H:=i.step es O LX (by rw[CW lY,Á];simp only;rw[aJk,Â]) i.hn (K.trans (EL Cn ai)) (by simp only;rw[aJk];exact hd0) (by have:=i.mkb;simp only;split<;>omega);simp only[abS,↓reduceIte,KG,z,M.call,inc,r2.call,aY,HK,E.call,r4.call,vT,r5.call,dec];exact Bk.next n rfl ⟨_,_,_,_,H⟩ (by omega)
    .obtain⟨fs,Lx,hv⟩:=i.hc;have IZ:s.1.AW.length=fs.length:=by rw[<-Lx,Ao]
     have aOc:p<fs.length:=by omega
     have efp:fs[p].c=s.1.AW[p]:=by simp only[<-Lx,Ek]
     have l3:=i.w.l3;have e1:=Br.Dl (k:= .i64) hv aOc;have l5:Bg h1 none (Pt ai 5)=some (I anc.node):=At.load ⟨_,i.st,rfl⟩;obtain⟨r,E,hr⟩:=Y_ fs[p] h1;have Rb:=i.rm.D0 _ (Ay hp);rw[<-efp] at Rb;obtain⟨h2,G2,r4,A,K⟩:=aFp (m:=m+4*n) i.w i.ok (i.rm.le (by omega)) hr fs[p].ok Rb.2 Rb.1 anc.node 1;obtain⟨ok2,f,le2⟩:=VG (nm:=fs[p].c.name) (at_:=fs[p].c.Aq) (p:=anc.node) i.ok Lm;have tH:=Rc (m:=m+4*n+1) (nm:=fs[p].c.name) (l:=fs[p].c.Aq) (sp:=1) (p:=anc.node) (i.rm.le (by omega)) Rb.2;have RA:(s.1.HL fs[p].c.name fs[p].c.Aq 1 anc.node).Au=s.1.Au:=by unfold BS.HL;rw[if_pos Lm]
     have fE:(s.1.HL fs[p].c.name fs[p].c.Aq 1 anc.node).AW=s.1.AW:=by unfold BS.HL;rw[if_pos Lm]
     have es0:BS.HF far.node anc.node (k+1+N) (k+(n+1)) s.1 s.2.1 s.2.2=({s.1.HL fs[p].c.name fs[p].c.Aq 1 anc.node with a:=(s.1.HL fs[p].c.name fs[p].c.Aq 1 anc.node).a.Ip (s.1.IJ fs[p].c.name fs[p].c.Aq 1).node s.2.1 0,Au:=(s.1.HL fs[p].c.name fs[p].c.Aq 1 anc.node).Au.set (k+(n+1)) (s.1.IJ fs[p].c.name fs[p].c.Aq 1),AW:=(s.1.HL fs[p].c.name fs[p].c.Aq 1 anc.node).AW.set p {fs[p].c with node:=(s.1.IJ fs[p].c.name fs[p].c.Aq 1).node}},(s.1.IJ fs[p].c.name fs[p].c.Aq 1).node,if s.2.1=far.node then p+1 else s.2.2):=by unfold BS.HF;simp only[À];rw[if_neg he,if_neg (by omega),J,AG,An hp,E5,<-efp]
     have tn:=Ra i.ok f;have hna:=UI i.ok f;have hnf:(s.1.IJ fs[p].c.name fs[p].c.Aq 1).node≠fe.c.node:=λe2=>f.new (by rw[e2];exact i.fe);have aOe:=le2.has _ i.last;have aOf:(s.1.IJ fs[p].c.name fs[p].c.Aq 1).name.length<=1000:=TB Rb.1;generalize s.1.IJ fs[p].c.name fs[p].c.Aq 1=d at*;generalize s.1.HL fs[p].c.name fs[p].c.Aq 1 anc.node=y at*;have jP:¬BN bi G2 ai:=λhg=>by
      rcases K.BN ai hg with hg|hg
      .exact i.hn hg
      .omega
     have Á:h2[ai]?=_:=(K.old ai Ĉ i.hn).trans i.st;obtain⟨L,P,r5,dK⟩:=aNv A.sO (by have:=tH.Au;omega) x.node d;have ſ:Qk x.node d y.Au=y.Au.set (k+(n+1)) d:=by unfold Qk;rw[RA,V,if_neg (by omega),Bz]
     rw[ſ] at dK;have O:=(A.Pb dK).J9 (u:=P);have x3:Ey h1 (Nl ai bi G1) (put h2 bi 2 L++P) (Nl ai bi G2):=(EL K ai).trans (EL (Cn.trans (A.Pb dK).Eg) ai);have ai2:ai<h2.length:=by have:=K.len;omega
     have st3:(put h2 bi 2 L++P)[ai]?=_:=(Ah (by rw[Mm];exact ai2)).trans ((CW lY).trans Á);have ai3:ai<(put h2 bi 2 L++P).length:=by rw[Ai,Mm];omega
     generalize put h2 bi 2 L++P=h3 at*;have aOg:=(Rb.2).1;obtain⟨D,t2,e2,he2,r6,Ti⟩:=aNB (h:=h3) (id:=bi) (o:=3) (l:=fs) ⟨c1,O.my,hv⟩ (by omega) x.node (e:=⟨{fs[p].c with node:=d.node},fs[p].v,fs[p].ok⟩) (by unfold qo;simp only;omega);have hei:KY x.node fs=(p:Int):=by rw[YG,Lx,ep]
     rw[hei,if_neg (by omega),Bz] at Ti;have w4:=(O.TJ (u:=D) (l:=y.AW.set p {fs[p].c with node:=d.node})).J9 (u:=t2);have hc4:Ec (y.AW.set p {fs[p].c with node:=d.node}) D:=⟨_,by rw[Hp,Lx,he2,fE],Ti⟩;have x4:=x3.trans (EL ((Cn (k:=3) (v:=D)).trans (BX.Eg (u:=t2) (O.TJ (u:=D) (l:=y.AW.set p {fs[p].c with node:=d.node})))) ai);have B:(put h3 bi 3 D++t2)[ai]?=_:=(Ah (by rw[Mm];exact ai3)).trans ((CW lY).trans st3);generalize put h3 bi 3 D++t2=g at*;have ok3:=ok2.xl (i:=d) (k:=k+(n+1)) ⟨f.has,f.kind,f.AX,f.name⟩ (by rw[RA];exact tn);have ok4:=ok3.xo (e:={fs[p].c with node:=d.node}) (k:=p) ⟨f.has,f.kind⟩ (by simp only[fE];exact hna);have rm4:Cw {y with Au:=y.Au.set (k+(n+1)) d,AW:=y.AW.set p {fs[p].c with node:=d.node}} (m+4*n+1):=by
      refine⟨tH.n,tH.at_,tH.data,by simp only[BY];exact tH.Au,by simp only[BY];exact tH.AW,tH.tm,λe he=>?_,λi hi=>?_⟩
      .rcases Dm he with he|rfl
       .exact tH.D0 e he
       .exact Rb
      .rcases Dm hi with hi|rfl
       .exact tH.o7 i hi
       .exact aOf
     have T:Bg g none (Pt ai 13)=some (I s.2.1):=At.load ⟨_,B,rfl⟩;have l9:Bg g none (Pt ai 9)=some (I far.node):=At.load ⟨_,B,rfl⟩;have t4:At g ai 4 (I (s.2.2:Int)):=⟨_,B,rfl⟩;obtain⟨iG,nu⟩:∃iG:Nat,iG=if s.2.1=far.node then p+1 else s.2.2:=⟨_,rfl⟩
     have e5:put g ai 4 (I (iG:Int))=if s.2.1=far.node then put g ai 4 (I ((p+1:Nat):Int)) else g:=by
      rw[nu];split;.rfl
      .exact t4.same
     have R:=J2 (k:=4) (v:= I (iG:Int)) B;have w5:BX (put g ai 4 (I (iG:Int))) bi a L D t G2 {y with Au:=y.Au.set (k+(n+1)) d,AW:=y.AW.set p {fs[p].c with node:=d.node}}:=w4.Ep λj hj=>CW λe=>jP (e▸hj);have x5:=x4.trans (Qv (k:=4) (v:= I (iG:Int)));have ai5:ai<(put g ai 4 (I (iG:Int))).length:=by have:=x5.len;omega
     have t5:Bg (put g ai 4 (I (iG:Int))) none (Pt ai 13)=some (I s.2.1):=At.load ⟨_,R,rfl⟩;generalize hh5:put g ai 4 (I (iG:Int))=h5 at*;obtain⟨h6,G6,r7,w6,x6⟩:=tG (x:=s.2.1) (p:=d.node) (bf:=0) w5 ok4 rm4;rw[UT (by exact f.kind)] at w6;have Z:¬BN bi G6 ai:=λhg=>by
      rcases x6.BN ai hg with hg|hg
      .exact jP hg
      .omega
     have Q:h6[ai]?=_:=(x6.old ai ai5 jP).trans R;have t6:At h6 ai 13 (I s.2.1):=⟨_,Q,rfl⟩;have st7:=J2 (k:=13) (v:= I d.node) Q;have w7:BX (put h6 ai 13 (I d.node)) bi a L D t G6 _:=w6.Ep λj hj=>CW λe=>Z (e▸hj);have x7:=(x5.trans (EL x6 ai)).trans (Qv (k:=13) (v:= I d.node));have ny:Fo fe.c.node (y.AW.set p {fs[p].c with node:=d.node})=Fo fe.c.node s.1.AW:=by rw[fE];exact Z_ i.qj hp Y hnf
     rw[<-nu] at es0;have H:=i.step es0.symm w7 hc4 (by simp only;rw[st7,ny];rfl) Z x7 (by simp only;rw[ny];exact i.qj) (by simp only;rw[nu];have:=i.mkb;split<;>omega);have W:fs[p].v.cells=[fs[p].v]:=Br.cells fs[p].ok;have U:=CI (show p<9223372036854775807 by omega);have S:Cj cx 275 [Pt bi 3,I x.node,.agg [I d.node,.str fs[p].c.name,fs[p].v]] h3 (.bool (decide (0<=KY x.node fs))) g:=r6;rw[C9.row] at e1 E;by_cases jW:s.2.1=far.node
     .rw[if_pos jW] at e5;have s5:CR g 1 (Pt ai 4) (I ((p+1:Nat):Int))=some h5:=by rw[e5];exact t4.store rfl
      simp only[abS,Nat.reduceLeDiff,↓reduceIte,B6,KG,z,M.call,inc,r2.call,aY,HK,show¬(p:Int)<0 by omega,l3,e1,l5,E.call,Dn,r4.call,r5.call,W,S.call,T,l9,BA jW,U,s5,t5,r7.call,t6.store (u:= I d.node) rfl,dec];exact Bk.next n rfl ⟨_,_,_,_,H⟩ (by omega)
     .rw[if_neg jW] at e5;subst e5;simp only[abS,Nat.reduceLeDiff,↓reduceIte,B6,KG,z,M.call,inc,r2.call,aY,HK,show¬(p:Int)<0 by omega,l3,e1,l5,E.call,Dn,r4.call,r5.call,W,S.call,T,l9,jW,r7.call,t6.store (u:= I d.node) rfl,dec];exact Bk.next n rfl ⟨_,_,_,_,H⟩ (by omega)
 obtain⟨r,h',hr,rfl,o',c',G',s',e',i'⟩:=PI.ret;exact⟨h',o',c',G',s',hr,e',i'⟩
end
section
variable{h h':Ae}{bi a ai:Nat}{o c t:Aa}{G G' F:Nat->Prop}{b b':BS}{x:Int}{m:Nat}
variable{nm:Ad}{av:Aa}{l:List A9}{r:List Aa}{sp p:Int}{e:C9}{at_ mk last:Int}{anc far:Item}
def Ec.find(hc:Ec b.AW c)(w:BX h bi a o c t G b)(rm:Cw b m)(nm:Ad):Cj cx 208 [Pt bi 3,.str nm] h (I (D7 nm b.AW)) h:=by obtain⟨fs,Lx,d⟩:=hc;have ha:=rm.AW;have:=aIm w.my d (by rw[<-Lx,Ao] at ha;omega) nm;rwa [db,Lx] at this
def YM(Ĉ:h.length<=ai)(x:Ey h (Nl ai bi G) h' (Nl ai bi G')):Ey h (BN bi G) h' (BN bi G'):=
 ⟨x.len,λi hi hn=>x.old i hi λhg=>by
  rcases hg with rfl|hg
  .omega
  .exact hn hg,λi hi=>by
  rcases x.BN i (.inr hi) with(rfl|h)|h
  .exact .inr Ĉ
  .exact .inl h
  .exact .inr h⟩
def YN{nm:Ad}{l:List B2}(h:0<=D7 nm l):∃p:Nat,∃hp:p<l.length,D7 nm l=(p:Int):=by
 have key:∀r:List B2,O1 nm r<r.length:=by
  intro r;induction r with
  |nil=>show(-1:Int)<0;decide
  |cons x r ih=>rw[O1];simp only[AE];split<;>(try split)<;>omega
 have:=key l.reverse;rw[Lh] at this;refine⟨(D7 nm l).toNat,?_,by omega⟩;unfold D7 at h⊢;omega
def aAa{l:List B2}{f:Nat}(hn:((l.map B2.node).filter λn=>decide (n≠0)).Nodup)(hf:f<l.length)(h0:l[f].node≠0):Fo l[f].node l=(f:Int):=by
 unfold Fo;rw[if_neg h0];refine MY hf (by simp[VF]) λj hj h=>?_;by_cases he:l[j].node=l[f].node
 .exfalso;have:l=l.take j++l[j]::l.drop (j+1):=by rw[<-Ap hj,Bl]
  rw[this,Cb,Bd,Bu,Hu,if_pos (by simpa[he] using h0),BU] at hn;have hm:l[f]∈l.take j:=C1.2 ⟨f,by omega,rfl⟩;exact hn.2.2 l[f].node (BV.2 ⟨Z9 hm,by simpa using h0⟩) l[j].node (by simp) he.symm
 .simp[VF,he]
def nK{v:EE}:Ey h (Am.Nl ai bi G) (h.set ai v) (Am.Nl ai bi G):=⟨by rw[BY];exact Ab _,λi _ hn=>Al λe=>hn (.inl e.symm),λ_ h=> .inl h⟩
def aFu(hc:h[ai]?=some (.cells (Fz e at_ mk anc far last)))(i:Item):CR h 4 (Pt ai 5) (.agg i.row)=some (h.set ai (.cells (Fz e at_ mk i far last))):=by simp only[CR,hc];rfl
def aFv(hc:h[ai]?=some (.cells (Fz e at_ mk anc far last)))(i:Item):CR h 4 (Pt ai 9) (.agg i.row)=some (h.set ai (.cells (Fz e at_ mk anc i last))):=by simp only[CR,hc];rfl
def aFw(hc:h[ai]?=some (.cells (Fz e at_ mk anc far last))):Bg h (some 3) (Pt ai 0)=some (.agg e.row):=by simp only[Bg,hc];rfl
def ZQ{A:Ar}{n x:Int}{l:List Int}:BS.Dx A n (l++[x])=(BS.Dx A n l).Ip n x 0:=by unfold BS.Dx;rw[List.foldl_append];rfl
def aOi(w:BX h bi a o c t G b)(hc:Ec b.AW c)(ok:Fa b)(rm:Cw b (m+4*b.Au.length+10))(nm:Ad):
  ∃h' o' c' G',Cj cx 212 [Pt bi 0,.str nm] h (.bool (b.round nm).1) h'/\BX h' bi a o' c' t G' (b.round nm).2/\Ec (b.round nm).2.AW c'/\Ey h (BN bi G) h' (BN bi G'):=by
 have ho:=rm.Au;have fE:=rm.AW;have r1:=hc.find w rm nm;by_cases hf:D7 nm b.AW<0
 .obtain⟨h2,o2,r2,W,x2⟩:=aI5 w rm nm;have e:b.round nm=(false,b.Dg nm):=by unfold BS.round;simp only;rw[if_pos hf]
  have ea:(b.Dg nm).AW=b.AW:=by
   unfold BS.Dg;split;.split<;>rfl
   .rfl
  rw[e];refine⟨h2,o2,c,G,?_,W,by rw[ea];exact hc,x2⟩;rw[Ac,O7,mZ];simp only[abS,Nat.reduceLeDiff,↓reduceIte,B6,r1.call,hf,r2.call]
 obtain⟨f,IZ,ef⟩:=YN (Vb.1 hf);have ý:¬(f:Int)<0:=by omega
 rw[ef] at r1;have Ut:=hc;obtain⟨fs,Lx,hv⟩:=Ut;have aUt:b.AW.length=fs.length:=by rw[<-Lx,Ao]
 have R:fs[f].c=b.AW[f]:=by simp only[<-Lx,Ek]
 have l3:=w.l3;have e1:=Br.Dl (k:= .i64) hv (show f<fs.length by omega);generalize hfe:fs[f]=fe at*;have À:b.AW.getD f B2.zero=fe.c:=by rw[AG,An IZ];exact R.symm
 have hv3:fe.v.cells=[fe.v]:=Br.cells fe.ok;have E:=w.J9 (u:=[.cells (Fz fe (f:Int) (f:Int) Item.zero Item.zero 0)]);have C:(h++[EE.cells (Fz fe (f:Int) (f:Int) Item.zero Item.zero 0)])[h.length]?=some (.cells (Fz fe (f:Int) (f:Int) Item.zero Item.zero 0)):=by simp
 have x1:Ey h (BN bi G) (h++[EE.cells (Fz fe (f:Int) (f:Int) Item.zero Item.zero 0)]) (BN bi G):=w.Eg;have SJ:¬BN bi G h.length:=by
  rintro(e|hg);.exact absurd w.lt (by omega)
  .exact absurd (w.w.lt hg) (Dw _)
 obtain⟨M,B⟩:∃M,M=h++[EE.cells (Fz fe (f:Int) (f:Int) Item.zero Item.zero 0)]:=⟨_,rfl⟩;rw[<-B] at E C x1;have l0:Bg M none (Pt h.length 0)=some (I fe.c.node):=At.load ⟨_,C,rfl⟩;have r2:=ZM E.sA (by omega) fe.c.node;have S5:Fz fe (f:Int) (f:Int) Item.zero Item.zero 0=[I fe.c.node,.str fe.c.name,fe.v,I (f:Int),I (f:Int),I 0,I 0,S [],ff,I 0,I 0,S [],ff,I 0]:=rfl;rw[S5] at B;rw[C9.row] at e1;by_cases hk:Ax (Bq fe.c.node) b.Au<0
 .obtain⟨h2,c2,r3,W,LX,_,x2⟩:=dh E hc rm C SJ IZ ⟨by omega,by omega⟩ ⟨by omega,by omega⟩;have e:b.round nm=(false,{b with AW:=Bs b.AW f}):=by unfold BS.round;simp only;rw[if_neg hf,ef,Bz,À,if_pos hk]
  rw[e];refine⟨h2,o,c2,G,?_,W,LX,YM (Ab _) ((EL x1 h.length).trans x2)⟩;rw[Ac,O7,mZ];simp only[abS,Nat.reduceLeDiff,↓reduceIte,B6,r1.call,ý,l3,e1,<-B,l0,r2.call,hk,r3.call]
 obtain⟨k,ek⟩:∃k:Nat,Ax (Bq fe.c.node) b.Au=(k:Int):=⟨_,(Iz (Vb.1 hk)).symm⟩;obtain⟨Xm,hkq,_⟩:=LN ek;have Ų:¬(k:Int)<0:=by omega
 rw[ek] at r2;by_cases hkz:k=0
 .have e:b.round nm=(false,b):=by unfold BS.round;simp only;rw[if_neg hf,ef,Bz,À,if_neg hk,if_pos (.inl (by rw[ek,hkz];rfl))]
  rw[e];refine⟨M,o,c,G,?_,E,hc,x1⟩;rw[Ac,O7,mZ];simp only[abS,Nat.reduceLeDiff,↓reduceIte,B6,r1.call,ý,l3,e1,<-B,l0,r2.call,Ų,BA (show(k:Int)=0 by omega)]
 have aAb:¬(k:Int)=0:=by omega
 have r3:=aIi E.sA (by omega) 1 fe.c.node;by_cases ę:Hc (Bq fe.c.node) (Gg 1) b.Au.reverse=false
 .have e:b.round nm=(false,b):=by unfold BS.round;simp only;rw[if_neg hf,ef,Bz,À,if_neg hk,if_pos (.inr ę)]
  rw[e];refine⟨M,o,c,G,?_,E,hc,x1⟩;rw[ę] at r3;rw[Ac,O7,mZ];simp only[abS,Nat.reduceLeDiff,↓reduceIte,B6,r1.call,ý,l3,e1,<-B,l0,r2.call,Ų,aAb,r3.call]
 have aOj:Hc (Bq fe.c.node) (Gg 1) b.Au.reverse=true:=by simpa using ę
 rw[aOj] at r3;have r4:=aNo E.sA (by omega) fe.c.node;have hor:¬(Ax (Bq fe.c.node) b.Au=0\/Hc (Bq fe.c.node) (Gg 1) b.Au.reverse=false):=by rw[ek];rintro(h|h);exact aAb h;exact ę h
 by_cases hfa:D6 fe.c.node b.Au<0
 .have e:b.round nm=(false,{b with Au:=GK fe.c.node b.Au,AW:=Bs b.AW f}):=by unfold BS.round;simp only;rw[if_neg hf,ef,Bz,À,if_neg hk,if_neg hor,if_pos hfa]
  obtain⟨u,r5,hu⟩:=aIl E.sO (by omega) fe.c.node;have W:=E.Pb hu;have Á:(put M bi 2 u)[h.length]?=_:=(CW (λe=>SJ (.inl e))).trans C;obtain⟨h3,c3,r6,w3,aY,_,x3⟩:=dh W hc ((rm.le (m':=0) (by omega)).sub rfl IL (BK _) (Ab _)) Á SJ IZ ⟨by omega,by omega⟩ ⟨by omega,by omega⟩;rw[e];refine⟨h3,u,c3,G,?_,w3,aY,YM (Ab _) ((EL (x1.trans Cn) h.length).trans x3)⟩;rw[Ac,O7,mZ];simp only[abS,Nat.reduceLeDiff,↓reduceIte,B6,r1.call,ý,l3,e1,<-B,l0,r2.call,Ų,aAb,r3.call,r4.call,hfa,r5.call,r6.call]
 obtain⟨N,hN,eN⟩:∃N:Nat,k+1+N<b.Au.length/\D6 fe.c.node b.Au=((k+1+N:Nat):Int):=by
  have aFx:=hfa;rw[LF,if_neg hk,ek,Bz] at aFx⊢;unfold FX at aFx⊢;split at aFx;.rename_i j hj;have:=(Li.1 hj).1;rw[A5] at this;exact⟨j,by omega,by omega⟩
  .omega
 obtain⟨g,hfb⟩:∃g,g=b.Au[k+1+N]:=⟨_,rfl⟩;obtain⟨an,han⟩:∃an,an=b.Au[k-1]'(by omega):=⟨_,rfl⟩;have Ī:b.Au.getD (k+1+N) Item.zero=g:=by rw[AG,An hN,hfb];rfl
 have hga:b.Au.getD (k-1) Item.zero=an:=by rw[AG,An (by omega),han];rfl
 have e:b.round nm=(true,BS.JN fe.c g.node an.node (BS.O2 g.node an.node (k+1+N) k N (b,g.node,f))):=by
  unfold BS.round;simp only
  rw[if_neg hf,ef,Bz,À,if_neg hk,if_neg hor,if_neg hfa,ek,eN,Bz,Bz,Ī,hga,show k+1+N-1 -k=N by omega]
 have aAc:=ok.op g (by rw[hfb];exact Ay _);have aOk:b.Au[k].node=fe.c.node:=by simpa[Bq] using hkq
 have aJn:b.a.has fe.c.node:=by rw[<-aOk];exact(ok.op _ (Ay _)).1
 have aOl:b.AW[f].node≠0:=by rw[<-R];have:=aJn.1;omega
 have ny:=aAa ok.qu IZ aOl;rw[<-R] at ny;have Rb:=rm.D0 _ (Ay IZ);rw[<-R] at Rb;have qm:=NN (n:=k) (by omega) (by omega);have r5:=We E.sA ((k-1:Nat):Int);rw[HD (by omega),<-han] at r5;have r6:=We E.sA ((k+1+N:Nat):Int);rw[HD hN,<-hfb] at r6;have s5:=aFu C an;have jV:h.length<M.length:=(Af.1 C).1;have hbn:h.length≠bi:=λe=>SJ (.inl e);have Á:(M.set h.length (.cells (Fz fe f f an Item.zero 0)))[h.length]?=_:=AB jV;have W:BX (M.set h.length (.cells (Fz fe f f an Item.zero 0))) bi a o c t G b:=E.Ep λj hj=>Al λe=>SJ (by rw[e];exact hj);have x2:=(EL x1 h.length).trans (nK (v:= .cells (Fz fe f f an Item.zero 0)));generalize M.set h.length (.cells (Fz fe f f an Item.zero 0))=H2 at*;have s6:=aFv Á g;have lJ:h.length<H2.length:=(Af.1 Á).1;have st3:(H2.set h.length (.cells (Fz fe f f an g 0)))[h.length]?=_:=AB lJ;have w3:BX (H2.set h.length (.cells (Fz fe f f an g 0))) bi a o c t G b:=W.Ep λj hj=>Al λe=>SJ (by rw[e];exact hj);have x3:=x2.trans (nK (v:= .cells (Fz fe f f an g 0)));generalize H2.set h.length (.cells (Fz fe f f an g 0))=H3 at*;have l9:Bg H3 none (Pt h.length 9)=some (I g.node):=At.load ⟨_,st3,rfl⟩;have t13:At H3 h.length 13 (I 0):=⟨_,st3,rfl⟩;have s7:=t13.store (u:= I g.node) rfl;have st4:=J2 (k:=13) (v:= I g.node) st3;have w4:BX (put H3 h.length 13 (I g.node)) bi a o c t G b:=w3.Ep λj hj=>CW λe=>SJ (by rw[<-e];exact hj);have x4:=x3.trans (Qv (k:=13) (v:= I g.node));generalize put H3 h.length 13 (I g.node)=H4 at*;have i0:nJ H4 bi a h.length t G fe an g k N (m+10) (b,g.node,f) N H4 o c G (b,g.node,f):=
  ⟨Ab _,w4,hc,ok,rm.le (by omega),aAc.1,by rw[ny];exact st4,SJ,.refl,by rw[ny];omega,by show f<=1000000000;omega,rfl,by simp only;omega,rfl,aJn⟩
 have le0:=(fF (blk:=g.node) (anc:=an.node) (far:=k+1+N) (k:=k) (c:=N) (s:=(b,g.node,f)) ok aAc.1).2.2;obtain⟨h5,o5,c5,G5,s',r7,es,i⟩:=aJi i0 (by omega) ek hN;rw[<-es] at le0 e;obtain⟨q,hq,Ą,hq0,hq2,hq3⟩:=Ks i.qj;have P:=i.st;rw[Ą] at P;have hmk:=i.mkb;have lY:h.length≠bi:=hbn;have l5:Bg h5 none (Pt h.length 5)=some (I an.node):=At.load ⟨_,P,rfl⟩;obtain⟨u6,r8⟩:=ŵ i.w i.ok i.rm an.node;have w6:=i.w.J9 (u:=u6);have w6':=i.w.Eg (u:=u6);have hl5:h.length<h5.length:=(Af.1 P).1;have st6:(h5++u6)[h.length]?=_:=(Ah hl5).trans P;have l13:Bg (h5++u6) none (Pt h.length 13)=some (I s'.2.1):=At.load ⟨_,st6,rfl⟩;have hl6:h.length<(h5++u6).length:=by rw[Ai];omega
 obtain⟨h7,G7,r9,w7,x7⟩:=tG (x:=s'.2.1) (p:=(s'.1.place an.node).1) (bf:=(s'.1.place an.node).2) w6 i.ok i.rm;have hn7:¬BN bi G7 h.length:=λhg=>by
  rcases x7.BN h.length hg with hg|hg
  .exact i.hn hg
  .omega
 have O:h7[h.length]?=_:=(x7.old h.length hl6 i.hn).trans st6;have l3b:Bg h7 (some 3) (Pt h.length 0)=some (.agg fe.row):=aFw O;have l9b:Bg h7 none (Pt h.length 9)=some (I g.node):=At.load ⟨_,O,rfl⟩;obtain⟨r,r10,hr⟩:=Y_ fe h7;have le7:Le s'.1.a (s'.1.a.Gr s'.2.1 (s'.1.place an.node).1 (s'.1.place an.node).2):=JC;have ok7:=i.ok.IK (Q9 (n:=s'.2.1) (p:=(s'.1.place an.node).1) (b:=(s'.1.place an.node).2) i.ok.ok) le7;have rm7:=i.rm.IK (Oo (x:=s'.2.1) (p:=(s'.1.place an.node).1) (bf:=(s'.1.place an.node).2));obtain⟨b2,RJ⟩:∃b2,b2={s'.1 with a:=s'.1.a.Gr s'.2.1 (s'.1.place an.node).1 (s'.1.place an.node).2}:=⟨_,rfl⟩;have kL:b2.Au=s'.1.Au:=by rw[RJ]
 have LX:b2.AW=s'.1.AW:=by rw[RJ]
 have le2:Le s'.1.a b2.a:=by rw[RJ];exact le7
 rw[<-RJ] at w7 ok7 rm7;obtain⟨V,G8,r11,w8,x8⟩:=aFp (m:=m+7) w7 ok7 (rm7.le (by omega)) hr fe.ok Rb.2 Rb.1 g.node 1;obtain⟨D,fr,le8⟩:=VG (nm:=fe.c.name) (at_:=fe.c.Aq) (p:=g.node) ok7 Lm;have K:=Rc (m:=m+7) (nm:=fe.c.name) (l:=fe.c.Aq) (sp:=1) (p:=g.node) (rm7.le (by omega)) Rb.2;obtain⟨y,hnw⟩:∃y,y=b2.IJ fe.c.name fe.c.Aq 1:=⟨_,rfl⟩;obtain⟨d,Q⟩:∃d,d=b2.HL fe.c.name fe.c.Aq 1 g.node:=⟨_,rfl⟩;have ho3:d.Au=s'.1.Au:=by rw[Q,<-kL];unfold BS.HL;rw[if_pos Lm]
 have aY:d.AW=s'.1.AW:=by rw[Q,<-LX];unfold BS.HL;rw[if_pos Lm]
 rw[<-hnw] at r11 fr;rw[<-Q] at w8 D fr le8 K;have hl7:h.length<h7.length:=(Af.1 O).1;have hn8:¬BN bi G8 h.length:=λhg=>by
  rcases x8.BN h.length hg with hg|hg
  .exact hn7 hg
  .omega
 have st8:V[h.length]?=_:=(x8.old h.length hl7 hn7).trans O;have l9c:Bg V none (Pt h.length 9)=some (I g.node):=At.load ⟨_,st8,rfl⟩;obtain⟨kv,r12,hkv⟩:∃v,Cj cx 178 [Pt a 0,I g.node] V v V/\Hh (d.a.nd g.node).Bv v:=by obtain⟨n',m',ps,wa⟩:=w8.w.pa;exact aBx wa K.WB (K.WB.Bv D.ok g.node)
 have aUB:(d.a.nd g.node).Bv.length<=1000000000:=K.WB.Bv D.ok g.node;have Wt:y.row=[I y.node,I y.AX,.str y.name,.bool y.Qi]:=rfl;rw[C9.row] at r10 l3b;have PI:Ev cx 212 [Pt bi 0,.str nm] h λr h'=>r= .bool true/\∃o' c' G',BX h' bi a o' c' t G' (BS.JN fe.c g.node an.node s')/\Ec (BS.JN fe.c g.node an.node s').AW c'/\Ey h (BN bi G) h' (BN bi G'):=by
  unfold Ev;rw[O7,mZ];simp only[abS,Nat.reduceLeDiff,↓reduceIte,B6,r1.call,ý,l3,e1,<-B,l0,r2.call,Ų,aAb,r3.call,r4.call,eN,show¬((k+1+N:Nat):Int)<0 by omega,qm,r5.call,r6.call,s5,s6,l9,s7];simp only[abS,r7.call,l5,r8.call];simp only[abS,l13,r9.call];simp only[Ce,l3b,l9b];simp only[abS,↓reduceIte,KG,r10.call,Dn,r11.call,l9b];simp only[Ce,w8.l0,l9c,r12.call,Br.Fk hkv];have x8':Ey h (Nl h.length bi G) V (Nl h.length bi G8):=(((x4.trans i.x).trans (EL w6' h.length)).trans (EL x7 h.length)).trans (EL x8 h.length);refine EK (i:=0) (λj:Nat=>[I (j:Int)]) (λj L=>j<=(d.a.nd g.node).Bv.length/\∃T,BX L bi a o5 c5 t T {d with a:=BS.Dx d.a y.node ((d.a.nd g.node).Bv.take j)}/\Fa {d with a:=BS.Dx d.a y.node ((d.a.nd g.node).Bv.take j)}/\Cw {d with a:=BS.Dx d.a y.node ((d.a.nd g.node).Bv.take j)} (m+7)/\Ey V (BN bi G8) L (BN bi T)) (λj=>(d.a.nd g.node).Bv.length-j)
   (λj L=>j=(d.a.nd g.node).Bv.length/\∃T,BX L bi a o5 c5 t T {d with a:=BS.Dx d.a y.node ((d.a.nd g.node).Bv.take j)}/\Fa {d with a:=BS.Dx d.a y.node ((d.a.nd g.node).Bv.take j)}/\Cw {d with a:=BS.Dx d.a y.node ((d.a.nd g.node).Bv.take j)} (m+7)/\Ey V (BN bi G8) L (BN bi T)) 0 rfl ⟨AU _,G8,w8,D,K,.refl⟩ ?_ ?_
  .rintro j L ⟨hj,T,w9,A,z,x9⟩;rcases A6 j (d.a.nd g.node).Bv.length with hlt|HK
   .have e9:=Br.Dl (k:= .i64) hkv hlt;obtain⟨ZO,U,r13,J,H⟩:=tG (x:=(d.a.nd g.node).Bv[j]) (p:=y.node) (bf:=0) w9 A z;have lej:=(LI (n:=y.node) (l:=(d.a.nd g.node).Bv.take j) D.ok).2;rw[UT (by show((BS.Dx d.a y.node ((d.a.nd g.node).Bv.take j)).nd y.node).kind=4;rw[lej.kind _ fr.has];exact fr.kind)] at J;have hs:BS.Dx d.a y.node ((d.a.nd g.node).Bv.take (j+1))=(BS.Dx d.a y.node ((d.a.nd g.node).Bv.take j)).Ip y.node (d.a.nd g.node).Bv[j] 0:=by rw[AV hlt,ZQ]
    rw[CY] at e9;simp only[abS,show(j:Int)<((d.a.nd g.node).Bv.length:Int) by omega,e9,r13.call,CI (show j<9223372036854775807 by omega)];refine .next (j+1) rfl ⟨hlt,U,by rw[hs];exact J,?_,?_,x9.trans H⟩ (by omega)
    .have:=A.IK (O0 (p:=y.node) (n:=(d.a.nd g.node).Bv[j]) (b:=0) A.ok) I6;rw[hs];exact this
    .have:=z.IK (K5 (p:=y.node) (x:=(d.a.nd g.node).Bv[j]) (bf:=0));rw[hs];exact this
   .simp only[abS,show¬(j:Int)<((d.a.nd g.node).Bv.length:Int) by omega];exact .Jd j rfl ⟨by omega,T,w9,A,z,x9⟩
  .rintro j L ⟨rfl,T,w9,A,z,x9⟩;rw[Bf] at w9 A z;have hl8:h.length<V.length:=(Af.1 st8).1;have hn9:¬BN bi T h.length:=λhg=>by
    rcases x9.BN h.length hg with hg|hg
    .exact hn8 hg
    .omega
   have Z:L[h.length]?=_:=(x9.old h.length hl8 hn8).trans st8;have l9d:Bg L none (Pt h.length 9)=some (I g.node):=At.load ⟨_,Z,rfl⟩;have le9:=(LI (n:=y.node) (l:=(d.a.nd g.node).Bv) D.ok).2;have lef:Le b.a (BS.Dx d.a y.node (d.a.nd g.node).Bv):=((le0.trans le2).trans le8).trans le9;obtain⟨ZO,U,r13,J,H⟩:=tG (x:=y.node) (p:=g.node) (bf:=0) w9 A z;rw[UT (by show((BS.Dx d.a y.node (d.a.nd g.node).Bv).nd g.node).kind=4;rw[lef.kind _ aAc.1];exact aAc.2.1)] at J;have hl9:h.length<L.length:=(Af.1 Z).1;have aOq:¬BN bi U h.length:=λhg=>by
    rcases H.BN h.length hg with hg|hg
    .exact hn9 hg
    .omega
   have aJr:ZO[h.length]?=_:=(H.old h.length hl9 hn9).trans Z;have l3c:Bg ZO none (Pt h.length 3)=some (I (q:Int)):=At.load ⟨_,aJr,rfl⟩;have aOr:=z.IK (K5 (p:=g.node) (x:=y.node) (bf:=0));have aOs:Ec ({d with a:=(BS.Dx d.a y.node (d.a.nd g.node).Bv).Ip g.node y.node 0}:BS).AW c5:=by simp only;rw[aY];exact i.hc
   have hqa:=i.rm.AW;obtain⟨V9,wF,r14,Y,aJs,aAd,x11⟩:=dh J aOs aOr aJr aOq (k:=q) (by simp only;rw[aY];exact hq) ⟨by omega,by omega⟩ ⟨by omega,by omega⟩;simp only at Y aJs;have l1:Bg V9 none (Pt h.length 1)=some (.str fe.c.name):=At.load ⟨_,aAd,rfl⟩;have l2:Bg V9 none (Pt h.length 2)=some fe.v:=At.load ⟨_,aAd,rfl⟩;have l4:Bg V9 none (Pt h.length 4)=some (I (down q (s'.2.2:Int))):=At.load ⟨_,aAd,rfl⟩;obtain⟨fs2,aFB,Ws⟩:=aJs;have aUG:d.AW.length=s'.1.AW.length:=by rw[aY]
   have aUH:fs2.length<=900000000:=by have h1:=BQ List.length aFB;rw[Ao,JP (by rw[aY];exact hq)] at h1;omega
   have aOg:=Rb.2.1;obtain⟨u1,e2,he2,r15,dK⟩:=aNA (h:=V9) (id:=bi) (o:=3) (l:=fs2) ⟨wF,Y.my,Ws⟩ (by omega) (e:=⟨{fe.c with node:=y.node},fe.v,fe.ok⟩) (by unfold qo;simp only;omega) (down q (s'.2.2:Int));have aOv:Cj cx 251 [Pt bi 3,.agg [I y.node,.str fe.c.name,fe.v],I (down q (s'.2.2:Int))] V9 (.tuple []) (put V9 bi 3 u1):=r15;obtain⟨iG,nu⟩:∃iG:Nat,iG=if q<s'.2.2 then s'.2.2 -1 else s'.2.2:=⟨_,rfl⟩
   have Â:down q (s'.2.2:Int)=(iG:Int):=by rw[nu];unfold down;split<;>split<;>omega
   have w12:=Y.TJ (u:=u1) (l:=(Bs d.AW q).take (GL iG (Bs d.AW q).length)++{fe.c with node:=y.node}::(Bs d.AW q).drop (GL iG (Bs d.AW q).length));have aOw:Ec ((Bs d.AW q).take (GL iG (Bs d.AW q).length)++{fe.c with node:=y.node}::(Bs d.AW q).drop (GL iG (Bs d.AW q).length)) u1:=by refine⟨_,?_,dK⟩;rw[Â,Cb,Bd,Hr,LV,aFB,he2,<-aFB,Ao]
   have hob:=i.rm.Au;obtain⟨u2,r16,Ti⟩:=Ű w12.sO (by simp only;rw[ho3];omega) fe.c.node;have X:=w12.Pb Ti;have pX:(B9 fe.c.node d.Au).length<=s'.1.Au.length:=by rw[<-ho3];exact Eo.length_le
   have aOy:(put (put V9 bi 3 u1) bi 2 u2)[h.length]?=_:=(CW lY).trans ((CW lY).trans aAd);have l9e:Bg (put (put V9 bi 3 u1) bi 2 u2) none (Pt h.length 9)=some (I g.node):=At.load ⟨_,aOy,rfl⟩;have r17:=ZM X.sA (by simp only;omega) g.node;have hli: -1<=Ax (Bq g.node) (B9 fe.c.node d.Au)/\Ax (Bq g.node) (B9 fe.c.node d.Au)<=(B9 fe.c.node d.Au).length:=by rcases B8 (q:=Bq g.node) (l:=B9 fe.c.node d.Au) with⟨h,_⟩|⟨n,h1,h2,_⟩<;>omega
   have add:=Tn (a:=Ax (Bq g.node) (B9 fe.c.node d.Au)) (b:=1) (by omega) (by omega);obtain⟨u3,r18,hu3⟩:=aNt X.sO (by simp only;omega) y (Ax (Bq g.node) (B9 fe.c.node d.Au)+1);have w14:=X.Pb hu3;simp only[abS,Nat.reduceLeDiff,↓reduceIte,B6,KG,l9d,r13.call,l3c,r14.call,l1,l2,hv3,l4,aOv.call,r16.call,l9e,r17.call,add,r18.call];have hE:BS.JN fe.c g.node an.node s'={d with a:=(BS.Dx d.a y.node (d.a.nd g.node).Bv).Ip g.node y.node 0,AW:=(Bs d.AW q).take (GL iG (Bs d.AW q).length)++{fe.c with node:=y.node}::(Bs d.AW q).drop (GL iG (Bs d.AW q).length),Au:=(B9 fe.c.node d.Au).take (HE (Ax (Bq g.node) (B9 fe.c.node d.Au)+1) (B9 fe.c.node d.Au).length)++y::(B9 fe.c.node d.Au).drop (HE (Ax (Bq g.node) (B9 fe.c.node d.Au)+1) (B9 fe.c.node d.Au).length)}:=by
    have hq':Fo fe.c.node d.AW=(q:Int):=by rw[aY];exact Ą
    unfold BS.JN;simp only
    rw[<-RJ,<-Q,<-hnw,hq',Bz,<-nu]
   rw[hE];refine⟨_,rfl,rfl,u3,u1,U,w14,aOw,YM (Ab _) ?_⟩;exact((((x8'.trans (EL (x9.trans H) h.length)).trans x11).trans (EL Cn h.length)).trans (EL Cn h.length)).trans (EL Cn h.length)
 obtain⟨r,h',hr,rfl,o',c',G',w',Ut,x'⟩:=PI.ret;rw[e];exact⟨h',o',c',G',hr,w',Ut,x'⟩
end
section
variable{h h':Ae}{bi a ai:Nat}{o c t:Aa}{G G' F:Nat->Prop}{b b':BS}{x:Int}{m:Nat}
variable{nm:Ad}{av:Aa}{l:List A9}{r:List Aa}{sp p:Int}{e:C9}{at_ mk last:Int}{anc far:Item}
def nz{blk anc:Int}{far i:Nat}{l:Int}{mk:Nat}:(BS.HF blk anc far i b l mk).1.Au.length<=b.Au.length:=by
 have h1:(Bs b.Au i).length<=b.Au.length:=CA.length_le;unfold BS.HF;simp only
 split;.exact h1
 .split;.exact h1
  .have RA:∀nm l p,(b.HL nm l 1 p).Au=b.Au:=λnm l p=>by unfold BS.HL;rw[if_pos Lm]
   simp only[RA,BY];exact Ab _
def cB{blk anc:Int}{far k m:Nat}:∀{c:Nat} {s:BS×Int×Nat},Cw s.1 (m+4*c)->Cw (BS.O2 blk anc far k c s).1 m/\(BS.O2 blk anc far k c s).1.Au.length<=s.1.Au.length
 |0,s,r=>⟨r.le (by omega),Ab _⟩
 |c+1,s,r=>by have d:=YL (blk:=blk) (anc:=anc) (far:=far) (i:=k+(c+1)) (l:=s.2.1) (mk:=s.2.2) (m:=m+4*c) (r.le (by omega));have h:=cB (blk:=blk) (anc:=anc) (far:=far) (k:=k) (m:=m) (c:=c) (s:=BS.HF blk anc far (k+(c+1)) s.1 s.2.1 s.2.2) d;exact⟨h.1,Bn h.2 nz⟩
def nL{fe:B2}{blk anc:Int}{s:BS×Int×Nat}(r:Cw s.1 (m+4))(Rb:fe.name.length<=1000/\Fx fe.Aq):Cw (BS.JN fe blk anc s) m/\(BS.JN fe blk anc s).Au.length<=s.1.Au.length+1:=by
 unfold BS.JN;simp only
 generalize qv:s.1.place anc=pb;have u:=r.IK (Oo (x:=s.2.1) (p:=pb.1) (bf:=pb.2));generalize RJ:({s.1 with a:=s.1.a.Gr s.2.1 pb.1 pb.2}:BS)=d at u;have kL:d.Au=s.1.Au:=by rw[<-RJ]
 have f:=Rc (m:=m+1) (nm:=fe.name) (l:=fe.Aq) (sp:=1) (p:=blk) (u.le (by omega)) Rb.2;have RA:(d.HL fe.name fe.Aq 1 blk).Au=d.Au:=by unfold BS.HL;rw[if_pos Lm]
 have q:(d.IJ fe.name fe.Aq 1).name.length<=1000:=TB Rb.1;generalize d.HL fe.name fe.Aq 1 blk=j at*;generalize d.IJ fe.name fe.Aq 1=n at*;have v:=f.IK ((RN (n:=n.node) (l:=(j.a.nd blk).Bv)).trans (K5 (p:=blk) (x:=n.node) (bf:=0)));have Nf:∀{U:Type} (l:List U) (k:Nat) (y:U),(l.take k++y::l.drop k).length=l.length+1/\∀z∈l.take k++y::l.drop k,z∈l\/z=y:=λl k y=>⟨by rw[Ai,AE,Av,A5];omega,λz hz=>by
  rcases Aj.1 hz with hz|hz
  .exact .inl (AZ hz)
  .rcases Aw.1 hz with rfl|hz
   .exact .inr rfl
   .exact .inl (Bc hz)⟩
 have hr:=Eo (n:=fe.node) (l:=j.Au);have hd:=CA (l:=j.AW) (k:=(Fo fe.node j.AW).toNat);have g:=v.le (m':=m) (by omega);refine⟨⟨g.n,g.at_,g.data,?_,?_,g.tm,λe he=>?_,λi hi=>?_⟩,?_⟩;.simp only[(Nf _ _ _).1];have:=hr.length_le;have:=f.Au;omega
 .simp only[(Nf _ _ _).1];have:=hd.length_le;have:=f.AW;omega
 .rcases(Nf _ _ _).2 e he with he|rfl
  .exact f.D0 e (hd.subset he)
  .exact Rb
 .rcases(Nf _ _ _).2 i hi with hi|rfl
  .exact f.o7 i (hr.subset hi)
  .exact q
 .simp only[(Nf _ _ _).1];have h1:=hr.length_le;have h2:=BQ List.length (RA.trans kL);omega
def YO(r:Cw b (m+4*b.Au.length+10))(nm:Ad):Cw (b.round nm).2 m/\(b.round nm).2.Au.length<=b.Au.length+1:=by
 have d:Cw b m:=r.le (by omega);unfold BS.round;simp only
 split
 .have key:(b.Dg nm).a=b.a/\List.Sublist (b.Dg nm).Au b.Au/\(b.Dg nm).AW=b.AW/\(b.Dg nm).tm=b.tm:=by
   unfold BS.Dg;split
   .split;.exact⟨rfl,IL.trans C5,rfl,rfl⟩
    .exact⟨rfl,BK _,rfl,rfl⟩
   .exact⟨rfl,BK _,rfl,rfl⟩
  exact⟨d.sub key.1 key.2.1 (by rw[key.2.2.1];exact BK _) (by rw[key.2.2.2];exact Ab _),Bn key.2.1.length_le (Ft _)⟩
 .rename_i hf;obtain⟨f,IZ,g⟩:=YN (Vb.1 hf);have À:b.AW.getD (D7 nm b.AW).toNat B2.zero=b.AW[f]:=by rw[g,Bz,AG,An IZ];rfl
  have Rb:=r.D0 _ (Ay IZ);rw[À];split;.exact⟨d.sub rfl (BK _) CA (Ab _),Ft _⟩
  .split;.exact⟨d,Ft _⟩
   .split;.exact⟨d.sub rfl IL CA (Ab _),Bn IL.length_le (Ft _)⟩
    .rename_i hk _ hfa;have hlt:(D6 b.AW[f].node b.Au).toNat-1 -(Ax (Bq b.AW[f].node) b.Au).toNat<=b.Au.length:=by
      rw[LF];split;.omega
      .unfold FX;split;.rename_i j hj;have:=(Li.1 hj).1;rw[A5] at this;omega
       .omega
     have h1:=cB (blk:=(b.Au.getD (D6 b.AW[f].node b.Au).toNat Item.zero).node) (anc:=(b.Au.getD ((Ax (Bq b.AW[f].node) b.Au).toNat-1) Item.zero).node) (far:=(D6 b.AW[f].node b.Au).toNat) (k:=(Ax (Bq b.AW[f].node) b.Au).toNat) (m:=m+4) (c:=(D6 b.AW[f].node b.Au).toNat-1 -(Ax (Bq b.AW[f].node) b.Au).toNat) (s:=(b,(b.Au.getD (D6 b.AW[f].node b.Au).toNat Item.zero).node,(D7 nm b.AW).toNat)) (r.le (by omega));have h2:=nL (fe:=b.AW[f]) (blk:=(b.Au.getD (D6 b.AW[f].node b.Au).toNat Item.zero).node) (anc:=(b.Au.getD ((Ax (Bq b.AW[f].node) b.Au).toNat-1) Item.zero).node) h1.1 Rb;exact⟨h2.1,Bn h2.2 (Nat.succ_le_succ h1.2)⟩
def Qw:∀{n:Nat} {b:BS} {k:Nat},b.Au.length<=k->Cw b (m+n*(4*(k+n)+10))->Cw (BS.Hg n b nm) m/\(BS.Hg n b nm).Au.length<=k+n
 |0,b,k,hk,r=>⟨r.le (by omega),hk⟩
 |n+1,b,k,hk,r=>by
  have e:(n+1)*(4*(k+(n+1))+10)=n*(4*(k+1+n)+10)+(4*(k+(n+1))+10):=by rw[BD,Ez,show k+(n+1)=k+1+n by omega]
  rw[e] at r;have h1:=YO (m:=m+n*(4*(k+1+n)+10)) (r.le (by omega)) nm;unfold BS.Hg;simp only
  split;.have h2:=Qw (n:=n) (k:=k+1) (by omega) h1.1;exact⟨h2.1,by omega⟩
  .exact⟨h1.1.le (by omega),by omega⟩
def aOz(w:BX h bi a o c t G b)(hc:Ec b.AW c)(ok:Fa b)(rm:Cw b (m+8*(4*(b.Au.length+8)+10)))(nm:Ad):
  ∃h' o' c' G',Cj cx 149 [Pt bi 0,.str nm] h (.tuple []) h'/\BX h' bi a o' c' t G' (b.Du nm)/\Ec (b.Du nm).AW c'/\Ey h (BN bi G) h' (BN bi G'):=by
 have ho:=rm.Au;have H:=aFo w rm;have em:Az (.Cl 1) [.str nm]=some (.sl 1 ([nm].map B1)):=Ef (ws:=[nm]) rfl (by simp);have r2:Cj cx 155 [.agg (En b.Au).row,.sl 1 ([nm].map B1)] h (.bool (AA [nm] (En b.Au))) h:=mz (ws:=[nm]) CO (by simp) _ h;have N:=hc.at w rm (En b.Au).node;have L:b.Gs.AW=b.AW:=by unfold BS.Gs;split<;>rfl
 by_cases h1:AA [nm] (En b.Au)=true/\Fo (En b.Au).node b.AW<0
 .obtain⟨h2,v,R,s,q⟩:=aJd w rm;have e:b.Du nm=b.Gs:=by unfold BS.Du;rw[if_pos h1]
  rw[e];refine⟨h2,v,c,G,?_,s,by rw[L];exact hc,q⟩;rw[h1.1] at r2;rw[Ac,fW,ŕ];simp only[abS,KG,(Iv w).call,H.call,em,r2.call,N.call,h1.2,R.call]
 have e:b.Du nm=BS.Hg 8 b nm:=by unfold BS.Du;rw[if_neg h1]
 rw[e];have PI:Ev cx 149 [Pt bi 0,.str nm] h λr h'=>r= .tuple []/\∃o' c' G',BX h' bi a o' c' t G' (BS.Hg 8 b nm)/\Ec (BS.Hg 8 b nm).AW c'/\Ey h (BN bi G) h' (BN bi G'):=by
  unfold Ev;rw[fW,ŕ];have Jd:∀(Q:KE) (k:F6->List Aa->IT),(∀x vs h1,(x= .exit 0\/x= .ret)->(∃o' c' G',BX h1 bi a o' c' t G' (BS.Hg 8 b nm)/\Ec (BS.Hg 8 b nm).AW c'/\Ey h (BN bi G) h1 (BN bi G'))->W cx (k x vs) Q h1)->
    W cx (.loop 5 [I 0] (λd=> .op (.int .lss) [g d 0,I 8] λE=> .AJ E (.call 212 [Pt bi 0,.str nm] λD=> .op (.un .not) [D] λC=> .AJ C (.ret .ret [g d 0]) (.op (.int .add) [g d 0,I 1] λB=> .ret .normal [B])) (.ret (.exit 0) [g d 0])) k) Q h:=by
   intro Q k hk;refine BO (λn:Nat=>[I ((8 -n:Nat):Int)]) (λn h1=>n<=8/\∃K y z b1,BX h1 bi a K y t z b1/\Ec b1.AW y/\Fa b1/\Cw b1 (m+n*(4*(b.Au.length+8)+10))/\b1.Au.length<=b.Au.length+(8 -n)/\BS.Hg 8 b nm=BS.Hg n b1 nm/\Ey h (BN bi G) h1 (BN bi z)) (λn=>n) 8 rfl ⟨Ab _,o,c,G,b,w,hc,ok,rm,by omega,rfl,.refl⟩ ?_;rintro n h1 ⟨hn,K,y,z,b1,M,Zx,Zl,f,jV,j,A⟩;cases n with
   |zero=>simp only[abS,show¬((8 -0:Nat):Int)<8 by decide];exact hk _ _ _ (.inl rfl) ⟨K,y,z,by rw[j];exact M,by rw[j];exact Zx,A⟩
   |succ n=>
    have hsp:(n+1)*(4*(b.Au.length+8)+10)=n*(4*(b.Au.length+8)+10)+(4*(b.Au.length+8)+10):=by rw[BD,Ez]
    rw[hsp] at f;have aJu:Cw b1 (m+n*(4*(b.Au.length+8)+10)+4*b1.Au.length+10):=f.le (by omega);obtain⟨h2,v,O,P,u,s,LX,q⟩:=aOi M Zx Zl aJu nm;obtain⟨tH,lJ⟩:=YO aJu nm;have J:=(Ys (nm:=nm) Zl).1;have hlt:((8 -(n+1):Nat):Int)<8:=by omega
    have inc:Az (.int .add) [I ((8 -(n+1):Nat):Int),I 1]=some (I ((8 -n:Nat):Int)):=by have:=CI (n:=8 -(n+1)) (by omega);rwa [show 8 -(n+1)+1=8 -n by omega] at this
    have i:BS.Hg (n+1) b1 nm=if(b1.round nm).1 then BS.Hg n (b1.round nm).2 nm else(b1.round nm).2:=rfl
    cases hr:(b1.round nm).1 with
    |true=>rw[hr] at u i;simp only[abS,hlt,u.call,inc];exact Bk.next n rfl ⟨by omega,v,O,P,_,s,LX,J,tH,by omega,j.trans i,A.trans q⟩ (by omega)
    |false=>rw[hr] at u i;simp only[abS,hlt,u.call];exact hk _ _ _ (.inr rfl) ⟨v,O,P,by rw[j,i];exact s,by rw[j,i];exact LX,A.trans q⟩
  by_cases h2:AA [nm] (En b.Au)=true
  .have h3:¬Fo (En b.Au).node b.AW<0:=λh=>h1 ⟨h2,h⟩;rw[h2] at r2;simp only[abS,KG,(Iv w).call,H.call,em,r2.call,N.call,h3];refine Jd _ _ ?_;rintro x vs h1 (rfl|rfl) ⟨o',c',G',a1,a2,a3⟩;.simp only[Ce];exact⟨_,rfl,rfl,o',c',G',a1,a2,a3⟩
   .simp only[Ce];exact⟨_,rfl,rfl,o',c',G',a1,a2,a3⟩
  .have h2:AA [nm] (En b.Au)=false:=by simpa using h2
   rw[h2] at r2;simp only[abS,KG,(Iv w).call,H.call,em,r2.call];refine Jd _ _ ?_;rintro x vs h1 (rfl|rfl) ⟨o',c',G',a1,a2,a3⟩;.simp only[Ce];exact⟨_,rfl,rfl,o',c',G',a1,a2,a3⟩
   .simp only[Ce];exact⟨_,rfl,rfl,o',c',G',a1,a2,a3⟩
 obtain⟨r,h',hr,rfl,o',c',G',w',Ut,x'⟩:=PI.ret;exact⟨h',o',c',G',hr,w',Ut,x'⟩
end
structure BOp where
 k:Int
 name:Ad
 Aq:List A9
 AX:Int
 a:Int
 b:Bool
 s:Ad
 r:Int
 n:Int
section
variable{b:BS}{q:BOp}{m j:Nat}
def iH(o:Fa b):Fa {b with AW:=b.AW++[B2.zero]}:=by have:=o.aDd (e:=B2.zero) (k:=b.AW.length) (.inl rfl) (.inl rfl);rw[Bf,E7] at this;exact this
def Cw.di{k m:Nat}{h:Int}{x:HO}(r:Cw b (m+k))(h1:x.Aq.length<=(b.a.nd h).Aq.length+k\/x.Aq.length<=1000)(h2:x.data.length<=(b.a.nd h).data.length+k\/x.data.length<=100000):Cw {b with a:=b.a.set h x} m:=by
 have hn:(b.a.set h x).n.length=b.a.n.length:=by have:=ľ (A:=b.a) (h:=h) (x:=x);unfold Ar.len at this;omega
 have c:=r.le (m':=m) (by omega);have rn:=r.n;refine⟨by simp only;rw[hn];exact c.n,λy=>?_,λy=>?_,c.Au,c.AW,c.tm,c.D0,c.o7⟩
 .simp only;rw[Ko];split;.rename_i d;have:=r.at_ h;omega
  .exact c.at_ y
 .simp only;rw[Ko];split;.have:=r.data h;omega
  .exact c.data y
def nM{m:Nat}{s:Ad}{p bf:Int}(r:Cw b (m+5))(hs:s.length<=4):Cw {b with a:=BS.Sp b.a s p bf} m:=by
 have N5:∀d,Cw {b with a:=(b.a.add {kind:=5,CB:=d,data:=s}).Gr (b.a.len+1) p bf} m:=λd=>((r.le (m':=m+1) (by omega)).F8 (LJ (AU _) (by simp only;omega))).IK Oo
 have c:=r.le (m':=m) (by omega);unfold BS.Sp;split
 .split
  .split;.exact Cw.di (k:=5) r (.inl (by simp only;omega)) (.inl (by simp only[Ai];omega))
   .exact N5 _
  .exact N5 _
 .exact c
def Qx{m:Nat}{s:Ad}{p bf:Int}(r:Cw b (m+5))(hs:s.length<=100000):Cw {b with a:=BS.I5 b.a s p bf} m:=by
 unfold BS.I5;split;.exact((r.le (m':=m+1) (by omega)).F8 (LJ (AU _) hs)).IK Oo
 .exact r.le (by omega)
end
section
variable{b:BS}{q:BOp}{m j:Nat}{nm:Ad}
def tL{l:List A9}{x:Int}(r:Cw b (m+1000))(hl:l.length<=1000):Cw (b.GN l x) m:=by
 unfold BS.GN;split;.refine Cw.di (k:=1000) r (.inl ?_) (.inl (by simp only;omega));have:=Ts (l:=(b.a.nd x).Aq++BS.plain l);rw[Ai,BS.plain,Ao] at this;unfold BS.plain;simp only;omega
 .exact r.le (by omega)
def cC:∀{l:List B2} {b:BS},(BS.JL l b).2.Au.length<=b.Au.length+l.length/\(BS.JL l b).2.AW=b.AW/\(BS.JL l b).1.length=l.length/\∀e∈(BS.JL l b).1,∃a∈l,e.name=a.name/\e.Aq=a.Aq
 |[],b=>⟨by simp[BS.JL],rfl,rfl,λe he=>by simp[BS.JL] at he⟩
 |e::l,b=>by
  obtain⟨h1,h2,h3,f⟩:=cC (l:=l) (b:=b.CX e.name e.Aq 1);have h:(b.CX e.name e.Aq 1).Au.length<=b.Au.length+1:=by
   unfold BS.CX;rw[if_pos Lm];simp only
   have:(b.HL e.name e.Aq 1 (b.place 0).1).Au=b.Au:=by unfold BS.HL;rw[if_pos Lm]
   rw[Ai,AR];first|(rw[this];exact Ab _)|exact Ab _
  rw[BS.JL];refine⟨by simp only[AE];omega,by simp only;rw[h2,Gi],by simp only[AE,h3],λg he=>?_⟩;rcases Aw.1 he with rfl|he
  .exact⟨e,by simp,rfl,rfl⟩
  .obtain⟨a,d,c⟩:=f g he;exact⟨a,by simp[d],c⟩
def iI(r:Cw b (m+4*b.AW.length)):Cw b.AO m/\b.AO.Au.length<=b.Au.length+b.AW.length/\b.AO.AW.length=b.AW.length:=by
 have hk:=iA (b:=b);have a:=cA (l:=b.AW.drop b.On) (b:=b) (m:=m) (r.le (by rw[A5];omega)) λe he=>r.D0 e (Bc he);obtain⟨h1,h2,h3,g⟩:=cC (l:=b.AW.drop b.On) (b:=b);rw[A5] at h1 h3;have hl:b.AO.AW.length=b.AW.length:=by unfold BS.AO;simp only[Ai,Av,h3];omega
 refine⟨⟨a.n,a.at_,a.data,a.Au,?_,a.tm,λe he=>?_,a.o7⟩,by unfold BS.AO;simp only;omega,hl⟩;.rw[hl];have:=r.AW;omega
 .unfold BS.AO at he;simp only at he;rcases Aj.1 he with he|he
  .exact r.D0 e (AZ he)
  .obtain⟨h,f,d,c⟩:=g e he;rw[d,c];exact r.D0 h (Bc f)
def nN{blk anc:Int}{far k:Nat}:∀{c:Nat} {s:BS×Int×Nat},(BS.O2 blk anc far k c s).1.AW.length<=s.1.AW.length
 |0,s=>Ab _
 |c+1,s=>by
  refine Bn (nN (c:=c)) ?_;unfold BS.HF;simp only
  split;.exact Ab _
  .split;.exact CA.length_le
   .have:∀nm l p,(s.1.HL nm l 1 p).AW=s.1.AW:=λnm l p=>by unfold BS.HL;rw[if_pos Lm]
    simp only[this,BY];exact Ab _
def n_:(b.round nm).2.AW.length<=b.AW.length+1:=by
 unfold BS.round;simp only
 split
 .have:(b.Dg nm).AW=b.AW:=by
   unfold BS.Dg;split;.split<;>rfl
   .rfl
  rw[this];omega
 .split;.exact Bn CA.length_le (Ft _)
  .split;.exact Ft _
   .split;.exact Bn CA.length_le (Ft _)
    .unfold BS.JN;simp only
     generalize hs:BS.O2 _ _ _ _ _ _=s;have h1:s.1.AW.length<=b.AW.length:=by rw[<-hs];exact nN
     have:∀(a:BS) nm l p,(a.HL nm l 1 p).AW=a.AW:=λa nm l p=>by unfold BS.HL;rw[if_pos Lm]
     simp only[this,Ai,AE,Av,A5];have h2:∀k,(Bs s.1.AW k).length<=s.1.AW.length:=λk=>CA.length_le;refine Bn (m:=(Bs s.1.AW (Fo (b.AW.getD (D7 nm b.AW).toNat B2.zero).node s.1.AW).toNat).length+1) ?_ (Nat.succ_le_succ (Bn (h2 _) h1));omega
def YP:∀{n:Nat} {b:BS},(BS.Hg n b nm).AW.length<=b.AW.length+n
 |0,b=>Ab _
 |n+1,b=>by
  have h:=n_ (b:=b) (nm:=nm);unfold BS.Hg;simp only
  split;.have:=YP (n:=n) (b:=(b.round nm).2);omega
  .omega
structure Sz(b:BS)(j:Nat):Prop where
 rm:Cw b (5000000*j)
 Au:b.Au.length+1200*j<=125000
 AW:b.AW.length+10*j<=1100
end
section
variable{h h':Ae}{bi a:Nat}{o c t:Aa}{G G' F:Nat->Prop}{b:BS}{x:Int}{m j:Nat}{q:BOp}
variable{nm:Ad}{av:Aa}{l:List A9}{r:List Aa}{sp p:Int}
def aOA(i:Item)(h:Ae):Cj cx 11 [.agg i.row] h (.agg i.row) h:=by rw[Ac,aDf,t11,Item.row];simp only[abS,Nat.reduceLeDiff,↓reduceIte,B6]
end
def UU:∀l:List Int,(l.map CY).flatten=l.map (Aa.int .i64)
 |[]=>rfl
 |x::l=>by simp[CY,UU l]
def arD(q:Bool):Ar:={n:=[{kind:=1,CB:=1,DH:=q}],i:=[0]}
def Ic(q:Bool):BS:={a:=arD q,CB:=1,Au:=[],AW:=[],mode:=1,GM:=0,tm:=[],head:=0,FJ:=0,KH:=false,ctx:=Item.zero,fs:=true,D3:=false,mb:=[],skip:=false,sw:=0,stop:=false}
structure Ã where
 KH:Bool
 AX:Int
 name:Ad
 Aq:List A9
 DH:Bool
 FJ:Bool
def aFC(q:Bool):Fl (arD q) 0:=by
 have h0:Fl (⟨[],[]⟩:Ar) 0:=by
  have hn:∀h,¬(⟨[],[]⟩:Ar).has h:=λh d=>by have h1:=d.1;have h2:=d.2;simp at h2;omega
  exact⟨rfl,λh d=>absurd d (hn h),λh d=>absurd d (hn h),λh d=>absurd d (hn h),λh d=>absurd d (hn h),λh d=>absurd d (hn h),λh d=>absurd d (hn h),λh d=>absurd d (hn h),λh d=>absurd d (hn h),λh d=>absurd d (hn h),⟨λ_=>0,λh d=>absurd d (hn h)⟩⟩
 have hx:rU {kind:=1,CB:=1,DH:=q}:=by constructor<;>simp[Di,Gu]
 exact Qm h0 hx (.inl ⟨rfl,rfl⟩) rfl rfl rfl rfl (λh=>absurd h.1 (show¬(1:Int)=4 by decide))
def iJ(q:Bool):Fa (Ic q):=by refine⟨aFC q,⟨⟨Mf 1,Mf 1⟩,rfl⟩,λi hi=>(nomatch hi),ú,λe he=>(nomatch he),ú⟩
def iK{q:Bool}(x:Int):(Ic q).a.nd x=if x=1 then{kind:=1,CB:=1,DH:=q} else{}:=by
 unfold Ar.nd;by_cases h:x=1;.subst h;rfl
 .rw[if_neg h,if_neg];intro d;have h1:=d.1;have h2:=d.2;simp[Ic,arD] at h2;omega
def iL(q:Bool):Sz (Ic q) 101:=by
 refine⟨⟨by simp[Ic,arD],λx=>?_,λx=>?_,by simp[Ic],by simp[Ic],by simp[Ic],λe he=>(nomatch he),λi hi=>(nomatch hi)⟩,by simp[Ic],by simp[Ic]⟩;.rw[iK];split<;>simp
 .rw[iK];split<;>simp
section
variable{h h':Ae}{bi a:Nat}{o c t:Aa}{G G' F:Nat->Prop}{b:BS}{x:Int}{m j:Nat}{q:BOp}
variable{nm:Ad}{av:Aa}{l:List A9}{r:List Aa}{sp p:Int}
def aOB(h:Ae)(q:Bool):∃h1 h',Cj cx 38 [] h (Pt h.length 0) h1/\Cj cx 40 [Pt h.length 0,.bool q] h1 (I 1) h'/\PA h' h.length (h.length+1) none [⟨{kind:=1,CB:=1,DH:=q},.slnil,.slnil,rfl⟩] (arD q)/\h'=h++[.cells [.C7 (h.length+1) 0 1 13,.map none],.cells [I 1,I 0,.slnil,I 1,I 0,S [],.slnil,S [],S [],S [],.bool q,I 0,I 0]]:=by
 have K:AN=140737488355328:=rfl;have g1:∀u:Ae,Gt u 13 168 .slnil (.sl 13 [[I 1,I 0,.slnil,I 0,I 0,S [],.slnil,S [],S [],S [],.bool q,I 0,I 0]])=some (u++[.cells [I 1,I 0,.slnil,I 0,I 0,S [],.slnil,S [],S [],S [],.bool q,I 0,I 0]],.C7 u.length 0 1 13):=λu=>rfl;obtain⟨d,e⟩:∃d,d=h++[EE.cells [.slnil,.map none]]:=⟨_,rfl⟩;have A:d[h.length]?=some (.cells [.slnil,.map none]):=by rw[e];simp
 have jV:d.length=h.length+1:=by rw[e];simp
 have g2:=g1 d;rw[jV] at g2;have B:At d h.length 0 .slnil:=⟨_,A,rfl⟩;have w:(d++[EE.cells [I 1,I 0,.slnil,I 0,I 0,S [],.slnil,S [],S [],S [],.bool q,I 0,I 0]])[h.length]?=some (.cells [.slnil,.map none]):=(Ah (by omega)).trans A;have J:(d++[EE.cells [I 1,I 0,.slnil,I 0,I 0,S [],.slnil,S [],S [],S [],.bool q,I 0,I 0]])[h.length+1]?=some (.cells [I 1,I 0,.slnil,I 0,I 0,S [],.slnil,S [],S [],S [],.bool q,I 0,I 0]):=by rw[<-jV];simp
 have lJ:(d++[EE.cells [I 1,I 0,.slnil,I 0,I 0,S [],.slnil,S [],S [],S [],.bool q,I 0,I 0]]).length=h.length+2:=by rw[Ai,jV];rfl
 have s:d++[EE.cells [I 1,I 0,.slnil,I 0,I 0,S [],.slnil,S [],S [],S [],.bool q,I 0,I 0]]=h++[.cells [.slnil,.map none],.cells [I 1,I 0,.slnil,I 0,I 0,S [],.slnil,S [],S [],S [],.bool q,I 0,I 0]]:=by rw[e,AT];rfl
 generalize d++[EE.cells [I 1,I 0,.slnil,I 0,I 0,S [],.slnil,S [],S [],S [],.bool q,I 0,I 0]]=g at*;have t2:At g h.length 0 .slnil:=⟨_,w,rfl⟩;have D:=t2.store (u:= .C7 (h.length+1) 0 1 13) rfl;have z:=J2 (k:=0) (v:= .C7 (h.length+1) 0 1 13) w;have n:(put g h.length 0 (.C7 (h.length+1) 0 1 13))[h.length+1]?=_:=(CW (by omega)).trans J;have N:put g h.length 0 (.C7 (h.length+1) 0 1 13)=h++[.cells [.C7 (h.length+1) 0 1 13,.map none],.cells [I 1,I 0,.slnil,I 0,I 0,S [],.slnil,S [],S [],S [],.bool q,I 0,I 0]]:=by rw[Io w,s,BI _ _ (Ab _),DM];rfl
 generalize put g h.length 0 (.C7 (h.length+1) 0 1 13)=f at*;have l3:Bg f none (Pt h.length 0)=some (.C7 (h.length+1) 0 1 13):=At.load ⟨_,z,rfl⟩;have M:Az (.F0 13) [.C7 (h.length+1) 0 1 13,I 0]=some (.ptr (some (h.length+1,0))):=Gy (k:= .i64) (i:=0) (by decide);have t3:At f (h.length+1) 3 (I 0):=⟨_,n,rfl⟩;have C:=t3.store (u:=I 1) rfl;have O:(put f (h.length+1) 3 (I 1))[h.length]?=_:=(CW (by omega)).trans z;have H:=J2 (k:=3) (v:=I 1) n;have L:put f (h.length+1) 3 (I 1)=h++[.cells [.C7 (h.length+1) 0 1 13,.map none],.cells [I 1,I 0,.slnil,I 1,I 0,S [],.slnil,S [],S [],S [],.bool q,I 0,I 0]]:=by rw[Io n,N,BI _ _ (by omega),T4];rfl
 refine⟨d,put f (h.length+1) 3 (I 1),?_,?_,⟨rfl,rfl,O,H,?_,?_,.inl ⟨rfl,λk=>?_⟩⟩,L⟩;.rw[Ac,yg,t38];simp only[abS,↓reduceIte,B6,e]
 .have E:Cj cx 56 [Pt h.length 0,.agg [I 1,I 0,.slnil,I 0,I 0,S [],.slnil,S [],S [],S [],.bool q,I 0,I 0]] d (I 1) f:=by rw[Ac,sL,t56];simp only[Ce,Nat.reduceLeDiff,↓reduceIte,B6,eI,B.load,show Az (.Cl 13) [.agg [I 1,I 0,.slnil,I 0,I 0,S [],.slnil,S [],S [],S [],.bool q,I 0,I 0]]=some (.sl 13 [[I 1,I 0,.slnil,I 0,I 0,S [],.slnil,S [],S [],S [],.bool q,I 0,I 0]]) from rfl,g2,D,l3,show Az (.len false) [.C7 (h.length+1) 0 1 13]=some (I 1) from rfl]
  have r2:Cj cx 57 [Pt h.length 0,I 1] f (.ptr (some (h.length+1,0))) f:=by rw[Ac,sM,t57];simp only[Ce,eI,l3,show Az (.int .sub) [I 1,I 1]=some (I 0) from rfl,M]
  rw[Ac,sJ,t40];simp only[abS,Nat.reduceLeDiff,↓reduceIte,B6,E.call,r2.call,C]
 .intro p hp;rw[Be] at hp;subst hp;exact .inl ⟨rfl,rfl⟩
 .simp[FH,HV]
 .unfold Ar.inr;split
  .rename_i y;have h1:=y.1;have h2:=y.2;simp[arD] at h2;have:k=1:=by omega
   subst this;rfl
  .rfl
def aOD(h:Ae)(q:Bool):∃h1 h2 h' bi G,Cj cx 38 [] h (Pt h.length 0) h1/\Cj cx 40 [Pt h.length 0,.bool q] h1 (I 1) h2/\Cj cx 39 [Pt h.length 0,I 1] h2 (Pt bi 0) h'/\BX h' bi h.length .slnil .slnil .slnil G (Ic q)/\Ey h (λ_=>False) h' (BN bi G):=by
 obtain⟨h1,h2,k,r2,d,g⟩:=aOB h q;obtain⟨r,t,f,K,V,rfl,s,n,_⟩:=aFi (x:=1) d ((iL q).rm.WB) ((iL q).rm.WB.Bv (iJ q).ok 1);have hx:(arD q).has 1:=⟨Mf 1,Mf 1⟩;have e:(arD q).nd 1={kind:=1,CB:=1,DH:=q}:=(iK (q:=q) 1).trans (if_pos rfl);rw[if_pos hx,e] at f;have wt:PA (h2++t) _ _ _ _ _:=d.Ep λi hi=>Ah (d.lt i hi);refine⟨h1,h2,h2++t++[.cells (Qu h.length (Ic q) .slnil .slnil .slnil)],(h2++t).length,λi=>i∈FH h.length (h.length+1) none [⟨{kind:=1,CB:=1,DH:=q},.slnil,.slnil,rfl⟩],k,r2,?_,⟨by simp,.inr ⟨rfl,rfl⟩,.inr ⟨rfl,rfl⟩,?_,?_⟩,?_⟩;.rw[Ac,yh,t39];simp only[abS,Nat.reduceLeDiff,↓reduceIte,B6,f.call,aaS];exact⟨λh=>absurd rfl h,λ_=>⟨λh=>absurd rfl h,λ_=>rfl⟩⟩
 .exact⟨_,_,_,wt.Ep λi hi=>Ah (wt.lt i hi),λi=>rk⟩
 .intro hm;exact absurd (wt.lt _ hm) (Dw _)
 .have EC:h.length<=h2.length:=by rw[g];simp
  refine⟨by simp;omega,λi hi _=>?_,λi hi=> .inr ?_⟩;.rw[AT,Ah (by omega),g,Ah hi]
  .rcases hi with rfl|hi
   .simp;omega
   .simp[FH,HV] at hi;omega
end
def PC(h:Ae)(lo:Nat)(v:Aa)(l:List Int):Prop:=(v= .slnil/\l=[])\/∃id,lo<=id/\v= .C7 id 0 l.length 1/\h[id]?=some (.cells (l.map (Aa.int .i64)))
def cD(h:Ae)(lo:Nat)(v:Aa)(l:List B2):Prop:=(v= .slnil/\l=[])\/∃id,∃fs:List C9,lo<=id/\v= .C7 id 0 fs.length 3/\h[id]?=some (.cells (fs.map C9.row).flatten)/\fs.map (·.c)=l
section
variable{h h':Ae}{lo lo':Nat}{v:Aa}
def PC.cells{l:List Int}(d:PC h lo v l):v.cells=[v]:=by rcases d with⟨rfl,_⟩|⟨id,_,rfl,_⟩<;>rfl
def PC.Ep{l:List Int}(d:PC h lo v l)(hf:∀i,lo<=i->i<h.length->h'[i]?=h[i]?):PC h' lo v l:=by
 rcases d with d|⟨id,h1,h2,h3⟩
 .exact .inl d
 .exact .inr ⟨id,h1,h2,by rw[hf id h1 (Af.1 h3).1];exact h3⟩
def cD.Ep{l:List B2}(d:cD h lo v l)(hf:∀i,lo<=i->i<h.length->h'[i]?=h[i]?):cD h' lo v l:=by
 rcases d with d|⟨id,fs,h1,h2,h3,e⟩
 .exact .inl d
 .exact .inr ⟨id,fs,h1,h2,by rw[hf id h1 (Af.1 h3).1];exact h3,e⟩
def PC.YF{l:List Int}(d:PC h lo v l):UQ h v l:=by
 rcases d with⟨rfl,rfl⟩|⟨id,_,rfl,hc⟩
 .exact⟨rfl,λk hk=>by simp at hk⟩
 .refine⟨rfl,λk hlt=>⟨Pt id k,by have:=Gy (id:=id) (z:=1) (k:= .i64) hlt;rwa [Gm] at this,?_⟩⟩;simp only[Bg,hc,FQ];simp[hlt]
def aJv{h u:Ae}{V:Aa}{L:List Int}(j:PC (h++u) h.length V L)(hb:L.length<=1000000000)(x:Int):∃d g,Gt (h++u) 1 8 V (.sl 1 [[I x]])=some (h++d,g)/\PC (h++d) h.length g (L++[x]):=by
 have i:AN=140737488355328:=rfl;rcases j with⟨rfl,rfl⟩|⟨id,Iy,rfl,hc⟩
 .exact⟨u++[.cells [I x]],.C7 (h++u).length 0 1 1,by rw[<-AT];rfl,.inr ⟨(h++u).length,by simp,rfl,by simp⟩⟩
 .have hr:∀r∈L.map CY,r.length=1:=ML (f:=CY) (λ_=>rfl) L;have Ut:(h++u)[id]?=some (.cells (L.map CY).flatten):=by rw[UU];exact hc
  have hg:=OW (b:=8) (As:=L.map CY) (r2:=[[I x]]) (v:= .sl 1 [[I x]]) hr (by decide) Ut .mk (by simp) (by rw[Ao];simp;omega);rw[Ao] at hg;have e:(h++u).set id .DD++[EE.cells (L.map CY++[[I x]]).flatten]=h++(u.set (id-h.length) .DD++[.cells ((L++[x]).map (Aa.int .i64))]):=by rw[BI _ _ Iy,AT,Ld,UU,Cb];rfl
  rw[e] at hg;have lJ:(h++(u.set (id-h.length) EE.DD++[.cells ((L++[x]).map (Aa.int .i64))]))=(h++u.set (id-h.length) EE.DD)++[.cells ((L++[x]).map (Aa.int .i64))]:=by rw[AT]
  have wD:(h++u.set (id-h.length) EE.DD).length=(h++u).length:=by simp
  refine⟨_,_,hg,.inr ⟨(h++u).length,by simp,by simp,?_⟩⟩;rw[lJ,<-wD,Bi (Ab _),DM];rfl
end
structure SS where
 mode:Int
 GM:Int
 tm:List Int
 Au:List Int
 AW:List B2
 head:Int
 FJ:Int
 fs:Bool
 D3:Bool
 mb:Ad
 skip:Bool
 sw:Int
 stop:Bool
def BS.Ug(b:BS):SS:=⟨b.mode,b.GM,b.tm,b.Au.map Item.node,b.AW,b.head,b.FJ,b.fs,b.D3,b.mb,b.skip,b.sw,b.stop⟩
def RQ(s:SS)(t o c:Aa):List Aa:=[I s.mode,I s.GM,t,o,c,I s.head,I s.FJ,.bool s.fs,.bool s.D3,.str s.mb,.bool s.skip,I s.sw,.bool s.stop]
structure Qy(h:Ae)(lo:Nat)(s:SS)(t o c:Aa):Prop where
 t:Hh s.tm t
 o:PC h lo o s.Au
 c:cD h lo c s.AW
section
variable{h h':Ae}{bi a lo:Nat}{o c t:Aa}{G G' F:Nat->Prop}{b:BS}{x:Int}{m:Nat}
def Qy.Ep{s:SS}(w:Qy h lo s t o c)(hf:∀i,lo<=i->i<h.length->h'[i]?=h[i]?):Qy h' lo s t o c:=⟨w.t,w.o.Ep hf,w.c.Ep hf⟩
def tM{h:Ae}{n:Nat}(hn:n<=1000000000):SP h 3 48 [I 0,S [],.slnil] (I (n:Int)) (I (n:Int))=some (h++[.cells (List.replicate n [I 0,S [],.slnil]).flatten],.C7 h.length 0 n 3):=by
 have hm:AN=140737488355328:=rfl;unfold SP;simp only
 rw[if_pos ⟨by omega,by omega,by omega,rfl⟩];rfl
def aOF(w:BX h bi a o c t G b)(hc:Ec b.AW c)(rm:Cw b m):∃t' o' c' u,Cj cx 16 [Pt bi 0] h (.agg (RQ b.Ug t' o' c')) (h++u)/\Qy (h++u) h.length b.Ug t' o' c':=by
 have P:AN=140737488355328:=rfl;have ho:=rm.Au;have fE:=rm.AW;have ć:=rm.tm;obtain⟨t',U,I3⟩:=ź w.t (by omega) h;have B:t'.cells=[t']:=Br.cells I3;obtain⟨fs,Lx,D⟩:=hc;have IZ:b.AW.length=fs.length:=by rw[<-Lx,Ao]
 have s:=Br.Fk w.o;have PI:Ev cx 16 [Pt bi 0] h λr h'=>∃t' o' c' u,r= .agg (RQ b.Ug t' o' c')/\h'=h++u/\Qy (h++u) h.length b.Ug t' o' c':=by
  unfold Ev;rw[aDj,t16];simp only[abS,Nat.reduceLeDiff,↓reduceIte,B6,(Iv w).call,w.ld,Qu,U.call,Dn,B,s];refine EK (i:=0) (λz:Aa×Nat=>[.agg [I b.mode,I b.GM,t',z.1,.slnil,I b.head,I b.FJ,.bool b.fs,.bool b.D3,.str b.mb,.bool b.skip,I b.sw,.bool b.stop],I (z.2:Int)]) (λz h1=>z.2<=b.Au.length/\∃u,h1=h++u/\PC (h++u) h.length z.1 ((b.Au.take z.2).map Item.node)) (λz=>b.Au.length-z.2) (λz h1=>∃u,h1=h++u/\PC (h++u) h.length z.1 (b.Au.map Item.node)) (.slnil,0) rfl ⟨AU _,[],by simp,.inl ⟨rfl,by simp⟩⟩ ?_ ?_
  .rintro⟨V,n⟩ h1 ⟨hn,u,rfl,l⟩;simp only at hn l;have Q:=l.cells;rcases A6 n b.Au.length with hlt|HK
   .have q:=Br.Dl (k:= .i64) w.o hlt;rw[Item.row] at q;obtain⟨J,Y,g1,j⟩:=aJv l (by rw[Ao,Av];omega) b.Au[n].node;have g:=j.cells;have em:Az (.Cl 1) [I b.Au[n].node]=some (.sl 1 [[I b.Au[n].node]]):=rfl;simp only[abS,Nat.reduceLeDiff,↓reduceIte,show(n:Int)<(b.Au.length:Int) by omega,q,em,g1,g,CI (show n<9223372036854775807 by omega)];exact .next (Y,n+1) rfl ⟨hlt,J,rfl,by rw[AV hlt,Cb];exact j⟩ (by simp only;omega)
   .rw[A7 HK] at l;simp only[abS,↓reduceIte,show¬(n:Int)<(b.Au.length:Int) by omega];exact .Jd (V,n) rfl ⟨u,rfl,l⟩
  .rintro⟨O,Z⟩ h1 ⟨u,rfl,p⟩;simp only at p;have R:=p.cells;have C:=w.J9 (u:=u);have A:=C.l3;have lc:=Br.Fk D;simp only[abS,↓reduceIte,A,lc];refine pF (tM (h:=h++u) (n:=fs.length) (by omega)) ?_;obtain⟨d,f⟩:∃d,d=h++u:=⟨_,rfl⟩;rw[<-f] at p⊢;have X:(d++[EE.cells (List.replicate fs.length [I 0,S [],.slnil]).flatten])[d.length]?=some (.cells (List.replicate fs.length [I 0,S [],.slnil]).flatten):=by simp
   have y:Bg (d++[EE.cells (List.replicate fs.length [I 0,S [],.slnil]).flatten]) none (Pt bi 3)=some c:=by rw[f];exact(C.J9).l3
   have ſ:(List.replicate fs.length [I 0,S [],Aa.slnil]).flatten.length=fs.length*3:=by rw[GI (z:=3) (by intro r hr;rw[(List.mem_replicate.1 hr).2];rfl),FE]
   have W:D5 (.copy 3) (d++[EE.cells (List.replicate fs.length [I 0,S [],.slnil]).flatten]) [.C7 d.length 0 fs.length 3,c]=some (d++[EE.cells (fs.map C9.row).flatten],I (fs.length:Int)):=by
    have T:GX (d++[EE.cells (List.replicate fs.length [I 0,S [],.slnil]).flatten]) 3 c=some (fs.map C9.row):=by
     rcases D with rfl|⟨rfl,h0⟩
     .simp[GX]
     .rw[h0];rfl
    simp only[D5,vA,T,X];rw[if_pos ⟨trivial,by simp,by rw[ſ];omega⟩];have h1:(List.replicate fs.length [I 0,S [],Aa.slnil]).flatten.drop (0+(fs.map C9.row).length*3)=[]:=AH (by rw[ſ,Ao];omega);rw[h1,M7,Bw,A8,Ao,BI _ _ (Ab _),DM];rfl
   have M:Az (.len false) [.C7 d.length 0 fs.length 3]=some (I (fs.length:Int)):=rfl;simp only[abS,↓reduceIte,y,W,M];refine EK (i:=2) (λn:Nat=>[I (n:Int)]) (λn h1=>n<=fs.length/\∃KN:List C9,h1=d++[.cells (KN.map C9.row).flatten]/\KN.length=fs.length/\KN.map (·.c)=b.AW) (λn=>fs.length-n) (λn h1=>∃KN:List C9,h1=d++[.cells (KN.map C9.row).flatten]/\KN.length=fs.length/\KN.map (·.c)=b.AW) 0 rfl ⟨AU _,fs,rfl,rfl,Lx⟩ ?_ ?_
   .rintro n h1 ⟨hn,KN,rfl,jV,ż⟩;rcases A6 n fs.length with hlt|HK
    .have iD:n<KN.length:=by omega
     have E:KN[n].c=b.AW[n]'(by omega):=by simp only[<-ż,Ek]
     have S5:=(rm.D0 KN[n].c (by rw[E];exact Ay _)).2.1;have q:Az (.F0 3) [.C7 d.length 0 fs.length 3,I (n:Int)]=some (Pt d.length (n*3)):=Gy hlt;have H:(d++[EE.cells (KN.map C9.row).flatten])[d.length]?=some (.cells (KN.map C9.row).flatten):=by simp
     have hg:(KN.map C9.row)[n]?=some KN[n].row:=by rw[CE,An iD];rfl
     have N:Bg (d++[EE.cells (KN.map C9.row).flatten]) none (Pt d.length (n*3+2))=some KN[n].v:=by simp only[Bg,H,FQ];exact Qt (UD KN) (by decide) hg
     obtain⟨av,L,pz⟩:=f45 (h:=d++[EE.cells (KN.map C9.row).flatten]) KN[n].ok (by omega);have aOG:av.cells=[av]:=Br.cells pz;have K:CR (d++[EE.cells (KN.map C9.row).flatten]) 1 (Pt d.length (n*3+2)) av=some (d++[.cells ((KN.set n ⟨KN[n].c,av,pz⟩).map C9.row).flatten]):=by have e:=UP (As:=KN.map C9.row) (i:=n) (k:=2) (v:=av) (UD KN) (by simpa using iD) (by decide);simp only[CR,H,aOG,AR,M9];rw[if_pos (by rw[GI (UD KN),Ao];omega),e,BI _ _ (Ab _),DM,Hp,Ek];rfl
     simp only[abS,show(n:Int)<(fs.length:Int) by omega,q,N,L.call,K,CI (show n<9223372036854775807 by omega)];refine .next (n+1) rfl ⟨hlt,_,rfl,by rw[BY];exact jV,?_⟩ (by omega)
     rw[Hp,ż];have Ă:n<b.AW.length:=by omega
     show b.AW.set n KN[n].c=b.AW;rw[E,JR]
    .simp only[abS,show¬(n:Int)<(fs.length:Int) by omega];exact .Jd n rfl ⟨KN,rfl,jV,ż⟩
   .rintro n h1 ⟨KN,rfl,jV,ż⟩;simp only[Ce,↓reduceIte];refine⟨_,rfl,t',O,.C7 d.length 0 fs.length 3,u++[.cells (KN.map C9.row).flatten],rfl,by rw[f,AT],I3,?_,?_⟩;.rw[<-AT,<-f];exact p.Ep λi _ hi=>Ah hi
    .rw[<-AT,<-f];exact .inr ⟨d.length,KN,by rw[f];simp,by rw[jV],by simp,ż⟩
 obtain⟨r,h',hr,t',o',c',u,rfl,rfl,hs⟩:=PI.ret;exact⟨t',o',c',u,hr,hs⟩
end
def PB(h:Ae)(bi:Nat)(b:BS)(F:Nat->Prop):Prop:=∃a o c t G,BX h bi a o c t G b/\Ec b.AW c/\F=BN bi G
section
variable{h h':Ae}{bi wi:Nat}{b:BS}{F F2:Nat->Prop}{q:BOp}{av:Aa}{j:Nat}
def PB.lt(w:PB h bi b F){i:Nat}(hi:F i):i<h.length:=by
 obtain⟨a,o,c,t,G,w,_,rfl⟩:=w;rcases hi with rfl|hi
 .exact w.lt
 .exact w.w.lt hi
def PB.Ep(w:PB h bi b F)(hf:∀i,F i->h'[i]?=h[i]?):PB h' bi b F:=by obtain⟨a,o,c,t,G,w,hc,rfl⟩:=w;exact⟨a,o,c,t,G,w.Ep hf,hc,rfl⟩
def PB.J9(w:PB h bi b F){u:Ae}:PB (h++u) bi b F:=w.Ep λi hi=>Ah (w.lt hi)
end
structure QO where
 q:BOp
 v:Aa
 ok:Bj q.Aq v
end Go.Am
end
section
end
