/- Lemmas -/
import Derived.Test.YtbnogamdhadfcaaGreatDoorT29
set_option linter.unusedVariables false
set_option linter.unusedSimpArgs false
section
namespace Go.Am
open Go
set_option maxRecDepth 100000
section
variable{h h':Ag}{bi a:Nat}{o c t:Aa}{G G' F:Nat->Prop}{b:BS}{x:Int}{m:Nat}
variable{nm:As}{av:Aa}{l:List AU}{r:List Aa}{sp p:Int}
theorem aHR(w:RX h bi a o c t G b)(ok:DG b)(rm:BR b (m+4))(hnm:Nm b.a)(hr:Na nm av r)(hv:Bz l av)(hl:DH l)(hn:nm.length<=1000)(sp:Int):
  ∃h' o' G',BI cx 124 [Pt bi 0,.agg r,I sp] h (I (b.Om sp)) h'/\RX h' bi a o' c t G' (b.Ey nm l sp)/\Dh h (own bi G) h' (own bi G'):=by
 have ZJ:AT=140737488355328:=rfl;have ho:=rm.AR;have r0:∀{Q:Post} {h:Ag} {kk:Aa->IT},W cx (.Bk 78 [I sp] kk) Q h↔W cx (kk (.bool (decide (BS.Hq sp)))) Q h:=(pQ _).Bk rfl rfl;have Fy:=hr;obtain⟨c0,c2,c3,c4,c5,c6,c7,c9,Tq,U1,rfl⟩:=hr;by_cases hs:BS.Hq sp;rotate_left
 .refine⟨h,o,G,?_,by unfold BS.Ey;rw[if_neg hs];exact w,.refl⟩;have e:b.Om sp=0:=by unfold BS.Om;rw[if_neg hs]
  rw[e,Ab,mJ,aAG];simp only[AA,Bi,r0,AB hs]
 have r1:=pX w ok rm hnm 0;obtain⟨h1,G1,r2,w1,x1⟩:=sk (m:=m+1) w ok (rm.le (by omega)) hnm Fy hv hl hn (b.place 0).1 sp;have TD:=(Ms (nm:=nm) (at_:=l) (p:=(b.place 0).1) ok hs).1;have jH:=Ic (m:=m+1) (nm:=nm) (sp:=sp) (p:=(b.place 0).1) (rm.le (by omega)) hl;have VR:(b.FE nm l sp).node=b.a.len+1:=by unfold BS.FE;rw[if_pos hs]
 have MD:(b.Ee nm l sp (b.place 0).1).AR=b.AR:=by unfold BS.Ee;rw[if_pos hs]
 obtain⟨h2,G2,r3,w2,x2⟩:=pW w1 TD jH (b.place 0).1 (b.FE nm l sp).node (b.place 0).2;have ld:A9 h2 none (Pt bi 2)=some o:=w2.ld 2;obtain⟨u,e1,hu⟩:=AM.Gk (b:=40) w2.o (by simp only[MD];omega);have e2:=AM.Jg (f:=Item.row) (b:=40) (a:=b.FE nm l sp) hu (by simp only[MD];omega);have HU:BM (({b.Ee nm l sp (b.place 0).1 with a:=(b.Ee nm l sp (b.place 0).1).a.D3 (b.FE nm l sp).node (b.place 0).1 (b.place 0).2}:BS).AR++[b.FE nm l sp]) _:=AM.mk;have w3:=w2.Ig HU;have e:b.Om sp=(b.FE nm l sp).node:=by unfold BS.Om;rw[if_pos hs,VR]
 refine⟨_,_,G2,?_,by unfold BS.Ey;rw[if_pos hs];simp only;rw[<-VR];exact w3,(x1.trans x2).trans Bg⟩;have em:Aw (.By 4) [.agg (b.FE nm l sp).row]=some (.sl 4 [(b.FE nm l sp).row]):=Ld;have XV:=λ(y:Item)=>@Item.Cq y;rw[e,Ab,mJ,aAG];simp only[AA,Bi,EC,r0,AD hs,r1.call,r2.call,XV,r3.call,ld,e1,em,e2,w2.st (k:=2) (v0:=o) rfl (AM.cells HU)]
theorem sm(w:RX h bi a o c t G b)(ok:DG b)(rm:BR b (m+4))(hnm:Nm b.a)(hr:Na nm av r)(hv:Bz l av)(hl:DH l)(hn:nm.length<=1000):
  ∃h' o' G',BI cx 123 [Pt bi 0,.agg r] h (I (b.a.len+1)) h'/\RX h' bi a o' c t G' (b.Ey nm l 1)/\Dh h (own bi G) h' (own bi G'):=by
 obtain⟨h',o',G',r1,w',x'⟩:=aHR w ok rm hnm hr hv hl hn 1;refine⟨h',o',G',?_,w',x'⟩;have hh:b.Om 1=b.a.len+1:=by unfold BS.Om;rw[if_pos IV]
 rw[hh] at r1;obtain⟨c0,c2,c3,c4,c5,c6,c7,c9,Tq,U1,rfl⟩:=hr;rw[Ab,ka,aEG];simp only[AA,r1.call]
theorem aMq(w:RX h bi a o c t G b):∃h',BI cx 135 [Pt bi 0] h (.tuple []) h'/\RX h' bi a o c t G {b with stop:=true}/\Dh h (own bi G) h' (own bi G):=by refine⟨_,?_,w.put (k:=19) (v:= .bool true) rfl rfl w.o w.t,Bg⟩;rw[Ab,kj,aEL];simp only[AA,w.st (k:=19) (v:=tt) rfl rfl]
end
section
variable{h h':Ag}{bi a:Nat}{o c t:Aa}{G G' F:Nat->Prop}{b:BS}{x:Int}{m:Nat}
variable{nm:As}{av:Aa}{l:List AU}{r:List Aa}{sp p:Int}
theorem aMr(w:RX h bi a o c t G b)(ok:DG b)(rm:BR b (m+1000))(hr:Na nm av r)(hv:Bz l av)(hl:DH l)(x:Int):
  ∃h' G',BI cx 133 [Pt bi 0,.agg r,I x] h (.tuple []) h'/\RX h' bi a o c t G' (b.GF l x)/\Dh h (own bi G) h' (own bi G'):=by
 have ZJ:AT=140737488355328:=rfl;obtain⟨c0,c2,c3,c4,c5,c6,c7,c9,Tq,U1,rfl⟩:=hr;by_cases hk:(b.a.nd x).kind=4;rotate_left;·refine⟨h,G,?_,by unfold BS.GF;rw[if_neg hk];exact w,.refl⟩;rw[Ab,mN,aAJ];simp only[AA,↓reduceIte,Bi,(Lq w x).call,hk,ne_eq]
 have hx:b.a.has x:=by
  by_cases hp:b.a.has x;·exact hp
  .rw[GN hp] at hk;simp at hk
 have hal:=rm.at_ x;have eQ:=hl.1;obtain⟨n,i,ps,wa,_⟩:=w.w;obtain⟨u0,e0,hu0⟩:=AM.Gk (b:=40) (wa.ag hx) (by omega);have H5:Ev cx 133 [Pt bi 0,.agg [c0,.str nm,c2,c3,c4,c5,c6,c7,av,c9,Tq,U1],I x] h λr h'=>r= .tuple []/\∃G',RX h' bi a o c t G' (b.GF l x)/\Dh h (own bi G) h' (own bi G'):=by
  unfold Ev;have hvl:=AM.Cp hv;rw[mN,aAJ];simp only[AA,↓reduceIte,Bi,(Lq w x).call,AW hk,ne_eq,w.l0,wa.nodes,wa.addr hx,wa.f6 hx,e0];refine Bd (λs:Aa×Nat=>[s.1,I (s.2:Int)]) (λs h1=>s.2<=l.length/\Bz ((b.a.nd x).Ay++BS.plain (l.take s.2)) s.1/\h1=h) (λs=>l.length-s.2) (u0,0) rfl ⟨AO _,by simp only[JQ,BS.plain,DR,Bv];exact hu0,rfl⟩ ?_;rintro⟨u,k⟩ h1 ⟨Wr,hu,rfl⟩;simp only at Wr hu;rcases AN k l.length with hlt|DT
  .have e1:=AM.BA (k:= .i64) hv hlt;rw[AU.row] at e1;have em:Aw (.By 3) [.agg [I 0,.str l[k].name,.str l[k].value]]=some (.sl 3 [[I 0,.str l[k].name,.str l[k].value]]):=rfl;have a1:=AM.Jg (f:=AU.row) (b:=40) (a:=⟨0,l[k].name,l[k].value⟩) hu (by rw[Ao,BS.plain,Ah,Al];omega);rw[AU.XQ] at a1;have hs:(b.a.nd x).Ay++BS.plain (l.take (k+1))=((b.a.nd x).Ay++BS.plain (l.take k))++[⟨0,l[k].name,l[k].value⟩]:=by rw[Av hlt,BS.plain,BE,<-Ax];rfl
   simp only[AA,Nat.reduceLeDiff,↓reduceIte,AK,Bi,hvl,show(k:Int)<(l.length:Int) by omega,e1,aaS,em,a1,BB (show k<9223372036854775807 by omega)];exact AF.next (_,k+1) rfl ⟨hlt,by rw[hs,Ax];exact .mk,rfl⟩ (by simp only;omega)
  .have OE:k=l.length:=by omega
   subst OE;rw[Bu] at hu;have hsp:∀y∈(b.a.nd x).Ay++BS.plain l,BS.Hq y.A0:=by
    intro y hy;rcases Ap.1 hy with hy|hy
    .exact(ok.ok.Q2 x hx).dn y hy
    .obtain⟨z,_,rfl⟩:=Bl.1 hy;exact⟨by simp only;omega,by simp only;omega⟩
   obtain⟨h2,G2,r1,w2,x2⟩:=w.step (A':=b.a.Iv x ((b.a.nd x).Ay++BS.plain l)) (R:=λh2=>BI cx 221 [Pt a 0,I x,u] h1 (I 0) h2) λn i ps wa=>by obtain⟨h',IB,f1,f2,f3⟩:=aHM wa hx hk hu (by rw[Ao,BS.plain,Ah];omega) hsp;exact⟨h',n,i,IB,f1,f2,f3⟩
   have e:b.GF l x={b with a:=b.a.Iv x ((b.a.nd x).Ay++BS.plain l)}:=by unfold BS.GF;rw[if_pos hk]
   simp only[AA,Nat.reduceLeDiff,↓reduceIte,AK,Bi,hvl,show¬(l.length:Int)<(l.length:Int) by omega,w.l0,r1.call];exact⟨_,rfl,rfl,G2,by rw[e];exact w2,x2⟩
 obtain⟨r,h',hr,rfl,G',w',x'⟩:=H5.ret;exact⟨h',G',hr,w',x'⟩
end
section
variable{h h':Ag}{bi a:Nat}{o c t:Aa}{G G' F:Nat->Prop}{b:BS}{x:Int}{m:Nat}
theorem aMs(w:RX h bi a o c t G b)(rm:BR b m):
  ∃h' o',BI cx 129 [Pt bi 0] h (.tuple []) h'/\RX h' bi a o' c t G b.IP/\Dh h (own bi G) h' (own bi G):=by
 have ho:=rm.AR;have hnm:∀i∈b.AR,i.name.length<9223372036854775807:=λi hi=>by have:=rm.Wl i hi;omega
 have em:Aw (.By 1) [S [112]]=some (.sl 1 ([wP].map CI)):=DE (ws:=[wP]) rfl (by decide);have ld:A9 h none (Pt bi 2)=some o:=w.ld 2;have r1:=aKS (h:=h) w.o (by omega) hnm 3 (CS (ws:=[wP])) (by decide);by_cases hs:I6 (Bq [wP]) (IL 3) b.AR.reverse=true;rotate_left
 .have TR:I6 (Bq [wP]) (IL 3) b.AR.reverse=false:=by simpa using hs
  rw[TR] at r1;refine⟨h,o,?_,by unfold BS.IP;rw[if_neg hs];exact w,.refl⟩;rw[Ab,mL,aAH];simp only[AA,ld,em,r1.call]
 .rw[hs] at r1;obtain⟨u1,t1,r2,Ny⟩:=f165 (h:=h) w.o (by omega) hnm wP false;have w1:=w.HB (u:=t1);have w2:=w1.Ig Ny;have hst:Ek wP false=D2 wP:=by funext a;rfl
  have l1:(Ds (Ek wP false) CD b.AR).length<=b.AR.length:=OQ;have sn:A9 (put (h++t1) bi 2 u1) none (Pt bi 2)=some u1:=w2.ld 2;obtain⟨u2,t2,r3,HU⟩:=f85 (h:=put (h++t1) bi 2 u1) Ny (by omega) (CS (ws:=[wP])) (by decide);have w3:=w2.HB (u:=t2);rw[<-M4] at HU;have w4:=w3.Ig HU;refine⟨_,u2,?_,by unfold BS.IP;rw[if_pos hs,<-hst];exact w4,((w.CP.trans Bg).trans w2.CP).trans Bg⟩;rw[Ab,mL,aAH];simp only[AA,ld,em,r1.call,r2.call,w1.st (k:=2) (v0:=o) rfl (AM.cells Ny),sn,r3.call,w3.st (k:=2) (v0:=u1) rfl (AM.cells HU)]
variable{nm:As}{av:Aa}{l:List AU}{r:List Aa}
theorem aMt(w:RX h bi a o c t G b)(ok:DG b)(rm:BR b (m+4))(hnm:Nm b.a)(hr:Na nm av r)(hv:Bz l av)(hl:DH l)(hn:nm.length<=1000)(st:Int):
  ∃h' o' G',BI cx 128 [Pt bi 0,.agg r,I st] h (.tuple []) h'/\RX h' bi a o' c t G' (b.OU nm l st)/\Dh h (own bi G) h' (own bi G'):=by
 obtain⟨h1,o1,G1,r1,w1,x1⟩:=sm w ok rm hnm hr hv hl hn;obtain⟨c0,c2,c3,c4,c5,c6,c7,c9,Tq,U1,rfl⟩:=hr;have w2:RX (put h1 bi 18 (I st)) bi a o1 c t G1 {b.Ey nm l 1 with sw:=st}:=w1.put rfl rfl w1.o w1.t;have w3:RX (put (put h1 bi 18 (I st)) bi 5 (I (b.Ey nm l 1).mode)) bi a o1 c t G1 {{b.Ey nm l 1 with sw:=st} with R6:=(b.Ey nm l 1).mode}:=w2.put rfl rfl w2.o w2.t;have w4:=w3.cX 8;refine⟨_,o1,G1,?_,w4,((x1.trans Bg).trans Bg).trans Bg⟩;have s2:=w1.st (k:=18) (v:= I st) (v0:= I (b.Ey nm l 1).sw) rfl rfl;have s3:=w2.st (k:=5) (v:= I (b.Ey nm l 1).mode) (v0:= I (b.Ey nm l 1).R6) rfl rfl;have s4:=w3.st (k:=4) (v:=I 8) (v0:= I (b.Ey nm l 1).mode) rfl rfl;have l4:A9 (put h1 bi 18 (I st)) none (Pt bi 4)=some (I (b.Ey nm l 1).mode):=w2.l4;rw[Ab,kf,aEI];simp only[AA,r1.call,s2,l4,s3,s4]
theorem aMu(w:RX h bi a o c t G b)(rm:BR b m):∃h' o',BI cx 137 [Pt bi 0] h (.agg b.gZ.row) h'/\RX h' bi a o' c t G b.Qa/\Dh h (own bi G) h' (own bi G):=by
 have ho:=rm.AR;have ld:A9 h none (Pt bi 2)=some o:=w.ld 2;have lo:=AM.Cp w.o;unfold BS.Qa BS.gZ;by_cases h2:b.AR.length<2;·refine⟨h,o,?_,by rw[if_pos h2];exact w,.refl⟩;rw[if_pos h2,Ab,mO,aAK];simp only[AA,↓reduceIte,AK,Bi,ld,lo,show(b.AR.length:Int)<2 by omega];rfl
 .obtain⟨u,t1,r1,hu⟩:=aF9 (h:=h) w.o (by omega);have hc:JL b.AR ((b.AR.length:Int)-1)=b.AR.take (b.AR.length-1):=by unfold JL;congr 1;omega
  rw[hc] at hu;have w1:=w.HB (u:=t1);have w2:=w1.Ig hu;refine⟨_,u,?_,by rw[if_neg h2];exact w2,w.CP.trans Bg⟩;rw[if_neg h2,Ab,mO,aAK];simp only[AA,↓reduceIte,AK,Bi,EC,ld,lo,show¬(b.AR.length:Int)<2 by omega,(cg w rm).call,r1.call,w1.st (k:=2) (v0:=o) rfl (AM.cells hu)]
end
section
variable{h h':Ag}{bi a:Nat}{o c t:Aa}{G G' F:Nat->Prop}{b:BS}{x:Int}{m:Nat}
theorem aHS(w:RX h bi a o c t G b)(rm:BR b m)(nm:As):
  ∃h' o',BI cx 131 [Pt bi 0,.str nm] h (.tuple []) h'/\RX h' bi a o' c t G (b.C1 nm)/\Dh h (own bi G) h' (own bi G):=by
 have ho:=rm.AR;have hnm:∀i∈b.AR,i.name.length<9223372036854775807:=λi hi=>by have:=rm.Wl i hi;omega
 have ld:A9 h none (Pt bi 2)=some o:=w.ld 2;have lo:=AM.Cp w.o;have H5:Ev cx 131 [Pt bi 0,.str nm] h λr h'=>r= .tuple []/\∃o',RX h' bi a o' c t G (b.C1 nm)/\Dh h (own bi G) h' (own bi G):=by
  unfold Ev;rw[kh,aEK];simp only[AA,ld,lo,CK (show -9223372036854775808<=(b.AR.length:Int)-1 by omega) (show(b.AR.length:Int)-1<9223372036854775808 by omega)];refine Bd (λn:Nat=>[I ((n:Int)-1)]) (λn h1=>n<=b.AR.length/\(b.AR.reverse.find? λi=>Bq [nm] i||Gc i)=((b.AR.take n).reverse.find? λi=>Bq [nm] i||Gc i)/\h1=h) (λn=>n) b.AR.length rfl ⟨Ac _,by rw[Bu],rfl⟩ ?_;rintro n h1 ⟨hn,ha,rfl⟩;cases n with
  |zero=>
   have e:b.C1 nm=b:=by unfold BS.C1;rw[ha];rfl
   simp only[AA,↓reduceIte,Bi,show¬(0:Int)<=((0:Nat):Int)-1 by omega];exact⟨_,rfl,rfl,o,by rw[e];exact w,.refl⟩
  |succ n=>
   have hlt:n<b.AR.length:=by omega
   have i1:((n+1:Nat):Int)-1=(n:Int):=by omega
   have e1:=AM.BA (k:= .i64) w.o hlt;have hin:=hnm _ (AI hlt);have em:Aw (.By 1) [.str nm]=some (.sl 1 ([nm].map CI)):=DE (ws:=[nm]) rfl (by simp);rw[Re hlt,I5] at ha;generalize hi:b.AR[n]=i at*;have r2:BI cx 214 [.agg i.row,.sl 1 ([nm].map CI)] h1 (.bool (Bq [nm] i)) h1:=f167 i (CS (ws:=[nm])) (by simp);have sub:=CK (show -9223372036854775808<=(n:Int)-1 by omega) (show(n:Int)-1<9223372036854775808 by omega);cases h2:Bq [nm] i with
   |true=>
    rw[h2] at r2 ha;obtain⟨u1,t1,r3,Ny⟩:=f165 (h:=h1) w.o (by omega) hnm nm false;have w1:=w.HB (u:=t1);have w2:=w1.Ig Ny;have hst:Ek nm false=D2 nm:=by funext a;rfl
    have l1:(Ds (Ek nm false) CD b.AR).length<=b.AR.length:=OQ;have sn:A9 (put (h1++t1) bi 2 u1) none (Pt bi 2)=some u1:=w2.ld 2;obtain⟨u2,t2,r4,HU⟩:=aGa (h:=put (h1++t1) bi 2 u1) Ny (by omega) i.node;have w3:=w2.HB (u:=t2);have w4:=w3.Ig HU;have e:b.C1 nm={b with AR:=Gd i.node (Ds (D2 nm) CD b.AR)}:=by unfold BS.C1;rw[ha];simp only[h2,df,BO]
    simp only[AA,Nat.reduceLeDiff,↓reduceIte,Bi,EC,i1,show(0:Int)<=(n:Int) by omega,ld,e1,em,r2.call,r3.call,w1.st (k:=2) (v0:=o) rfl (AM.cells Ny),sn,r4.call,w3.st (k:=2) (v0:=u1) rfl (AM.cells HU)];exact⟨_,rfl,rfl,u2,by rw[e,<-hst];exact w4,((w.CP.trans Bg).trans w2.CP).trans Bg⟩
   |false=>
    rw[h2] at r2 ha;have r3:∀{Q:Post} {h:Ag} {kk:Aa->IT},W cx (.Bk 216 [I i.A0,.str i.name] kk) Q h↔W cx (kk (.bool (D1 i.A0 i.name))) Q h:=(f169 i.A0 i.name hin).Bk rfl rfl;cases h3:Gc i with
    |true=>
     have h3':D1 i.A0 i.name=true:=h3;rw[h3] at ha;have e:b.C1 nm=b:=by unfold BS.C1;rw[ha];simp[h2]
     simp only[AA,Nat.reduceLeDiff,↓reduceIte,Bi,EC,i1,show(0:Int)<=(n:Int) by omega,ld,e1,em,r2.call,r3,h3'];exact⟨_,rfl,rfl,o,by rw[e];exact w,.refl⟩
    |false=>have h3':D1 i.A0 i.name=false:=h3;rw[h3] at ha;simp only[AA,Nat.reduceLeDiff,↓reduceIte,Bi,EC,i1,show(0:Int)<=(n:Int) by omega,ld,e1,em,r2.call,r3,h3',sub];exact AF.next n rfl ⟨by omega,ha,rfl⟩ (by omega)
 obtain⟨r,h',hr,rfl,o',w',x'⟩:=H5.ret;exact⟨h',o',hr,w',x'⟩
variable{nm:As}{av:Aa}{l:List AU}{r:List Aa}
theorem aMv(w:RX h bi a o c t G b)(hc:BN b.A3 c)(ok:DG b)(rm:BR b (m+5))(hnm:Nm b.a)(hr:Na nm av r)(hv:Bz l av)(hl:DH l)(hn:nm.length<=1000):
  ∃h' o' c' G',BI cx 125 [Pt bi 0,.agg r] h (I (b.a.len+1)) h'/\RX h' bi a o' c' t G' (b.Ji nm l)/\BN (b.Ji nm l).A3 c'/\Dh h (own bi G) h' (own bi G'):=by
 obtain⟨h1,o1,G1,r1,w1,x1⟩:=sm (m:=m+1) w ok (rm.le (by omega)) hnm hr hv hl hn;obtain⟨fs,efs,hf⟩:=hc;have ha:=rm.A3;have Gv:fs.length=b.A3.length:=by rw[<-efs,Ah]
 obtain⟨u,e',O6,r2,hu⟩:=aLb (h:=h1) (l:=fs) hf (by omega) (pF efs λx hx=>((rm.Dj x hx).2).1) (e:=⟨⟨b.a.len+1,nm,l⟩,av,hv⟩) (by unfold WL;have:=hl.1;simp only;omega);refine⟨_,o1,u,G1,?_,w1.Ki (u:=u),?_,x1.trans Bg⟩;·obtain⟨c0,c2,c3,c4,c5,c6,c7,c9,Tq,U1,rfl⟩:=hr;have r2':BI cx 206 [c,.agg [I (b.a.len+1),.str nm,av]] h1 u h1:=r2;have ZD:av.cells=[av]:=AM.cells hv;rw[Ab,ke,aEH];simp only[AA,Nat.reduceLeDiff,↓reduceIte,AK,Bi,r1.call,w1.l3,ZD,r2'.call,w1.st (k:=3) (v0:=c) rfl (AM.cells hu)]
 .refine⟨_,?_,hu⟩;rw[cU O6,efs];unfold BS.Ji;simp only;rw[FF]
end
theorem Zu{n:Nat}(d:Nat)(hd:0<d)(h:n<2147483648)(e:Aw (.int .quo) [I (n:Int),I (d:Int)]=some (I (IntKind.i64.wrap ((n:Int).tdiv (d:Int))))):Aw (.int .quo) [I (n:Int),I (d:Int)]=some (I ((n/d:Nat):Int)):=by
 have h2:(n:Int).tdiv (d:Int)=((n/d:Nat):Int):=by rw[Int.tdiv_eq_ediv_of_nonneg (by omega)];rfl
 have h3:n/d<=n:=Nat.div_le_self n d;rw[e,h2];generalize n/d=k at*;rw[wrap_i64 (by omega) (by omega)]
theorem so{n:Nat}(d:Nat)(hd:0<d)(h:n<2147483648)(e:Aw (.int .rem) [I (n:Int),I (d:Int)]=some (I ((n:Int).tmod (d:Int)))):Aw (.int .rem) [I (n:Int),I (d:Int)]=some (I ((n%d:Nat):Int)):=by
 have h2:(n:Int).tmod (d:Int)=((n%d:Nat):Int):=by rw[Int.tmod_eq_emod_of_nonneg (by omega)];rfl
 have h3:n%d<=n:=Nat.mod_le n d;rw[e,h2]
theorem Wb{n:Nat}(h:n<2147483648):Aw (.int .quo) [I (n:Int),I 64]=some (I ((n/64:Nat):Int)):=Zu 64 (by decide) h rfl
theorem Wc{n:Nat}(h:n<2147483648):Aw (.int .quo) [I (n:Int),I 4096]=some (I ((n/4096:Nat):Int)):=Zu 4096 (by decide) h rfl
theorem Zv{n:Nat}(h:n<2147483648):Aw (.int .quo) [I (n:Int),I 262144]=some (I ((n/262144:Nat):Int)):=Zu 262144 (by decide) h rfl
theorem MA{n:Nat}(h:n<2147483648):Aw (.int .rem) [I (n:Int),I 64]=some (I ((n%64:Nat):Int)):=so 64 (by decide) h rfl
theorem Rn{n:Nat}(c:Nat)(h:c+n<2147483648):Aw (.int .add) [I (c:Int),I (n:Int)]=some (I ((c+n:Nat):Int)):=by rw[OP (by omega) (by omega)];congr 2
theorem KT{n:Nat}(h:n<64):Aw (.int .add) [I 128,I (n:Int)]=some (I ((128+n:Nat):Int)):=Rn 128 (by omega)
theorem tF{n:Nat}(h:n<64):Aw (.int .add) [I 192,I (n:Int)]=some (I ((192+n:Nat):Int)):=Rn 192 (by omega)
theorem tG{n:Nat}(h:n<64):Aw (.int .add) [I 224,I (n:Int)]=some (I ((224+n:Nat):Int)):=Rn 224 (by omega)
theorem tH{n:Nat}(h:n<64):Aw (.int .add) [I 240,I (n:Int)]=some (I ((240+n:Nat):Int)):=Rn 240 (by omega)
theorem PE{n:Nat}(h:n<256):Aw (.conv .u8) [I (n:Int)]=some (.int .u8 (n:Int)):=by rw[Si];congr 3;omega
def Ow(r:Int):Prop:=(0<=r/\r<=55295)\/(57344<=r/\r<=1114111)
instance(r:Int):Decidable (Ow r):=by unfold Ow;infer_instance
theorem aHT(r:Int):JI cx 207 [.int .i32 r] (.bool (decide (Ow r))):=by rw[LV,ml,aE4];by_cases h1:0<=r<;>by_cases h2:r<=55295<;>by_cases h3:57344<=r<;>by_cases h4:r<=1114111<;>simp[h1,h2,h3,h4,Ow]
theorem aHU(r:Int)(hr:Ow r)(h:Ag):BI cx 208 [.int .i32 r] h (.sl 1 (B1 (GV r))) h:=by
 have one:∀{k1:Nat} (h1:k1<256),Aw (.By 1) [.int .u8 (k1:Int)]=some (.sl 1 (B1 [UInt8.ofNat k1])):=by intro k1 h1;simp only[B1,Bm,DR,XO h1];rfl
 have ZW:∀{k1 k2:Nat} (h1:k1<256) (h2:k2<256),Aw (.By 1) [.int .u8 (k1:Int),.int .u8 (k2:Int)]=some (.sl 1 (B1 [UInt8.ofNat k1,UInt8.ofNat k2])):=by intro k1 k2 h1 h2;simp only[B1,Bm,DR,XO h1,XO h2];rfl
 have SC:∀{k1 k2 k3:Nat} (h1:k1<256) (h2:k2<256) (h3:k3<256),Aw (.By 1) [.int .u8 (k1:Int),.int .u8 (k2:Int),.int .u8 (k3:Int)]=some (.sl 1 (B1 [UInt8.ofNat k1,UInt8.ofNat k2,UInt8.ofNat k3])):=by intro k1 k2 k3 h1 h2 h3;simp only[B1,Bm,DR,XO h1,XO h2,XO h3];rfl
 have four:∀{k1 k2 k3 k4:Nat} (h1:k1<256) (h2:k2<256) (h3:k3<256) (h4:k4<256),Aw (.By 1) [.int .u8 (k1:Int),.int .u8 (k2:Int),.int .u8 (k3:Int),.int .u8 (k4:Int)]=some (.sl 1 (B1 [UInt8.ofNat k1,UInt8.ofNat k2,UInt8.ofNat k3,UInt8.ofNat k4])):=by intro k1 k2 k3 k4 h1 h2 h3 h4;simp only[B1,Bm,DR,XO h1,XO h2,XO h3,XO h4];rfl
 have Fy:=hr;unfold Ow at hr;obtain⟨n,rfl⟩:=O3 (show 0<=r by omega);have hn:n<=1114111:=by omega
 have cv:Aw (.conv .i64) [.int .i32 (n:Int)]=some (I (n:Int)):=by rw[T0,wrap_i64 (by omega) (by omega)]
 rw[Ab,mm,aE5];by_cases c1:n<128
 .have e:GV (n:Int)=[UInt8.ofNat n]:=by unfold GV;rw[if_pos (by omega)];rfl
  rw[e];simp only[AA,Bi,cv,show(n:Int)<128 by omega,PE (show n<256 by omega),one (show n<256 by omega)]
 by_cases c2:n<2048
 .have e:GV (n:Int)=[UInt8.ofNat (192+n/64),UInt8.ofNat (128+n%64)]:=by unfold GV;rw[if_neg (by omega),if_pos (by omega)];rfl
  rw[e];simp only[AA,Bi,cv,show¬(n:Int)<128 by omega,show(n:Int)<2048 by omega,Wb (show n<2147483648 by omega),tF (show n/64<64 by omega),PE (show 192+n/64<256 by omega),MA (show n<2147483648 by omega),KT (show n%64<64 by omega),PE (show 128+n%64<256 by omega),ZW (show 192+n/64<256 by omega) (show 128+n%64<256 by omega)]
 by_cases c3:n<65536
 .have e:GV (n:Int)=[UInt8.ofNat (224+n/4096),UInt8.ofNat (128+n/64%64),UInt8.ofNat (128+n%64)]:=by unfold GV;rw[if_neg (by omega),if_neg (by omega),if_pos (by omega)];rfl
  rw[e];simp only[AA,Bi,cv,show¬(n:Int)<128 by omega,show¬(n:Int)<2048 by omega,show(n:Int)<65536 by omega,Wc (show n<2147483648 by omega),tG (show n/4096<64 by omega),PE (show 224+n/4096<256 by omega),Wb (show n<2147483648 by omega),MA (show n/64<2147483648 by omega),KT (show n/64%64<64 by omega),PE (show 128+n/64%64<256 by omega),MA (show n<2147483648 by omega),KT (show n%64<64 by omega),PE (show 128+n%64<256 by omega),SC (show 224+n/4096<256 by omega) (show 128+n/64%64<256 by omega) (show 128+n%64<256 by omega)]
 .have e:GV (n:Int)=[UInt8.ofNat (240+n/262144),UInt8.ofNat (128+n/4096%64),UInt8.ofNat (128+n/64%64),UInt8.ofNat (128+n%64)]:=by unfold GV;rw[if_neg (by omega),if_neg (by omega),if_neg (by omega),if_pos (by omega)];rfl
  rw[e];simp only[AA,Bi,cv,show¬(n:Int)<128 by omega,show¬(n:Int)<2048 by omega,show¬(n:Int)<65536 by omega,Zv (show n<2147483648 by omega),tH (show n/262144<64 by omega),PE (show 240+n/262144<256 by omega),Wc (show n<2147483648 by omega),MA (show n/4096<2147483648 by omega),KT (show n/4096%64<64 by omega),PE (show 128+n/4096%64<256 by omega),Wb (show n<2147483648 by omega),MA (show n/64<2147483648 by omega),KT (show n/64%64<64 by omega),PE (show 128+n/64%64<256 by omega),MA (show n<2147483648 by omega),KT (show n%64<64 by omega),PE (show 128+n%64<256 by omega),four (show 240+n/262144<256 by omega) (show 128+n/4096%64<256 by omega) (show 128+n/64%64<256 by omega) (show 128+n%64<256 by omega)]
theorem tI(r:Int):GV (if Ow r then r else 65533)=GV r:=by
 by_cases h:Ow r;·rw[if_pos h]
 .rw[if_neg h];unfold Ow at h;have:GV r=[239,191,189]:=by unfold GV;rw[if_neg (by omega),if_neg (by omega),if_neg (by omega),if_neg (by omega)]
  have h2:GV 65533=[239,191,189]:=by unfold GV;rw[if_neg (by omega),if_neg (by omega),if_pos (by omega)];decide+kernel
  rw[this,h2]
theorem cq(r:Int):Ow (if Ow r then r else 65533):=by
 by_cases h:Ow r;·rw[if_pos h];exact h
 .rw[if_neg h];decide
section
variable{h h':Ag}{bi a:Nat}{o c t:Aa}{G G' F:Nat->Prop}{b:BS}{x:Int}{m:Nat}
variable{nm:As}{av:Aa}{l:List AU}{r:List Aa}{sp p:Int}
theorem RX.leaf{k d:Int}{s:As}(w:RX h bi a o c t G b)(ok:DG b)(rm:BR b (m+1))(hk:k=5\/k=6)(hd:b.a.has d/\(b.a.nd d).kind=1)(hs:s.length<=100000)(p bf:Int):
  ∃h4 h' G',BI cx 209 [Pt a 0,I d,.agg [I k,I 0,.slnil,I 0,I 0,S [],.slnil,.str s,S [],S [],ff,I 0,I 0]] h (.tuple [I (b.a.len+1),I 0]) h4/\BI cx 99 [Pt bi 0,I p,I (b.a.len+1),I bf] h4 (.tuple []) h'/\RX h' bi a o c t G' {b with a:=(b.a.add {kind:=k,Cz:=d,data:=s}).D3 (b.a.len+1) p bf}/\Dh h (own bi G) h' (own bi G'):=by
 obtain⟨h4,G4,r4,w5,x5⟩:=w.step (A':=b.a.add {kind:=k,Cz:=d,data:=s}) (R:=λh'=>BI cx 209 [Pt a 0,I d,.agg [I k,I 0,.slnil,I 0,I 0,S [],.slnil,.str s,S [],S [],ff,I 0,I 0]] h (.tuple [I (b.a.len+1),I 0]) h') (λn i ps wa=>by obtain⟨h',n',i',IB,r,wp,xp⟩:=aHH wa (show b.a.len<=1000000000 by have:=rm.n;unfold Ar.len;omega) hd.1 hd.2 k s;exact⟨h',n',i',IB,r,wp,xp⟩)
 obtain⟨U_,rm5⟩:=Zk (m:=m) (k:=k) (s:=s) ok rm hk hd hs;obtain⟨h',G',r6,w6,x6⟩:=pW w5 U_ rm5 p (b.a.len+1) bf;exact⟨h4,h',G',r4,r6,w6,x5.trans x6⟩
theorem aMw(w:RX h bi a o c t G b)(ok:DG b)(rm:BR b (m+5))(hnm:Nm b.a)(r:Int):
  ∃h' G',BI cx 126 [Pt bi 0,.int .i32 r] h (.tuple []) h'/\RX h' bi a o c t G' (b.gY r)/\Dh h (own bi G) h' (own bi G'):=by
 have r1:=pX w ok rm hnm 0;obtain⟨hp,hbf⟩:=Vr ok (t:=0) (.inl rfl);unfold BS.gY;generalize(b.place 0).1=p at*;generalize(b.place 0).2=bf at*;have r2:=Lq w p;unfold BS.Kx;by_cases hk:(b.a.nd p).kind=4\/(b.a.nd p).kind=2;rotate_left;·refine⟨h,G,?_,by rw[if_neg hk];exact w,.refl⟩;have k4:¬(b.a.nd p).kind=4:=λe=>hk (.inl e);have k2:¬(b.a.nd p).kind=2:=λe=>hk (.inr e);rw[Ab,T4,zL];simp only[AA,Bi,r1.call,r2.call,ne_eq,k4,k2,AQ]
 rw[if_pos hk];obtain⟨i,hi,sK,Tr,hpv⟩:=cW (l:=(b.a.nd p).AZ) (bf:=bf) (λh=>by have:=hbf h;have h2:=(ok.ok.Fa bf this.1 (by rw[this.2];have:=hp.1;omega)).2;rwa [this.2] at h2);rw[hpv];have OE:(b.a.nd p).AZ.length<=1000000000:=rm.Wm.AZ ok.ok p;obtain⟨n,i',ps,wa,eG⟩:=w.w;obtain⟨kv,r3,pB⟩:=b_ (x:=p) wa OE;have hvl:=AM.Cp pB;have ri:=aHO (h:=h) pB OE bf;have rd:=pV w p;rw[if_pos hp] at rd;have r0:∀{Q:Post} {h:Ag} {kk:Aa->IT},W cx (.Bk 207 [.int .i32 r] kk) Q h↔W cx (kk (.bool (decide (Ow r)))) Q h:=(aHT r).Bk rfl rfl;obtain⟨r',Fy⟩:∃r',r'=if Ow r then r else 65533:=⟨_,rfl⟩
 have TR:=cq r;have kO:=tI r;rw[<-Fy] at TR kO;have rb:=aHU r' TR h;rw[kO] at rb;have UC:=VU r;generalize hs:GV r=s at*;have f3:Kp h (.sl 1 (B1 s))=some (h,.sl 1 (B1 s)):=rfl;have b3:Aw .Tc [.sl 1 (B1 s)]=some (.str s):=by simp[Aw,Ud,P3]
 have Zl:=ok.ok.Cz p hp;obtain⟨h4,h5,G5,r4,r5,w5,x5⟩:=w.leaf (m:=m) (k:=5) (s:=s) ok (rm.le (by omega)) (.inl rfl) Zl (by omega) p bf;by_cases hz:i=0
 .subst hz;simp only[↓reduceIte];refine⟨h5,G5,?_,w5,x5⟩;rw[Ab,T4,zL];rcases hk with hk|hk<;>by_cases Pd:Ow r<;>by_cases h0:bf=0
  all_goals first|rw[if_pos Pd] at Fy|rw[if_neg Pd] at Fy
  all_goals subst Fy
  all_goals first
   |(rw[<-sK h0] at hvl;simp only[AA,Nat.reduceLeDiff,↓reduceIte,AK,Bi,r1.call,r2.call,ne_eq,hk,show¬(2:Int)=4 by decide,AQ,r0,AD Pd,rb.call,f3,b3,w.l0,r3.call,hvl,AW h0,show¬(0:Int)<((0:Nat):Int) by decide,rd.call,Bx,r4.call,r5.call];done)
   |(rw[<-sK h0] at hvl;simp only[AA,Nat.reduceLeDiff,↓reduceIte,AK,Bi,r1.call,r2.call,ne_eq,hk,show¬(2:Int)=4 by decide,AQ,r0,AB Pd,rb.call,f3,b3,w.l0,r3.call,hvl,AW h0,show¬(0:Int)<((0:Nat):Int) by decide,rd.call,Bx,r4.call,r5.call];done)
   |(rw[Tr h0] at ri;simp only[AA,Nat.reduceLeDiff,↓reduceIte,AK,Bi,r1.call,r2.call,ne_eq,hk,show¬(2:Int)=4 by decide,AQ,r0,AD Pd,rb.call,f3,b3,w.l0,r3.call,hvl,h0,ri.call,show¬(0:Int)<((0:Nat):Int) by decide,rd.call,Bx,r4.call,r5.call];done)
   |(rw[Tr h0] at ri;simp only[AA,Nat.reduceLeDiff,↓reduceIte,AK,Bi,r1.call,r2.call,ne_eq,hk,show¬(2:Int)=4 by decide,AQ,r0,AB Pd,rb.call,f3,b3,w.l0,r3.call,hvl,h0,ri.call,show¬(0:Int)<((0:Nat):Int) by decide,rd.call,Bx,r4.call,r5.call];done)
 .obtain⟨j,rfl⟩:∃j,i=j+1:=⟨i-1,by omega⟩;have hj:j<(b.a.nd p).AZ.length:=by omega
  rw[if_neg hz,GJ,Ai hj];simp only
  have ht:=ok.ok.LD p hp _ (AI hj);have e1:=AM.BA (k:= .i64) pB hj;rw[B6] at e1;have sb:Aw (.int .sub) [I ((j+1:Nat):Int),I 1]=some (I (j:Int)):=by have:=Ho (n:=j+1) (by omega) (by omega);simpa using this
  have xo:(0:Int)<((j+1:Nat):Int):=by omega
  generalize hte:(b.a.nd p).AZ[j]=te at*;have rk:=Lq w te;by_cases k5:(b.a.nd te).kind=5
  .rw[if_pos k5];have fH:=rm.data te;obtain⟨h8,s8,w8,x8,_⟩:=wa.wr ht.1 (k:=7) (by decide) (v:= .str ((b.a.nd te).data++s)) rfl (p:=⟨{b.a.nd te with data:=(b.a.nd te).data++s},(pR ps te).kv,(pR ps te).av,wa.LD ht.1,wa.ag ht.1⟩) (by simp only[RN.row];rw[(wa.pn ht.1).2];rfl);obtain⟨w9,x9⟩:=w.pD (G':=IC a n i') ⟨n,i',_,w8,rfl⟩ (by rw[eG];exact x8);refine⟨h8,_,?_,w9,x9⟩;have ad:=Zj (s:=(b.a.nd te).data) (u:=s) (by omega);rw[Ab,T4,zL];rcases hk with hk|hk<;>by_cases Pd:Ow r<;>by_cases h0:bf=0
   all_goals first|rw[if_pos Pd] at Fy|rw[if_neg Pd] at Fy
   all_goals subst Fy
   all_goals first
    |(rw[<-sK h0] at hvl;simp only[AA,Nat.reduceLeDiff,↓reduceIte,AK,Bi,r1.call,r2.call,ne_eq,hk,show¬(2:Int)=4 by decide,AQ,r0,AD Pd,rb.call,f3,b3,w.l0,r3.call,hvl,AW h0,xo,sb,e1,rk.call,AW k5,wa.nodes,wa.addr ht.1,wa.f7 ht.1,ad,s8];done)
    |(rw[<-sK h0] at hvl;simp only[AA,Nat.reduceLeDiff,↓reduceIte,AK,Bi,r1.call,r2.call,ne_eq,hk,show¬(2:Int)=4 by decide,AQ,r0,AB Pd,rb.call,f3,b3,w.l0,r3.call,hvl,AW h0,xo,sb,e1,rk.call,AW k5,wa.nodes,wa.addr ht.1,wa.f7 ht.1,ad,s8];done)
    |(rw[Tr h0] at ri;simp only[AA,Nat.reduceLeDiff,↓reduceIte,AK,Bi,r1.call,r2.call,ne_eq,hk,show¬(2:Int)=4 by decide,AQ,r0,AD Pd,rb.call,f3,b3,w.l0,r3.call,hvl,h0,ri.call,xo,sb,e1,rk.call,AW k5,wa.nodes,wa.addr ht.1,wa.f7 ht.1,ad,s8];done)
    |(rw[Tr h0] at ri;simp only[AA,Nat.reduceLeDiff,↓reduceIte,AK,Bi,r1.call,r2.call,ne_eq,hk,show¬(2:Int)=4 by decide,AQ,r0,AB Pd,rb.call,f3,b3,w.l0,r3.call,hvl,h0,ri.call,xo,sb,e1,rk.call,AW k5,wa.nodes,wa.addr ht.1,wa.f7 ht.1,ad,s8];done)
  .rw[if_neg k5];refine⟨h5,G5,?_,w5,x5⟩;rw[Ab,T4,zL];rcases hk with hk|hk<;>by_cases Pd:Ow r<;>by_cases h0:bf=0
   all_goals first|rw[if_pos Pd] at Fy|rw[if_neg Pd] at Fy
   all_goals subst Fy
   all_goals first
    |(rw[<-sK h0] at hvl;simp only[AA,Nat.reduceLeDiff,↓reduceIte,AK,Bi,r1.call,r2.call,ne_eq,hk,show¬(2:Int)=4 by decide,AQ,r0,AD Pd,rb.call,f3,b3,w.l0,r3.call,hvl,AW h0,xo,sb,e1,rk.call,k5,rd.call,Bx,r4.call,r5.call];done)
    |(rw[<-sK h0] at hvl;simp only[AA,Nat.reduceLeDiff,↓reduceIte,AK,Bi,r1.call,r2.call,ne_eq,hk,show¬(2:Int)=4 by decide,AQ,r0,AB Pd,rb.call,f3,b3,w.l0,r3.call,hvl,AW h0,xo,sb,e1,rk.call,k5,rd.call,Bx,r4.call,r5.call];done)
    |(rw[Tr h0] at ri;simp only[AA,Nat.reduceLeDiff,↓reduceIte,AK,Bi,r1.call,r2.call,ne_eq,hk,show¬(2:Int)=4 by decide,AQ,r0,AD Pd,rb.call,f3,b3,w.l0,r3.call,hvl,h0,ri.call,xo,sb,e1,rk.call,k5,rd.call,Bx,r4.call,r5.call];done)
    |(rw[Tr h0] at ri;simp only[AA,Nat.reduceLeDiff,↓reduceIte,AK,Bi,r1.call,r2.call,ne_eq,hk,show¬(2:Int)=4 by decide,AQ,r0,AB Pd,rb.call,f3,b3,w.l0,r3.call,hvl,h0,ri.call,xo,sb,e1,rk.call,k5,rd.call,Bx,r4.call,r5.call];done)
theorem RX.Ln{s:As}{p bf x:Int}(hstart:(¬x=0/\p=x/\bf=0)\/(x=0/\BI cx 205 [Pt bi 0,I 0] h (.tuple [I p,I bf]) h))(w:RX h bi a o c t G b)(ok:DG b)(rm:BR b (m+1))(hs:s.length<=100000):
  ∃h' G',BI cx 127 [Pt bi 0,.str s,I x] h (.tuple []) h'/\RX h' bi a o c t G' {b with a:=BS.Es b.a s p bf}/\Dh h (own bi G) h' (own bi G'):=by
 have r2:=Lq w p;unfold BS.Es;by_cases hk:Ke (b.a.nd p).kind
 .rw[if_pos hk];have hp:b.a.has p:=by
   by_cases hp:b.a.has p;·exact hp
   .rw[GN hp] at hk;unfold Ke at hk;simp at hk
  have Zl:=ok.ok.Cz p hp;have rd:=pV w p;rw[if_pos hp] at rd;obtain⟨h4,h5,G5,r4,r5,w5,x5⟩:=w.leaf (m:=m) (k:=6) (s:=s) ok rm (.inr rfl) Zl hs p bf;refine⟨h5,G5,?_,w5,x5⟩;rw[Ab,mK,t127];rcases hstart with⟨hx,rfl,rfl⟩|⟨hx,r1⟩
  .rcases hk with hk|hk|hk<;>simp only[AA,Nat.reduceLeDiff,↓reduceIte,AK,Bi,AQ,r2.call,ne_eq,hk,show¬(2:Int)=1 by decide,show¬(4:Int)=1 by decide,show¬(4:Int)=2 by decide,w.l0,rd.call,Bx,r4.call,r5.call,hx]
  .rcases hk with hk|hk|hk<;>simp only[AA,Nat.reduceLeDiff,↓reduceIte,AK,Bi,AQ,r2.call,ne_eq,hk,show¬(2:Int)=1 by decide,show¬(4:Int)=1 by decide,show¬(4:Int)=2 by decide,w.l0,rd.call,Bx,r4.call,r5.call,AW hx,r1.call]
 .rw[if_neg hk];refine⟨h,G,?_,w,.refl⟩;unfold Ke at hk;have k1:¬(b.a.nd p).kind=1:=by omega
  have k2:¬(b.a.nd p).kind=2:=by omega
  have k4:¬(b.a.nd p).kind=4:=by omega
  rw[Ab,mK,t127];rcases hstart with⟨hx,rfl,rfl⟩|⟨hx,r1⟩
  .simp only[AA,Nat.reduceLeDiff,↓reduceIte,AK,Bi,AQ,r2.call,ne_eq,k1,k2,k4,hx]
  .simp only[AA,Nat.reduceLeDiff,↓reduceIte,AK,Bi,AQ,r2.call,ne_eq,k1,k2,k4,AW hx,r1.call]
theorem aMx(w:RX h bi a o c t G b)(ok:DG b)(rm:BR b (m+1))(hnm:Nm b.a)(s:As)(hs:s.length<=100000)(x:Int):
  ∃h' G',BI cx 127 [Pt bi 0,.str s,I x] h (.tuple []) h'/\RX h' bi a o c t G' (b.J2 s x)/\Dh h (own bi G) h' (own bi G'):=by
 unfold BS.J2;by_cases h0:x=0;·rw[if_pos h0];exact RX.Ln (p:=(b.place 0).1) (bf:=(b.place 0).2) (.inr ⟨h0,pX w ok rm hnm 0⟩) w ok rm hs
 .rw[if_neg h0];exact RX.Ln (p:=x) (bf:=0) (.inl ⟨h0,rfl,rfl⟩) w ok rm hs
end
def dM(n:Int)(l:List Ce):List Ce:=if 0<=EG n l then A7 l (EG n l).toNat else l
theorem dN{α:Type}{l:List α}{k:Nat}{x:α}(hk:k<l.length):(A7 l k).take k++x::(A7 l k).drop k=l.set k x:=by
 have h1:(l.take k).length=k:=by rw[Al];omega
 unfold A7;rw[KM h1,NI h1,BZ,if_pos hk]
theorem S9{p n:Nat}(h:p<=n):Cn (p:Int) n=p:=by unfold Cn;omega
section
variable{h h':Ag}{bi a:Nat}{o c t:Aa}{G G' F:Nat->Prop}{b:BS}{x:Int}{m:Nat}
variable{nm:As}{av:Aa}{l:List AU}{r:List Aa}{sp p:Int}
theorem BN.ix{cl:List Ce}{n:Nat}(hc:BN cl c)(hb:cl.length<=900000000)(x:Int)(h:Ag):BI cx 218 [c,I x] h (I (EG x cl)) h:=by obtain⟨fs,F0,hv⟩:=hc;have:=aK2 (h:=h) hv (by rw[<-F0,Ah] at hb;omega) x;rwa [VS,F0] at this
theorem BN.wo{cl:List Ce}(hc:BN cl c)(hb:cl.length<=900000000){k:Nat}(hk:k<cl.length)(h:Ag):∃u,BI cx 271 [c,I (k:Int)] h u h/\BN (A7 cl k) u/\u.cells=[u]:=by
 obtain⟨fs,F0,hv⟩:=hc;have hl:cl.length=fs.length:=by rw[<-F0,Ah]
 obtain⟨u,r,hu⟩:=aGh (h:=h) hv (by omega) (k:=k) (by omega);exact⟨u,r,⟨A7 fs k,by unfold A7;rw[BE,HV,NG,F0],hu⟩,AM.cells hu⟩
theorem BN.wi{cl:List Ce}(hc:BN cl c)(hb:cl.length<=900000000){e:Ce}{v:Aa}(hv:Bz e.Ay v)(he:e.Ay.length<=1000000000)(i:Int)(h:Ag):∃u,BI cx 136 [c,.agg [I e.node,.str e.name,v],I i] h u h/\BN (cl.take (Cn i cl.length)++e::cl.drop (Cn i cl.length)) u/\u.cells=[u]:=by
 obtain⟨fs,F0,UD⟩:=hc;have hl:cl.length=fs.length:=by rw[<-F0,Ah]
 obtain⟨u,e',O6,r,hu⟩:=f82 (h:=h) UD (by omega) (e:=⟨e,v,hv⟩) he i;refine⟨u,r,⟨_,?_,hu⟩,AM.cells hu⟩;rw[BE,Bm,HV,NG,F0,O6,hl]
theorem cr(w:RX h bi a o c t G b)(hc:BN b.A3 c)(hb:b.A3.length<=900000000)(x:Int):
  ∃h' c',BI cx 278 [Pt bi 0,I x] h (.tuple []) h'/\RX h' bi a o c' t G {b with A3:=dM x b.A3}/\BN (dM x b.A3) c'/\Dh h (own bi G) h' (own bi G):=by
 have r1:=hc.ix (n:=0) hb x h;unfold dM;by_cases h0:0<=EG x b.A3;·obtain⟨q,hq,e,_⟩:=GH h0;obtain⟨u,r2,hu,huc⟩:=hc.wo hb hq h;rw[if_pos h0];rw[e] at r1⊢;rw[AS];refine⟨_,u,?_,w.Ki,hu,Bg⟩;rw[Ab,oO,aBB];simp only[AA,Bi,w.l3,r1.call,show(0:Int)<=(q:Int) by omega,r2.call,w.st (k:=3) (v0:=c) rfl huc]
 .rw[if_neg h0];refine⟨h,c,?_,w,hc,.refl⟩;rw[Ab,oO,aBB];simp only[AA,Bi,w.l3,r1.call,h0]
structure tJ(h:Ag)(bi a:Nat)(t:Aa)(G0:Nat->Prop)(fe blk anc:Int)(k N m:Nat)(s0:BS×Int×Nat)(n:Nat)(h1:Ag)(o c:Aa)(G:Nat->Prop)(s:BS×Int×Nat):Prop where
 le:n<=N
 w:RX h1 bi a o c t G s.1
 hc:BN s.1.A3 c
 ok:DG s.1
 rm:BR s.1 (m+4*n)
 nm:Nm s.1.a
 last:s.1.a.has s.2.1
 x:Dh h (own bi G0) h1 (own bi G)
 wz:s.2.2<=1000000000
 len:k+n+1<=s.1.AR.length
 eq:BS.Jp blk anc (k+1+N) k N s0=BS.Jp blk anc (k+1+N) k n s
 TV:0<=EG fe s.1.A3
 AR:s.1.AR.take (k+n+1)=s0.1.AR.take (k+n+1)
 feh:s.1.a.has fe
theorem tJ.step{h1 h2:Ag}{o1 c1 o2 c2:Aa}{G1 G2:Nat->Prop}{fe blk anc:Int}{k N n:Nat}{s0 s s':BS×Int×Nat}(i:tJ h bi a t G fe blk anc k N m s0 (n+1) h1 o1 c1 G1 s)(e:s'=BS.EO blk anc (k+1+N) (k+(n+1)) s.1 s.2.1 s.2.2)
  (w:RX h2 bi a o2 c2 t G2 s'.1) (hc:BN s'.1.A3 c2) (x:Dh h1 (own bi G1) h2 (own bi G2)) (mk:s'.2.2<=1000000000) (TV:0<=EG fe s'.1.A3):
  tJ h bi a t G fe blk anc k N m s0 n h2 o2 c2 G2 s':=by
 obtain⟨ok',last',le'⟩:=Vu (blk:=blk) (anc:=anc) (far:=k+1+N) (i:=k+(n+1)) (m:=s.2.2) i.ok i.last;have hl:=i.len;obtain⟨op1,op2⟩:=XU (blk:=blk) (anc:=anc) (far:=k+1+N) (i:=k+(n+1)) (l:=s.2.1) (mk:=s.2.2) (b:=s.1) (by omega);have rm':=Nc (blk:=blk) (anc:=anc) (far:=k+1+N) (i:=k+(n+1)) (l:=s.2.1) (mk:=s.2.2) (m:=m+4*n) (i.rm.le (by omega));have nm':=Nm.EO (blk:=blk) (anc:=anc) (far:=k+1+N) (i:=k+(n+1)) (l:=s.2.1) (mk:=s.2.2) i.nm i.rm;have eq':BS.Jp blk anc (k+1+N) k (n+1) s=BS.Jp blk anc (k+1+N) k n (BS.EO blk anc (k+1+N) (k+(n+1)) s.1 s.2.1 s.2.2):=rfl;have eq0:=i.eq.trans eq';have MD:=i.AR;rw[<-e] at ok' last' le' op1 op2 rm' nm' eq0;refine⟨by have:=i.le;omega,w,hc,ok',rm',nm',last',i.x.trans x,mk,by omega,eq0,TV,?_,le'.has _ i.feh⟩;have:=Cf (λl=>l.take (k+(n+1))) MD;simp only[GX] at this;rw[show k+n+1=k+(n+1) by omega,op1];rwa [Co (by omega)] at this
theorem aHV{anc fe:Int}{k N f:Nat}(w:RX h bi a o c t G b)(hc:BN b.A3 c)(ok:DG b)(rm:BR b (m+4*N))(hnm:Nm b.a)(hN:k+1+N<b.AR.length)(hf:f<=1000000000){fb:Item}(sI:b.AR[k+1+N]=fb)(OE:AL (Bp fe) b.AR=(k:Int))(TV:0<=EG fe b.A3)(feh:b.a.has fe):
  ∃h' o' c' G' s',BI cx 281 [Pt bi 0,I (f:Int),I (k:Int),I ((k+1+N:Nat):Int),I anc] h (.tuple [I s'.2.1,I (s'.2.2:Int)]) h'/\s'=BS.Jp fb.node anc (k+1+N) k N (b,fb.node,f)/\tJ h bi a t G fe fb.node anc k N m (b,fb.node,f) 0 h' o' c' G' s':=by
 have ho:=rm.AR;have ZJ:AT=140737488355328:=rfl;have aw:b.a.has fb.node:=(ok.op fb (by rw[<-sI];exact AI _)).1;have H5:Ev cx 281 [Pt bi 0,I (f:Int),I (k:Int),I ((k+1+N:Nat):Int),I anc] h λr h'=>∃o' c' G' s',r= .tuple [I s'.2.1,I (s'.2.2:Int)]/\s'=BS.Jp fb.node anc (k+1+N) k N (b,fb.node,f)/\tJ h bi a t G fe fb.node anc k N m (b,fb.node,f) 0 h' o' c' G' s':=by
  unfold Ev;have ld:A9 h none (Pt bi 2)=some o:=w.ld 2;have e0:=AM.BA (k:= .i64) w.o hN;rw[sI,Item.row] at e0;have i1:=CK (a:=((k+1+N:Nat):Int)) (b:=1) (by omega) (by omega);rw[show((k+1+N:Nat):Int)-1=((k+N:Nat):Int) by omega] at i1;rw[ph,aFH];simp only[AA,ld,e0,i1];refine Bd (λz:Nat×Int×Nat=>[I z.2.1,I (z.2.2:Int),I ((k+z.1:Nat):Int)]) (λz h1=>∃o c G1 b1,tJ h bi a t G fe fb.node anc k N m (b,fb.node,f) z.1 h1 o c G1 (b1,z.2)) (λz=>z.1) (N,fb.node,f) rfl ⟨o,c,G,b,⟨Ac _,w,hc,ok,rm,hnm,aw,.refl,hf,by simp only;omega,rfl,TV,rfl,feh⟩⟩ ?_;rintro⟨n,last,mk⟩ h1 ⟨o1,c1,G1,b1,i⟩;simp only at i;cases n with
  |zero=>simp only[AA,↓reduceIte,Bi,show¬(k:Int)<(k:Int) by omega];exact⟨_,rfl,o1,c1,G1,(b1,last,mk),rfl,i.eq.symm,i⟩
  |succ n=>
   have hnN:=i.le;have hlen:=i.len;simp only at hlen;have XV:k+(n+1)<b1.AR.length:=by omega
   have hwo:=i.rm.AR;have hwa:=i.rm.A3;have yp:=i.rm.tm;simp only at hwo hwa;have wb:RX h1 bi a o1 c1 t G1 b1:=i.w;have hcb:BN b1.A3 c1:=i.hc;have ux:mk<=1000000000:=i.wz;have uD:A9 h1 none (Pt bi 2)=some o1:=wb.ld 2;have e1:=AM.BA (k:= .i64) wb.o XV;have Ub:b1.AR.getD (k+(n+1)) Item.zero=b1.AR[k+(n+1)]:=by rw[AE,Ai XV];rfl
   have hxf:b1.AR[k+(n+1)].node≠fe:=by have h2:=Cf (λl=>l[k+(n+1)]?) i.AR;simp only[Ch] at h2;rw[if_pos (by omega),if_pos (by omega),Ai XV,Ai (by omega)] at h2;obtain⟨_,_,h3⟩:=HT OE;have h4:=h3 (k+(n+1)) (by omega) (by omega);rw[ED h2];intro h5;unfold Bp at h4;rw[h5] at h4;simp at h4
   generalize hxe:b1.AR[k+(n+1)]=x at*;obtain⟨q,hq,sM,hq0,hq2,hq3⟩:=GH i.TV;simp only at hq sM;have r2:=hcb.ix (n:=0) (by omega) x.node h1;have uB:(k:Int)<((k+(n+1):Nat):Int):=by omega
   have dec:Aw (.int .sub) [I ((k+(n+1):Nat):Int),I 1]=some (I ((k+n:Nat):Int)):=by have:=Ho (n:=k+(n+1)) (by omega) (by omega);rwa [show k+(n+1)-1=k+n by omega] at this
   have inc:Aw (.int .add) [I ((k+(n+1):Nat):Int),I 1]=some (I ((k+(n+1)+1:Nat):Int)):=BB (by omega);have dif:Aw (.int .sub) [I ((k+1+N:Nat):Int),I ((k+(n+1):Nat):Int)]=some (I ((N-n:Nat):Int)):=by rw[CK (by omega) (by omega)];congr 2;omega
   have aRv:x.row.length=4:=rfl;have cutO:∀{h2:Ag} {o2 c2:Aa} {G2:Nat->Prop} {b2:BS},RX h2 bi a o2 c2 t G2 b2->b2.AR=b1.AR->∃u1 u2 u3 u4,A9 h2 none (Pt bi 2)=some o2/\Aw (.Hv 4 false false true) [o2,I ((k+(n+1):Nat):Int)]=some u1/\Aw (.append 4 40) [.slnil,u1]=some u2/\Aw (.Hv 4 false true false) [o2,I ((k+(n+1)+1:Nat):Int)]=some u3/\Aw (.append 4 40) [u2,u3]=some u4/\Cd h2 1 (Pt bi 2) u4=some (Am.put h2 bi 2 u4)/\RX (Am.put h2 bi 2 u4) bi a u4 c2 t G2 {b2 with AR:=A7 b1.AR (k+(n+1))}:=by
    intro h2 o2 c2 G2 b2 w2 e2;have Wf:BM b1.AR o2:=by rw[<-e2];exact w2.o
    obtain⟨u1,p1,q1⟩:=AM.Lc Wf (k:= .i64) (n:=k+(n+1)) (by omega);obtain⟨u2,p2,q2⟩:=AM.Gk (b:=40) q1 (by rw[Al];omega);obtain⟨u3,p3,q3⟩:=AM.QT Wf (k:= .i64) (n:=k+(n+1)+1) (by omega);obtain⟨u4,p4,q4⟩:=AM.YE (b:=40) q2 q3 (by rw[Al,A8];omega);exact⟨u1,u2,u3,u4,w2.ld 2,p1,p2,p3,p4,w2.st (k:=2) (v0:=o2) rfl (AM.cells q4),w2.Ig q4⟩
   by_cases he:EG x.node b1.A3<0
   .obtain⟨u1,u2,u3,u4,_,p1,p2,p3,p4,s4,w4⟩:=cutO wb rfl;have es:({b1 with AR:=A7 b1.AR (k+(n+1))},last,mk)=BS.EO fb.node anc (k+1+N) (k+(n+1)) b1 last mk:=by unfold BS.EO;simp only[Ub];rw[if_pos he]
    have i2:=i.step es w4 hcb Bg ux i.TV;by_cases L2:(3:Int)<((N-n:Nat):Int);·simp only[AA,Nat.reduceLeDiff,↓reduceIte,AK,Bi,EC,uB,uD,e1,wb.l3,r2.call,AQ,dif,L2,show¬(0:Int)<=EG x.node b1.A3 by omega,he,p1,p2,inc,p3,p4,s4,dec];exact AF.next (n,last,mk) rfl ⟨_,_,_,_,i2⟩ (by simp only;omega)
    .simp only[AA,Nat.reduceLeDiff,↓reduceIte,AK,Bi,EC,uB,uD,e1,wb.l3,r2.call,AQ,dif,L2,he,p1,p2,inc,p3,p4,s4,dec];exact AF.next (n,last,mk) rfl ⟨_,_,_,_,i2⟩ (by simp only;omega)
   .obtain⟨p,hp,ep,Mj,WR,hp3⟩:=GH (L0.1 he);have DT:(0:Int)<=(p:Int):=by omega
    rw[ep] at r2;have ept:(EG x.node b1.A3).toNat=p:=by rw[ep,AS]
    have yy:b1.A3[p].node≠fe:=by rw[WR];exact hxf
    by_cases L2:(3:Int)<((N-n:Nat):Int)
    .obtain⟨c2,r3,HZ,aHW⟩:=hcb.wo (by omega) hp h1;have w2:=wb.Ki (u:=c2) (l:=A7 b1.A3 p);obtain⟨u1,u2,u3,u4,sn,p1,p2,p3,p4,s4,w4⟩:=cutO w2 rfl;have es:({b1 with A3:=A7 b1.A3 p,AR:=A7 b1.AR (k+(n+1))},last,if p<mk then mk-1 else mk)=BS.EO fb.node anc (k+1+N) (k+(n+1)) b1 last mk:=by unfold BS.EO;simp only[Ub];rw[if_neg he,if_pos (show k+(n+1)+3<k+1+N by omega),ept]
     have i2:=i.step es w4 HZ (Bg.trans Bg) (by simp only;split<;>omega) (by simp only;rw[XT i.TV hp yy];have:=i.TV;unfold down;split<;>omega);have s3:=wb.st (k:=3) (v0:=c1) rfl aHW;by_cases hpm:(p:Int)<(mk:Int);·have dm:=Ho (n:=mk) (by omega) (by omega);rw[if_pos (show p<mk by omega)] at i2;simp only[AA,Nat.reduceLeDiff,↓reduceIte,AK,Bi,EC,uB,uD,e1,wb.l3,r2.call,AQ,dif,L2,DT,r3.call,s3,hpm,dm,show(-1:Int)<0 by decide,sn,p1,p2,inc,p3,p4,s4,dec];exact AF.next (n,last,mk-1) rfl ⟨_,_,_,_,i2⟩ (by simp only;omega)
     .rw[if_neg (show¬p<mk by omega)] at i2;simp only[AA,Nat.reduceLeDiff,↓reduceIte,AK,Bi,EC,uB,uD,e1,wb.l3,r2.call,AQ,dif,L2,DT,r3.call,s3,hpm,show(-1:Int)<0 by decide,sn,p1,p2,inc,p3,p4,s4,dec];exact AF.next (n,last,mk) rfl ⟨_,_,_,_,i2⟩ (by simp only;omega)
    .obtain⟨fs,F0,hv⟩:=hcb;have Gv:b1.A3.length=fs.length:=by rw[<-F0,Ah]
     have aB5:p<fs.length:=by omega
     have efp:fs[p].c=b1.A3[p]:=by simp only[<-F0,CN]
     have e2:=AM.BA (k:= .i64) hv aB5;have sU:fs[p].v.cells=[fs[p].v]:=AM.cells fs[p].ok;have hr:Na fs[p].c.name fs[p].v [I 2,.str fs[p].c.name,ff,S [],ff,S [],ff,ff,fs[p].v,ff,S [],.int .i32 0]:=⟨I 2,ff,S [],ff,S [],ff,ff,ff,S [],.int .i32 0,rfl⟩;have Jr:=i.rm.Dj _ (AI hp);rw[<-efp] at Jr;obtain⟨h2,G2,r4,w2,x2⟩:=sk (m:=m+4*n) wb i.ok (i.rm.le (by omega)) i.nm hr fs[p].ok Jr.2 Jr.1 anc 1;obtain⟨bc,fr,le2⟩:=Ms (nm:=fs[p].c.name) (at_:=fs[p].c.Ay) (p:=anc) i.ok IV;have S6:=Ic (m:=m+4*n+1) (nm:=fs[p].c.name) (l:=fs[p].c.Ay) (sp:=1) (p:=anc) (i.rm.le (by omega)) Jr.2;have MD:(b1.Ee fs[p].c.name fs[p].c.Ay 1 anc).AR=b1.AR:=by unfold BS.Ee;rw[if_pos IV]
     have Q8:(b1.Ee fs[p].c.name fs[p].c.Ay 1 anc).A3=b1.A3:=by unfold BS.Ee;rw[if_pos IV]
     have es0:BS.EO fb.node anc (k+1+N) (k+(n+1)) b1 last mk=({b1.Ee fs[p].c.name fs[p].c.Ay 1 anc with a:=(b1.Ee fs[p].c.name fs[p].c.Ay 1 anc).a.Fg (b1.FE fs[p].c.name fs[p].c.Ay 1).node last 0,AR:=(b1.Ee fs[p].c.name fs[p].c.Ay 1 anc).AR.set (k+(n+1)) (b1.FE fs[p].c.name fs[p].c.Ay 1),A3:=(b1.Ee fs[p].c.name fs[p].c.Ay 1 anc).A3.set p {fs[p].c with node:=(b1.FE fs[p].c.name fs[p].c.Ay 1).node}},(b1.FE fs[p].c.name fs[p].c.Ay 1).node,if last=fb.node then p+1 else mk):=by unfold BS.EO;simp only[Ub];rw[if_neg he,if_neg (by omega),ept,AE,Ai hp,Ih,<-efp]
     have tQ:=Mt i.ok fr;have hna:=OX i.ok fr;have hnf:(b1.FE fs[p].c.name fs[p].c.Ay 1).node≠fe:=λe2=>fr.new (by rw[e2];exact i.feh);have aB6:(b1.FE fs[p].c.name fs[p].c.Ay 1).name.length<=1000:=Mv Jr.1;simp only at tQ hna;generalize b1.FE fs[p].c.name fs[p].c.Ay 1=nw at*;generalize b1.Ee fs[p].c.name fs[p].c.Ay 1 anc=b2 at*;have sn:A9 h2 none (Pt bi 2)=some o1:=w2.ld 2;have Wf:BM b1.AR o1:=wb.o;obtain⟨u1,p1,q1⟩:=AM.Lc Wf (k:= .i64) (n:=k+(n+1)) (by omega);obtain⟨u2,p2,q2⟩:=AM.Gk (b:=40) q1 (by rw[Al];omega);have p3:=AM.Jg (a:=nw) (b:=40) q2 (by rw[Al];omega);obtain⟨u4,p4,q4⟩:=AM.QT Wf (k:= .i64) (n:=k+(n+1)+1) (by omega);obtain⟨u5,p5,q5⟩:=AM.YE (f:=Item.row) (l:=b1.AR.take (k+(n+1))++[nw]) (b:=40) .mk q4 (by rw[Ao,Al,A8,Bc];omega);have es5:b1.AR.take (k+(n+1))++[nw]++b1.AR.drop (k+(n+1)+1)=b2.AR.set (k+(n+1)) nw:=by rw[MD,BZ,if_pos XV,Ax];rfl
     rw[es5] at q5;have sq:Aw (.By 4) [.agg nw.row]=some (.sl 4 [nw.row]):=Ld;have s5:=w2.st (k:=2) (v0:=o1) rfl (AM.cells q5);have w3:=w2.Ig q5;have x3:=x2.trans (Bg (k:=2) (v:=u5));generalize put h2 bi 2 u5=h3 at*;have l33:=w3.l3;have E_:BN b1.A3 c1:=⟨fs,F0,hv⟩;obtain⟨c2,r6,HZ,aHW⟩:=E_.wo (by omega) hp h3;obtain⟨c3,r7,aHX,aMy⟩:=HZ.wi (by rw[Gn hp];omega) (e:={fs[p].c with node:=nw.node}) fs[p].ok (by have:=Jr.2.1;simp only;omega) (p:Int) h3;rw[S9 (by rw[Gn hp];omega),dN hp] at aHX;have s6:=w3.st (k:=3) (v0:=c1) rfl aMy;have w4:=w3.Ki (u:=c3) (l:=b2.A3.set p {fs[p].c with node:=nw.node});have hc4:BN (b2.A3.set p {fs[p].c with node:=nw.node}) c3:=by rw[Q8];exact aHX
     have x4:=x3.trans (Bg (k:=3) (v:=c3));generalize put h3 bi 3 c3=h4 at*;have xa:=bc.iE (i:=nw) (k:=k+(n+1)) ⟨fr.has,fr.kind,fr.A0,fr.name⟩ (by rw[MD];exact tQ);have uA:=xa.iF (e:={fs[p].c with node:=nw.node}) (k:=p) ⟨fr.has,fr.kind⟩ (by simp only[Q8];exact hna);have rm4:BR {b2 with AR:=b2.AR.set (k+(n+1)) nw,A3:=b2.A3.set p {fs[p].c with node:=nw.node}} (m+4*n+1):=by
      refine⟨S6.n,S6.at_,S6.data,by simp only[Be];exact S6.AR,by simp only[Be];exact S6.A3,S6.tm,λe he=>?_,λi hi=>?_⟩
      .rcases Dk he with he|rfl
       .exact S6.Dj e he
       .exact Jr
      .rcases Dk hi with hi|rfl
       .exact S6.Wl i hi
       .exact aB6
     obtain⟨er,h6,G6,r8,w6,x6⟩:=w4.Zt uA rm4 nw.node last 0;have i2:=i.step es0.symm w6 hc4 (x4.trans x6) (by simp only;split<;>omega) (by simp only;rw[Q8,dB i.TV hp yy hnf];exact i.TV);have l40:=w4.l0;have incp:=BB (show p<9223372036854775807 by omega);rw[B0.row] at e2;by_cases Ql:last=fb.node;·rw[if_pos Ql] at i2;simp only[AA,Nat.reduceLeDiff,↓reduceIte,AK,Bi,EC,uB,uD,e1,wb.l3,r2.call,AQ,dif,L2,show¬(p:Int)<0 by omega,e2,sU,r4.call,sn,p1,p2,sq,p3,inc,p4,p5,s5,l33,r6.call,r7.call,s6,AW Ql,incp,l40,r8.call,dec];exact AF.next (n,nw.node,p+1) rfl ⟨_,_,_,_,i2⟩ (by simp only;omega)
     .rw[if_neg Ql] at i2;simp only[AA,Nat.reduceLeDiff,↓reduceIte,AK,Bi,EC,uB,uD,e1,wb.l3,r2.call,AQ,dif,L2,show¬(p:Int)<0 by omega,e2,sU,r4.call,sn,p1,p2,sq,p3,inc,p4,p5,s5,l33,r6.call,r7.call,s6,Ql,l40,r8.call,dec];exact AF.next (n,nw.node,mk) rfl ⟨_,_,_,_,i2⟩ (by simp only;omega)
 obtain⟨r,h',hr,o',c',G',s',rfl,e',i'⟩:=H5.ret;exact⟨h',o',c',G',s',hr,e',i'⟩
end
theorem Ta{nm:As}:∀{r:List Ce} {j:Nat},Ol nm r=(j:Int)->∃hj:j<r.reverse.length,r.reverse[j].node≠0
 |[],j,e=>by rw[Ol] at e;omega
 |x::r,j,e=>by
  rw[Ol] at e;split at e;·omega
  .rename_i h0;split at e
   .have ej:j=r.reverse.length:=by rw[Wq];omega
    subst ej;exact⟨by simp,by simpa using h0⟩
   .obtain⟨hj,h1⟩:=Ta e;refine⟨by simp at hj⊢;omega,?_⟩;simp only[FQ];rw[GL hj];exact h1
theorem jS{nm:As}{l:List Ce}{f:Nat}(e:FL nm l=(f:Int)):∃hf:f<l.length,l[f].node≠0:=by unfold FL at e;obtain⟨hj,h⟩:=Ta e;simp only[GZ] at hj h;exact⟨hj,h⟩
theorem Wd{l:List Ce}{n:Int}{q:Nat}(e:EG n l=(q:Int)):dM n l=A7 l q:=by unfold dM;rw[e,if_pos (by omega),AS]
section
variable{h h':Ag}{bi a:Nat}{o c t:Aa}{G G' F:Nat->Prop}{b:BS}{x:Int}{m:Nat}
variable{nm:As}{av:Aa}{l:List AU}{r:List Aa}{sp p:Int}
theorem BN.aHY{cl:List Ce}(hc:BN cl c)(hb:cl.length<=900000000)(nm:As)(h:Ag):BI cx 277 [c,.str nm] h (I (FL nm cl)) h:=by obtain⟨fs,F0,hv⟩:=hc;have:=aK0 (h:=h) hv (by rw[<-F0,Ah] at hb;omega) nm;rwa [pE,F0] at this
set_option maxHeartbeats 1000000 in
theorem aHZ(w:RX h bi a o c t G b)(hc:BN b.A3 c)(ok:DG b)(rm:BR b (m+4*b.AR.length+10))(hnm:Nm b.a)(nm:As):
  ∃h' o' c' G',BI cx 220 [Pt bi 0,.str nm] h (.bool (b.round nm).1) h'/\RX h' bi a o' c' t G' (b.round nm).2/\BN (b.round nm).2.A3 c'/\Dh h (own bi G) h' (own bi G'):=by
 have ho:=rm.AR;have Q8:=rm.A3;have hin:∀i∈b.AR,i.name.length<9223372036854775807:=λi hi=>by have:=rm.Wl i hi;omega
 have l3:=w.l3;have ld:A9 h none (Pt bi 2)=some o:=w.ld 2;have r1:=hc.aHY (by omega) nm h;by_cases hf:FL nm b.A3<0
 .obtain⟨h2,o2,r2,w2,x2⟩:=aHS w rm nm;have e:b.round nm=(false,b.C1 nm):=by unfold BS.round;simp only;rw[if_pos hf]
  have ea:(b.C1 nm).A3=b.A3:=by
   unfold BS.C1;split;·split<;>rfl
   .rfl
  rw[e];refine⟨h2,o2,c,G,?_,w2,by rw[ea];exact hc,x2⟩;rw[Ab,OY,iW];simp only[AA,Bi,l3,r1.call,hf,r2.call]
 obtain⟨f,Gv,ef⟩:=Ri (L0.1 hf);obtain⟨_,rh⟩:=jS ef;have dV:¬(f:Int)<0:=by omega
 rw[ef] at r1;have Km:=hc;obtain⟨fs,F0,hv⟩:=Km;have aLY:b.A3.length=fs.length:=by rw[<-F0,Ah]
 have efp:fs[f].c=b.A3[f]:=by simp only[<-F0,CN]
 have e1:=AM.BA (k:= .i64) hv (show f<fs.length by omega);have VV:=pJ ok.rU Gv rh;have Jr:=rm.Dj _ (AI Gv);have Ub:b.A3.getD f Ce.zero=b.A3[f]:=by rw[AE,Ai Gv];rfl
 rw[<-efp] at VV Jr Ub rh;generalize hfe:fs[f]=fe at*;have sU:fe.v.cells=[fe.v]:=AM.cells fe.ok;rw[B0.row] at e1;have r2:=WO (h:=h) w.o (by omega) fe.c.node;by_cases hk:AL (Bp fe.c.node) b.AR<0
 .obtain⟨h2,c2,r3,w2,HZ,x2⟩:=cr w hc (by omega) fe.c.node;rw[Wd VV] at w2 HZ;have e:b.round nm=(false,{b with A3:=A7 b.A3 f}):=by unfold BS.round;simp only;rw[if_neg hf,ef,AS,Ub,if_pos hk]
  rw[e];refine⟨h2,o,c2,G,?_,w2,HZ,x2⟩;rw[Ab,OY,iW];simp only[AA,Nat.reduceLeDiff,↓reduceIte,Bi,l3,r1.call,dV,e1,ld,r2.call,hk,r3.call]
 obtain⟨k,ek⟩:∃k:Nat,AL (Bp fe.c.node) b.AR=(k:Int):=⟨_,(Nj (L0.1 hk)).symm⟩;obtain⟨OE,hkq,_⟩:=HT ek;have cO:¬(k:Int)<0:=by omega
 rw[ek] at r2;have r3:=f250 (h:=h) w.o (by omega) hin 1 fe.c.node;by_cases Pd:I6 (Bp fe.c.node) (IL 1) b.AR.reverse=false
 .have e:b.round nm=(false,b):=by unfold BS.round;simp only;rw[if_neg hf,ef,AS,Ub,if_neg hk,if_pos (.inr Pd)]
  rw[e];refine⟨h,o,c,G,?_,w,hc,.refl⟩;rw[Pd] at r3;rw[Ab,OY,iW];simp only[AA,Nat.reduceLeDiff,↓reduceIte,Bi,l3,r1.call,dV,e1,ld,r2.call,cO,AQ,r3.call]
 have aCb:I6 (Bp fe.c.node) (IL 1) b.AR.reverse=true:=by simpa using Pd
 rw[aCb] at r3;by_cases hkz:k=0
 .have e:b.round nm=(false,b):=by unfold BS.round;simp only;rw[if_neg hf,ef,AS,Ub,if_neg hk,if_pos (.inl (by rw[ek,hkz];rfl))]
  rw[e];refine⟨h,o,c,G,?_,w,hc,.refl⟩;rw[Ab,OY,iW];simp only[AA,Nat.reduceLeDiff,↓reduceIte,Bi,l3,r1.call,dV,e1,ld,r2.call,cO,AQ,r3.call,AW (show(k:Int)=0 by omega)]
 have dE:¬(k:Int)=0:=by omega
 have r4:=f251 (h:=h) w.o (by omega) hin fe.c.node;have zh:¬(AL (Bp fe.c.node) b.AR=0\/I6 (Bp fe.c.node) (IL 1) b.AR.reverse=false):=by rw[ek];rintro(h|h);exact dE h;exact Pd h
 by_cases hfa:DA fe.c.node b.AR<0
 .have e:b.round nm=(false,{b with AR:=Gd fe.c.node b.AR,A3:=A7 b.A3 f}):=by unfold BS.round;simp only;rw[if_neg hf,ef,AS,Ub,if_neg hk,if_neg zh,if_pos hfa]
  obtain⟨u,t1,r5,hu⟩:=aGa (h:=h) w.o (by omega) fe.c.node;have w1:=w.HB (u:=t1);have w2:=w1.Ig hu;obtain⟨h3,c3,r6,w3,L2,x3⟩:=cr w2 hc (by simp only;omega) fe.c.node;simp only at w3 L2;rw[Wd VV] at w3 L2;rw[e];refine⟨h3,u,c3,G,?_,w3,L2,(w.CP.trans Bg).trans x3⟩;rw[Ab,OY,iW];simp only[AA,Nat.reduceLeDiff,↓reduceIte,Bi,l3,r1.call,dV,e1,ld,r2.call,cO,AQ,r3.call,dE,r4.call,hfa,r5.call,w1.st (k:=2) (v0:=o) rfl (AM.cells hu),r6.call]
 obtain⟨N,hN,eN⟩:∃N:Nat,k+1+N<b.AR.length/\DA fe.c.node b.AR=((k+1+N:Nat):Int):=by
  have jK:=hfa;rw[HN,if_neg hk,ek,AS] at jK⊢;unfold Ep at jK⊢;split at jK;·rename_i j hj;have:=(HE.1 hj).1;rw[A8] at this;exact⟨j,by omega,by omega⟩
  .omega
 have e2:=AM.BA (k:= .i64) w.o hN;have e3:=AM.BA (k:= .i64) w.o (show k-1<b.AR.length by omega);obtain⟨fb,sI⟩:∃fb,fb=b.AR[k+1+N]:=⟨_,rfl⟩;obtain⟨an,qk⟩:∃an,an=b.AR[k-1]'(by omega):=⟨_,rfl⟩;rw[<-sI,Item.row] at e2;rw[<-qk,Item.row] at e3;have wG:b.AR.getD (k+1+N) Item.zero=fb:=by rw[AE,Ai hN,sI];rfl
 have C_:b.AR.getD (k-1) Item.zero=an:=by rw[AE,Ai (by omega),qk];rfl
 have e:b.round nm=(true,BS.FO fe.c fb.node an.node (BS.Jp fb.node an.node (k+1+N) k N (b,fb.node,f))):=by
  unfold BS.round;simp only
  rw[if_neg hf,ef,AS,Ub,if_neg hk,if_neg zh,if_neg hfa,ek,eN,AS,AS,wG,C_,show k+1+N-1 -k=N by omega]
 have sV:=ok.op fb (by rw[sI];exact AI _);have aCc:b.AR[k].node=fe.c.node:=by simpa[Bp] using hkq
 have q_:b.a.has fe.c.node:=by rw[<-aCc];exact(ok.op _ (AI _)).1
 have Tr:=Ho (n:=k) (by omega) (by omega);have le0:=(T2 (blk:=fb.node) (anc:=an.node) (far:=k+1+N) (k:=k) (c:=N) (s:=(b,fb.node,f)) ok sV.1).2.2;obtain⟨h5,o5,c5,G5,s',r7,es,i⟩:=aHV (m:=m+10) (anc:=an.node) (fe:=fe.c.node) (f:=f) w hc ok (rm.le (by omega)) hnm hN (by omega) sI.symm ek (by rw[VV];omega) q_;rw[<-es] at le0 e;obtain⟨q,hq,sM,hq0,hq2,hq3⟩:=GH i.TV;have ux:=i.wz;have r8:=pX i.w i.ok i.rm i.nm an.node;obtain⟨h7,G7,r9,w7,x7⟩:=pW i.w i.ok i.rm (s'.1.place an.node).1 s'.2.1 (s'.1.place an.node).2;have le7:Le s'.1.a (s'.1.a.D3 s'.2.1 (s'.1.place an.node).1 (s'.1.place an.node).2):=Ib;have ok7:=i.ok.Jq (M6 (n:=s'.2.1) (p:=(s'.1.place an.node).1) (b:=(s'.1.place an.node).2) i.ok.ok) le7;have rm7:=i.rm.Jq (I4 (x:=s'.2.1) (p:=(s'.1.place an.node).1) (bf:=(s'.1.place an.node).2));have nm7:Nm (s'.1.a.D3 s'.2.1 (s'.1.place an.node).1 (s'.1.place an.node).2):=i.nm.D3;obtain⟨b2,MF⟩:∃b2,b2={s'.1 with a:=s'.1.a.D3 s'.2.1 (s'.1.place an.node).1 (s'.1.place an.node).2}:=⟨_,rfl⟩;have Wf:b2.AR=s'.1.AR:=by rw[MF]
 have HZ:b2.A3=s'.1.A3:=by rw[MF]
 have le2:Le s'.1.a b2.a:=by rw[MF];exact le7
 have nm2:Nm b2.a:=by rw[MF];exact nm7
 rw[<-MF] at w7 ok7 rm7;have hr:Na fe.c.name fe.v [I 2,.str fe.c.name,ff,S [],ff,S [],ff,ff,fe.v,ff,S [],.int .i32 0]:=⟨I 2,ff,S [],ff,S [],ff,ff,ff,S [],.int .i32 0,rfl⟩;obtain⟨h8,G8,r11,w8,x8⟩:=sk (m:=m+7) w7 ok7 (rm7.le (by omega)) nm2 hr fe.ok Jr.2 Jr.1 fb.node 1;obtain⟨dw,fr,le8⟩:=Ms (nm:=fe.c.name) (at_:=fe.c.Ay) (p:=fb.node) ok7 IV;have rj:=Ic (m:=m+7) (nm:=fe.c.name) (l:=fe.c.Ay) (sp:=1) (p:=fb.node) (rm7.le (by omega)) Jr.2;obtain⟨nw,hnw⟩:∃nw,nw=b2.FE fe.c.name fe.c.Ay 1:=⟨_,rfl⟩;obtain⟨b3,tW⟩:∃b3,b3=b2.Ee fe.c.name fe.c.Ay 1 fb.node:=⟨_,rfl⟩;have ho3:b3.AR=s'.1.AR:=by rw[tW,<-Wf];unfold BS.Ee;rw[if_pos IV]
 have L2:b3.A3=s'.1.A3:=by rw[tW,<-HZ];unfold BS.Ee;rw[if_pos IV]
 rw[<-hnw] at r11 fr;rw[<-tW] at w8 dw fr le8 rj;have aHk:(b3.a.nd fb.node).AZ.length<=1000000000:=rj.Wm.AZ dw.ok fb.node;obtain⟨kv,r12,pB⟩:∃v,BI cx 186 [Pt a 0,I fb.node] h8 v h8/\Df (b3.a.nd fb.node).AZ v:=by obtain⟨n,i,ps,wa,_⟩:=w8.w;exact b_ wa aHk
 have XV:=λ(y:Item)=>@Item.Cq y;have H5:Ev cx 220 [Pt bi 0,.str nm] h λr h'=>r= .bool true/\∃o' c' G',RX h' bi a o' c' t G' (BS.FO fe.c fb.node an.node s')/\BN (BS.FO fe.c fb.node an.node s').A3 c'/\Dh h (own bi G) h' (own bi G'):=by
  unfold Ev;rw[OY,iW];simp only[AA,Nat.reduceLeDiff,↓reduceIte,Bi,EC,l3,r1.call,dV,e1,ld,r2.call,cO,AQ,r3.call,dE,r4.call,eN,show¬((k+1+N:Nat):Int)<0 by omega,e2,Tr,e3];simp only[AA,Nat.reduceLeDiff,↓reduceIte,AK,Bi,r7.call,r8.call,r9.call,sU];simp only[AA,↓reduceIte,Bi,EC,r11.call,XV,w8.l0,r12.call];have xb:Dh h (own bi G) h8 (own bi G8):=(i.x.trans x7).trans x8;have hvl:=AM.Cp pB;refine Db (i:=0) (λj:Nat=>[I (j:Int)]) (λj h9=>j<=(b3.a.nd fb.node).AZ.length/\∃G9,RX h9 bi a o5 c5 t G9 {b3 with a:=BS.Cl b3.a nw.node ((b3.a.nd fb.node).AZ.take j)}/\DG {b3 with a:=BS.Cl b3.a nw.node ((b3.a.nd fb.node).AZ.take j)}/\BR {b3 with a:=BS.Cl b3.a nw.node ((b3.a.nd fb.node).AZ.take j)} (m+7)/\Dh h8 (own bi G8) h9 (own bi G9)) (λj=>(b3.a.nd fb.node).AZ.length-j)
   (λj h9=>j=(b3.a.nd fb.node).AZ.length/\∃G9,RX h9 bi a o5 c5 t G9 {b3 with a:=BS.Cl b3.a nw.node ((b3.a.nd fb.node).AZ.take j)}/\DG {b3 with a:=BS.Cl b3.a nw.node ((b3.a.nd fb.node).AZ.take j)}/\BR {b3 with a:=BS.Cl b3.a nw.node ((b3.a.nd fb.node).AZ.take j)} (m+7)/\Dh h8 (own bi G8) h9 (own bi G9)) 0 rfl ⟨AO _,G8,w8,dw,rj,.refl⟩ ?_ ?_
  .rintro j h9 ⟨hj,G9,w9,jL,pL,x9⟩;rcases AN j (b3.a.nd fb.node).AZ.length with hlt|DT
   .have e9:=AM.BA (k:= .i64) pB hlt;obtain⟨er,VM,G10,xc,Sm,pM⟩:=w9.Zt jL pL nw.node (b3.a.nd fb.node).AZ[j] 0;have hs:BS.Cl b3.a nw.node ((b3.a.nd fb.node).AZ.take (j+1))=(BS.Cl b3.a nw.node ((b3.a.nd fb.node).AZ.take j)).Fg nw.node (b3.a.nd fb.node).AZ[j] 0:=by rw[Av hlt,PD]
    rw[B6] at e9;simp only[AA,Bi,hvl,show(j:Int)<((b3.a.nd fb.node).AZ.length:Int) by omega,w9.l0,e9,xc.call,BB (show j<9223372036854775807 by omega)];refine .next (j+1) rfl ⟨hlt,G10,by rw[hs];exact Sm,?_,?_,x9.trans pM⟩ (by omega)
    .have:=jL.Jq (OT (p:=nw.node) (n:=(b3.a.nd fb.node).AZ[j]) (b:=0) jL.ok) M5;rw[hs];exact this
    .have:=pL.Jq (I3 (p:=nw.node) (x:=(b3.a.nd fb.node).AZ[j]) (bf:=0));rw[hs];exact this
   .simp only[AA,Bi,hvl,show¬(j:Int)<((b3.a.nd fb.node).AZ.length:Int) by omega];exact .GM j rfl ⟨by omega,G9,w9,jL,pL,x9⟩
  .rintro j h9 ⟨rfl,G9,w9,jL,pL,x9⟩;rw[Bu] at w9 jL pL;obtain⟨er,VM,G10,xc,Sm,pM⟩:=w9.Zt jL pL fb.node nw.node 0;have rl:BN ({b3 with a:=(BS.Cl b3.a nw.node (b3.a.nd fb.node).AZ).Fg fb.node nw.node 0}:BS).A3 c5:=by simp only;rw[L2];exact i.hc
   have hqa:=i.rm.A3;have wL:EG fe.c.node b3.A3=(q:Int):=by rw[L2];exact sM
   have r14:=rl.ix (n:=0) (by simp only;rw[L2];omega) fe.c.node VM;simp only at r14;rw[wL] at r14;obtain⟨ZI,U1,r15,rp,sW,x11⟩:=cr Sm rl (by simp only;rw[L2];omega) fe.c.node;simp only at rp sW;rw[Wd wL] at rp sW;obtain⟨Sl,TG⟩:∃Sl:Nat,Sl=if q<s'.2.2 then s'.2.2 -1 else s'.2.2:=⟨_,rfl⟩
   have fH:(A7 b3.A3 q).length=b3.A3.length-1:=Gn (by rw[L2];exact hq);have hal:b3.A3.length=s'.1.A3.length:=by rw[L2]
   obtain⟨u1,r16,r_,hcc12⟩:=sW.wi (by omega) (e:={fe.c with node:=nw.node}) fe.ok (by have:=Jr.2.1;simp only;omega) (Sl:Int) ZI;have l11:=rp.l3;have s12:=rp.st (k:=3) (v0:=U1) rfl hcc12;have w12:=rp.Ki (u:=u1) (l:=(A7 b3.A3 q).take (Cn Sl (A7 b3.A3 q).length)++{fe.c with node:=nw.node}::(A7 b3.A3 q).drop (Cn Sl (A7 b3.A3 q).length));have x12:=x11.trans (Bg (bi:=bi) (G:=G10) (h:=ZI) (k:=3) (v:=u1));generalize put ZI bi 3 u1=h12 at*;have hob:=i.rm.AR;have tT:b3.AR.length=s'.1.AR.length:=by rw[ho3]
   have aH0:A9 h12 none (Pt bi 2)=some o5:=w12.ld 2;obtain⟨u2,t2,r17,HU⟩:=f253 (h:=h12) w12.o (by simp only;omega) fe.c.node;simp only at HU;have w13:=w12.HB (u:=t2);have s13:=w13.st (k:=2) (v0:=o5) rfl (AM.cells HU);have w14:=w13.Ig HU;have x14:=(x12.trans w12.CP).trans (Bg (bi:=bi) (G:=G10) (h:=h12++t2) (k:=2) (v:=u2));generalize put (h12++t2) bi 2 u2=h14 at*;have dT:(CG fe.c.node b3.AR).length<=s'.1.AR.length:=by rw[<-ho3];exact Kg.length_le
   have aH1:A9 h14 none (Pt bi 2)=some u2:=w14.ld 2;have r18:=WO (h:=h14) HU (by omega) fb.node;have hli: -1<=AL (Bp fb.node) (CG fe.c.node b3.AR)/\AL (Bp fb.node) (CG fe.c.node b3.AR)<=(CG fe.c.node b3.AR).length:=by rcases CR (q:=Bp fb.node) (l:=CG fe.c.node b3.AR) with⟨h,_⟩|⟨n,h1,h2,_⟩<;>omega
   have add:=OP (a:=AL (Bp fb.node) (CG fe.c.node b3.AR)) (b:=1) (by omega) (by omega);obtain⟨u3,r19,qx⟩:=f254 (h:=h14) HU (by omega) nw (AL (Bp fb.node) (CG fe.c.node b3.AR)+1);have s15:=w14.st (k:=2) (v0:=u2) rfl (AM.cells qx);have w15:=w14.Ig qx;have x15:=x14.trans (Bg (bi:=bi) (G:=G10) (h:=h14) (k:=2) (v:=u3));have hE:BS.FO fe.c fb.node an.node s'={b3 with a:=(BS.Cl b3.a nw.node (b3.a.nd fb.node).AZ).Fg fb.node nw.node 0,A3:=(A7 b3.A3 q).take (Cn Sl (A7 b3.A3 q).length)++{fe.c with node:=nw.node}::(A7 b3.A3 q).drop (Cn Sl (A7 b3.A3 q).length),AR:=(CG fe.c.node b3.AR).take (Er (AL (Bp fb.node) (CG fe.c.node b3.AR)+1) (CG fe.c.node b3.AR).length)++nw::(CG fe.c.node b3.AR).drop (Er (AL (Bp fb.node) (CG fe.c.node b3.AR)+1) (CG fe.c.node b3.AR).length)}:=by
    unfold BS.FO;simp only
    rw[<-MF,<-tW,<-hnw,wL,AS,<-TG]
   have l10a:=Sm.l3;by_cases hqm:(q:Int)<(s'.2.2:Int);·have dm:=Ho (n:=s'.2.2) (by omega) (by omega);rw[if_pos (show q<s'.2.2 by omega)] at TG;rw[<-TG] at dm;simp only[AA,Nat.reduceLeDiff,↓reduceIte,AK,Bi,EC,w9.l0,xc.call,l10a,r14.call,hqm,AQ,dm,r15.call,l11,sU];simp only[AA,r16.call,s12,aH0,r17.call,s13,aH1,r18.call,Bx,add,r19.call,s15];rw[hE];exact⟨_,rfl,rfl,u3,u1,G10,w15,r_,(xb.trans (x9.trans pM)).trans x15⟩
   .rw[if_neg (show¬q<s'.2.2 by omega)] at TG;rw[TG] at r16;simp only[AA,Nat.reduceLeDiff,↓reduceIte,AK,Bi,EC,w9.l0,xc.call,l10a,r14.call,hqm,AQ,r15.call,l11,sU];simp only[AA,r16.call,s12,aH0,r17.call,s13,aH1,r18.call,Bx,add,r19.call,s15];rw[hE];exact⟨_,rfl,rfl,u3,u1,G10,w15,r_,(xb.trans (x9.trans pM)).trans x15⟩
 obtain⟨r,h',hr,rfl,o',c',G',w',Km,x'⟩:=H5.ret;rw[e];exact⟨h',o',c',G',hr,w',Km,x'⟩
end
end Go.Am
end
section
namespace Go.Am
open Go
set_option maxRecDepth 100000
namespace BS
def E2(b:BS)(nm:As)(k:Nat):Option Int:=
 if nm=J3 then some (IF (b.AR.take k))
 else if nm=xV then(if k=0 then some 7 else some 15)
 else if nm=xW then(if k=0 then some 7 else some 15)
 else if nm=wTr then some 14
 else if nm=R7 then some 13
 else if nm=Sb then some 13
 else if nm=Sa then some 13
 else if nm=Q5 then some 11
 else if nm=OV then some 12
 else if nm=Ex then some 9
 else if nm=A6 then some (b.tm.getLast?.getD 7)
 else if nm=Py then(if k=0 then some 7 else some 4)
 else if nm=lT then some 7
 else if nm=OW then some 20
 else if nm=Dd then some (if b.head=0 then 3 else 6)
 else if k=0 then some 7 else none
end BS
section
variable{h h':Ag}{bi a:Nat}{o c t:Aa}{G G' F:Nat->Prop}{b:BS}{x:Int}{m:Nat}
theorem ct{nd:Int}{nm:As}{pt:Bool}{k:Nat}:b.Gl ⟨nd,1,nm,pt⟩ k=b.E2 nm k:=by
 unfold BS.Gl BS.E2;simp only[BO];by_cases n0:nm=J3;·subst n0;cases k<;>rfl
 by_cases n1:nm=xV;·subst n1;cases k<;>rfl
 by_cases n2:nm=xW;·subst n2;cases k<;>rfl
 by_cases n3:nm=wTr;·subst n3;cases k<;>rfl
 by_cases n4:nm=R7;·subst n4;cases k<;>rfl
 by_cases n5:nm=Sb;·subst n5;cases k<;>rfl
 by_cases n6:nm=Sa;·subst n6;cases k<;>rfl
 by_cases n7:nm=Q5;·subst n7;cases k<;>rfl
 by_cases n8:nm=OV;·subst n8;cases k<;>rfl
 by_cases n9:nm=Ex;·subst n9;cases k<;>rfl
 by_cases Zw:nm=A6;·subst Zw;cases k<;>rfl
 by_cases dX:nm=Py;·subst dX;cases k<;>rfl
 by_cases pZ:nm=lT;·subst pZ;cases k<;>rfl
 by_cases uE:nm=OW;·subst uE;cases k<;>rfl
 by_cases sr:nm=Dd;·subst sr;cases k<;>rfl
 have hf:(Iy.find? λr=>decide (r.1=nm))=none:=by
  rw[ZA];intro r hr;simp only[Iy,AP,List.not_mem_nil,or_false] at hr;rcases hr with rfl|rfl|rfl|rfl|rfl|rfl|rfl|rfl|rfl<;>simp only[DK]<;>intro e
  .exact n3 e.symm
  .exact n4 e.symm
  .exact n5 e.symm
  .exact n6 e.symm
  .exact n7 e.symm
  .exact n8 e.symm
  .exact n9 e.symm
  .exact pZ e.symm
  .exact uE e.symm
 rw[hf];simp only[n0,n1,n2,n3,n4,n5,n6,n7,n8,n9,Zw,dX,pZ,uE,sr,Ef,or_self,false_and]
theorem cu{i:Item}{k:Nat}(h:¬i.A0=1):b.Gl i k=if k=0 then some 7 else none:=by unfold BS.Gl;rw[if_neg h]
theorem aH2(w:RX h bi a o c t G b)(rm:BR b m){k:Nat}(hk:k<=b.AR.length):BI cx 261 [Pt bi 0,I (k:Int)] h (I (BS.IF (b.AR.take k))) h:=by
 have ho:=rm.AR;have ld:A9 h none (Pt bi 2)=some o:=w.ld 2;rw[Ab,og,aFt];simp only[AA,CK (show -9223372036854775808<=(k:Int)-1 by omega) (show(k:Int)-1<9223372036854775808 by omega)];refine Bd (λn:Nat=>[I 0,I ((n:Int)-1)]) (λn h1=>n<=k/\((b.AR.take k).reverse.find? λi=>Bq [A6] i||Bq [Ex] i)=((b.AR.take n).reverse.find? λi=>Bq [A6] i||Bq [Ex] i)/\h1=h) (λn=>n) k rfl ⟨Ac _,rfl,rfl⟩ ?_;rintro n h1 ⟨hn,ha,rfl⟩;cases n with
 |zero=>simp only[AA,↓reduceIte,Bi,show¬(0:Int)<=((0:Nat):Int)-1 by omega];unfold BS.IF;rw[ha];rfl
 |succ n=>
  have hlt:n<b.AR.length:=by omega
  have i1:((n+1:Nat):Int)-1=(n:Int):=by omega
  have e1:=AM.BA (k:= .i64) w.o hlt;have em1:Aw (.By 1) [S A6]=some (.sl 1 ([A6].map CI)):=DE (ws:=[A6]) rfl (by decide);have sP:Aw (.By 1) [S Ex]=some (.sl 1 ([Ex].map CI)):=DE (ws:=[Ex]) rfl (by decide);have r2:=f167 (h:=h1) b.AR[n] (CS (ws:=[A6])) (by decide);have r3:=f167 (h:=h1) b.AR[n] (CS (ws:=[Ex])) (by decide);rw[Re hlt,I5] at ha;generalize b.AR[n]=i at*;simp only[AA,Nat.reduceLeDiff,↓reduceIte,Bi,EC,i1,show(0:Int)<=(n:Int) by omega,ld,e1,em1,r2.call,sP,r3.call,CK (show -9223372036854775808<=(n:Int)-1 by omega) (show(n:Int)-1<9223372036854775808 by omega)];rw[Cu];refine⟨λh2=>?_,λh2=>?_⟩;·simp only[h2,df] at ha;unfold BS.IF;rw[ha];simp only[h2,BO]
  .simp only[h2,Jn] at ha;rw[Cu];refine⟨λh3=>?_,λh3=>?_⟩;·rw[h3] at ha;unfold BS.IF;rw[ha];simp only[h2,C2,Ef]
   .rw[h3] at ha;exact AF.next n rfl ⟨by omega,ha,rfl⟩ (by omega)
set_option maxHeartbeats 1000000 in
theorem aH3(w:RX h bi a o c t G b)(rm:BR b m)(i:Item){k:Nat}(hk:k<=b.AR.length):BI cx 190 [Pt bi 0,.agg i.row,I (k:Int),.bool (decide (k=0))] h (.tuple [I ((b.Gl i k).getD 7),.bool (b.Gl i k).isSome]) h:=by
 have wv:=rm.tm;have l6:=w.l6;have l7:=w.l7;have lt:=AM.Cp w.t;obtain⟨nd,sp,nm,pt⟩:=i;by_cases hs:sp=1;rotate_left
 .rw[cu (by exact hs),Ab,nL,aBa];by_cases k0:k=0;·simp only[AA,Bi,Item.row,hs,k0,D8,Ih,Option.isSome_some]
  .simp only[AA,Bi,Item.row,hs,k0,Fi,Option.getD_none,Option.isSome_none]
 subst hs;rw[ct,Ab,nL,aBa];by_cases n0:nm=J3
 .have e:b.E2 nm k=some (BS.IF (b.AR.take k)):=by unfold BS.E2;rw[if_pos n0]
  rw[e];simp only[AA,IZ,Item.row,AW n0,(aH2 w rm hk).call]
 by_cases n1:nm=xV
 .have e:b.E2 nm k=(if k=0 then some 7 else some 15):=by unfold BS.E2;rw[if_neg n0,if_pos n1]
  rw[e];by_cases k0:k=0;·simp only[AA,Bi,IZ,Item.row,n0,AW n1,k0]
  .simp only[AA,Bi,IZ,Item.row,n0,AW n1,k0]
 by_cases n2:nm=xW
 .have e:b.E2 nm k=(if k=0 then some 7 else some 15):=by unfold BS.E2;rw[if_neg n0,if_neg n1,if_pos n2]
  rw[e];by_cases k0:k=0;·simp only[AA,Bi,IZ,Item.row,n0,n1,AW n2,k0]
  .simp only[AA,Bi,IZ,Item.row,n0,n1,AW n2,k0]
 by_cases n3:nm=wTr
 .have e:b.E2 nm k=some 14:=by unfold BS.E2;rw[if_neg n0,if_neg n1,if_neg n2,if_pos n3]
  rw[e];simp only[AA,IZ,Item.row,n0,n1,n2,AW n3]
 by_cases n4:nm=R7
 .have e:b.E2 nm k=some 13:=by unfold BS.E2;rw[if_neg n0,if_neg n1,if_neg n2,if_neg n3,if_pos n4]
  rw[e];simp only[AA,IZ,Item.row,n0,n1,n2,n3,AW n4]
 by_cases n5:nm=Sb
 .have e:b.E2 nm k=some 13:=by unfold BS.E2;rw[if_neg n0,if_neg n1,if_neg n2,if_neg n3,if_neg n4,if_pos n5]
  rw[e];simp only[AA,IZ,Item.row,n0,n1,n2,n3,n4,AW n5]
 by_cases n6:nm=Sa
 .have e:b.E2 nm k=some 13:=by unfold BS.E2;rw[if_neg n0,if_neg n1,if_neg n2,if_neg n3,if_neg n4,if_neg n5,if_pos n6]
  rw[e];simp only[AA,IZ,Item.row,n0,n1,n2,n3,n4,n5,AW n6]
 by_cases n7:nm=Q5
 .have e:b.E2 nm k=some 11:=by unfold BS.E2;rw[if_neg n0,if_neg n1,if_neg n2,if_neg n3,if_neg n4,if_neg n5,if_neg n6,if_pos n7]
  rw[e];simp only[AA,IZ,Item.row,n0,n1,n2,n3,n4,n5,n6,AW n7]
 by_cases n8:nm=OV
 .have e:b.E2 nm k=some 12:=by unfold BS.E2;rw[if_neg n0,if_neg n1,if_neg n2,if_neg n3,if_neg n4,if_neg n5,if_neg n6,if_neg n7,if_pos n8]
  rw[e];simp only[AA,IZ,Item.row,n0,n1,n2,n3,n4,n5,n6,n7,AW n8]
 by_cases n9:nm=Ex
 .have e:b.E2 nm k=some 9:=by unfold BS.E2;rw[if_neg n0,if_neg n1,if_neg n2,if_neg n3,if_neg n4,if_neg n5,if_neg n6,if_neg n7,if_neg n8,if_pos n9]
  rw[e];simp only[AA,IZ,Item.row,n0,n1,n2,n3,n4,n5,n6,n7,n8,AW n9]
 by_cases Zw:nm=A6
 .have e:b.E2 nm k=some (b.tm.getLast?.getD 7):=by unfold BS.E2;rw[if_neg n0,if_neg n1,if_neg n2,if_neg n3,if_neg n4,if_neg n5,if_neg n6,if_neg n7,if_neg n8,if_neg n9,if_pos Zw]
  rw[e];by_cases ht:b.tm=[]
  .have lt0:Aw (.len false) [t]=some (I 0):=by rw[lt,ht];rfl
   simp only[AA,IZ,Item.row,n0,n1,n2,n3,n4,n5,n6,n7,n8,n9,AW Zw,l6,lt0,ht,List.getLast?_nil]
  .have hpos:=FW.2 ht;have e1:=AM.BA (k:= .i64) w.t (show b.tm.length-1<b.tm.length by omega);have e2:b.tm.getLast?.getD 7=b.tm[b.tm.length-1]:=by rw[dQ,Ai (by omega)];rfl
   rw[B6] at e1;simp only[AA,IZ,Item.row,n0,n1,n2,n3,n4,n5,n6,n7,n8,n9,AW Zw,l6,lt,show(0:Int)<(b.tm.length:Int) by omega,Ho hpos (show b.tm.length<9223372036854775807 by omega),e1,e2]
 by_cases dX:nm=Py
 .have e:b.E2 nm k=(if k=0 then some 7 else some 4):=by unfold BS.E2;rw[if_neg n0,if_neg n1,if_neg n2,if_neg n3,if_neg n4,if_neg n5,if_neg n6,if_neg n7,if_neg n8,if_neg n9,if_neg Zw,if_pos dX]
  rw[e];by_cases k0:k=0;·simp only[AA,Bi,IZ,Item.row,n0,n1,n2,n3,n4,n5,n6,n7,n8,n9,Zw,AW dX,k0]
  .simp only[AA,Bi,IZ,Item.row,n0,n1,n2,n3,n4,n5,n6,n7,n8,n9,Zw,AW dX,k0]
 by_cases pZ:nm=lT
 .have e:b.E2 nm k=some 7:=by unfold BS.E2;rw[if_neg n0,if_neg n1,if_neg n2,if_neg n3,if_neg n4,if_neg n5,if_neg n6,if_neg n7,if_neg n8,if_neg n9,if_neg Zw,if_neg dX,if_pos pZ]
  rw[e];simp only[AA,IZ,Item.row,n0,n1,n2,n3,n4,n5,n6,n7,n8,n9,Zw,dX,AW pZ]
 by_cases uE:nm=OW
 .have e:b.E2 nm k=some 20:=by unfold BS.E2;rw[if_neg n0,if_neg n1,if_neg n2,if_neg n3,if_neg n4,if_neg n5,if_neg n6,if_neg n7,if_neg n8,if_neg n9,if_neg Zw,if_neg dX,if_neg pZ,if_pos uE]
  rw[e];simp only[AA,IZ,Item.row,n0,n1,n2,n3,n4,n5,n6,n7,n8,n9,Zw,dX,pZ,AW uE]
 by_cases sr:nm=Dd
 .have e:b.E2 nm k=some (if b.head=0 then 3 else 6):=by unfold BS.E2;rw[if_neg n0,if_neg n1,if_neg n2,if_neg n3,if_neg n4,if_neg n5,if_neg n6,if_neg n7,if_neg n8,if_neg n9,if_neg Zw,if_neg dX,if_neg pZ,if_neg uE,if_pos sr]
  rw[e];by_cases hh:b.head=0;·simp only[AA,IZ,Item.row,n0,n1,n2,n3,n4,n5,n6,n7,n8,n9,Zw,dX,pZ,uE,AW sr,l7,hh]
  .simp only[AA,IZ,Item.row,n0,n1,n2,n3,n4,n5,n6,n7,n8,n9,Zw,dX,pZ,uE,AW sr,l7,hh]
 have e:b.E2 nm k=if k=0 then some 7 else none:=by unfold BS.E2;rw[if_neg n0,if_neg n1,if_neg n2,if_neg n3,if_neg n4,if_neg n5,if_neg n6,if_neg n7,if_neg n8,if_neg n9,if_neg Zw,if_neg dX,if_neg pZ,if_neg uE,if_neg sr]
 rw[e];by_cases k0:k=0;·simp only[AA,Bi,IZ,Item.row,n0,n1,n2,n3,n4,n5,n6,n7,n8,n9,Zw,dX,pZ,uE,sr,k0]
 .simp only[AA,Bi,IZ,Item.row,n0,n1,n2,n3,n4,n5,n6,n7,n8,n9,Zw,dX,pZ,uE,sr,k0]
theorem su(w:RX h bi a o c t G b)(rm:BR b m):
  ∃h',BI cx 101 [Pt bi 0] h (.tuple []) h'/\RX h' bi a o c t G b.HP/\Dh h (own bi G) h' (own bi G):=by
 have ho:=rm.AR;have ld:A9 h none (Pt bi 2)=some o:=w.ld 2;have lo:=AM.Cp w.o;have Ql:=w.l9;have hlc:=w.qv;have H5:Ev cx 101 [Pt bi 0] h λr h'=>r= .tuple []/\RX h' bi a o c t G b.HP/\Dh h (own bi G) h' (own bi G):=by
  unfold Ev;rw[jt,aEB];simp only[AA,ld,lo,CK (show -9223372036854775808<=(b.AR.length:Int)-1 by omega) (show(b.AR.length:Int)-1<9223372036854775808 by omega)];have hst:∀v,Cd h 1 (Pt bi 4) (I v)=some (Am.put h bi 4 (I v)):=λv=>w.st (k:=4) rfl rfl;refine Bd (λn:Nat=>[I ((n:Int)-1)]) (λn h1=>n<=b.AR.length/\b.Ky b.AR.length=b.Ky n/\h1=h) (λn=>n) b.AR.length rfl ⟨Ac _,rfl,rfl⟩ ?_;rintro n h1 ⟨hn,ha,rfl⟩;cases n with
  |zero=>
   have e:b.HP={b with mode:=7}:=by unfold BS.HP;rw[ha];rfl
   simp only[AA,↓reduceIte,Bi,show¬(0:Int)<=((0:Nat):Int)-1 by omega,hst];exact⟨_,rfl,rfl,by rw[e];exact w.cX 7,Bg⟩
  |succ n=>
   have hlt:n<b.AR.length:=by omega
   have i1:((n+1:Nat):Int)-1=(n:Int):=by omega
   have e1:=AM.BA (k:= .i64) w.o hlt;have r3:=aH3 w rm (b.D6 n) (k:=n) (by omega);have e:b.Ky (n+1)=match b.Gl (b.D6 n) n with|some m=>m|none=>b.Ky n:=rfl
   rw[e] at ha;have Me:=CK (show -9223372036854775808<=(n:Int)-1 by omega) (show(n:Int)-1<9223372036854775808 by omega);have er1:∀(h0:n≠0\/b.KL=false),b.D6 n=b.AR[n]:=λh0=>by unfold BS.D6;rw[if_neg (by rintro⟨h1,h2⟩;rcases h0 with h0|h0;exact h0 h1;rw[h0] at h2;exact absurd h2 (by decide)),AE,Ai hlt];rfl
   have er2:n=0->b.KL=true->b.D6 n=b.ctx:=λh0 hf=>by unfold BS.D6;rw[if_pos ⟨h0,hf⟩]
   have GM:∀v,b.Gl (b.D6 n) n=some v->RX (Am.put h1 bi 4 (I v)) bi a o c t G b.HP:=λv hm=>by
    rw[hm] at ha;have e:b.HP={b with mode:=v}:=by unfold BS.HP;rw[ha]
    rw[e];exact w.cX v
   have nxt:b.Gl (b.D6 n) n=none->b.Ky b.AR.length=b.Ky n:=λhm=>by rw[hm] at ha;exact ha
   generalize hx:b.AR[n]=x at*;by_cases h0:n=0
   .have Wz:((n:Int)=0)=True:=AW (by omega);rw[AD h0] at r3;cases hf:b.KL with
    |true=>
     rw[er2 h0 hf] at r3 GM nxt;rw[hf] at Ql;cases hm:b.Gl b.ctx n with
     |none=>rw[hm] at r3;simp only[AA,Nat.reduceLeDiff,↓reduceIte,EC,i1,show(0:Int)<=(n:Int) by omega,ld,e1,Wz,Ql,hlc,r3.call,Me,IZ];exact AF.next n rfl ⟨by omega,nxt hm,rfl⟩ (by omega)
     |some v=>rw[hm] at r3;simp only[AA,Nat.reduceLeDiff,↓reduceIte,EC,i1,show(0:Int)<=(n:Int) by omega,ld,e1,Wz,Ql,hlc,r3.call,hst,IZ];exact⟨_,rfl,rfl,GM v hm,Bg⟩
    |false=>
     rw[er1 (.inr hf)] at r3 GM nxt;rw[hf] at Ql;cases hm:b.Gl x n with
     |none=>rw[hm] at r3;simp only[AA,Nat.reduceLeDiff,↓reduceIte,EC,i1,show(0:Int)<=(n:Int) by omega,ld,e1,Wz,Ql,r3.call,Me,IZ];exact AF.next n rfl ⟨by omega,nxt hm,rfl⟩ (by omega)
     |some v=>rw[hm] at r3;simp only[AA,Nat.reduceLeDiff,↓reduceIte,EC,i1,show(0:Int)<=(n:Int) by omega,ld,e1,Wz,Ql,r3.call,hst,IZ];exact⟨_,rfl,rfl,GM v hm,Bg⟩
   .have Wz:¬(n:Int)=0:=by omega
    rw[AB h0] at r3;rw[er1 (.inl h0)] at r3 GM nxt;cases hm:b.Gl x n with
    |none=>rw[hm] at r3;simp only[AA,Nat.reduceLeDiff,↓reduceIte,EC,i1,show(0:Int)<=(n:Int) by omega,ld,e1,Wz,r3.call,Me,IZ];exact AF.next n rfl ⟨by omega,nxt hm,rfl⟩ (by omega)
    |some v=>rw[hm] at r3;simp only[AA,Nat.reduceLeDiff,↓reduceIte,EC,i1,show(0:Int)<=(n:Int) by omega,ld,e1,Wz,r3.call,hst,IZ];exact⟨_,rfl,rfl,GM v hm,Bg⟩
 obtain⟨r,h',hr,rfl,w',x'⟩:=H5.ret;exact⟨h',hr,w',x'⟩
theorem aMA(w:RX h bi a o c t G b)(hc:BN b.A3 c)(rm:BR b m):
  ∃h' o' c' t',BI cx 134 [Pt bi 0] h (.tuple []) h'/\RX h' bi a o' c' t' G b.C8/\BN b.C8.A3 c'/\Dh h (own bi G) h' (own bi G):=by
 have ZJ:AT=140737488355328:=rfl;have ho:=rm.AR;have Q8:=rm.A3;have wv:=rm.tm;have hin:∀i∈b.AR,i.name.length<9223372036854775807:=λi hi=>by have:=rm.Wl i hi;omega
 have ld:A9 h none (Pt bi 2)=some o:=w.ld 2;have r1:=aBR (h:=h) w.o (by omega) A6;by_cases Fh:AL (Bq [A6]) b.AR<0;·refine⟨h,o,c,t,?_,by unfold BS.C8;rw[if_pos Fh];exact w,by unfold BS.C8;rw[if_pos Fh];exact hc,.refl⟩;rw[Ab,YZ,ki];simp only[AA,Bi,ld,r1.call,Fh]
 obtain⟨u1,t1,r2,Ny⟩:=f165 (h:=h) w.o (by omega) hin [] true;have hst:Ek [] true=Cs:=by funext a;rfl
 rw[hst] at Ny;have w0:=w.HB (u:=t1);have s1:=w0.st (k:=2) (v0:=o) rfl (AM.cells Ny);have w1:=w0.Ig Ny;have x1:=w.CP.trans (Bg (bi:=bi) (G:=G) (h:=h++t1) (k:=2) (v:=u1));have l1:(Ds Cs CD b.AR).length<=b.AR.length:=OQ;generalize put (h++t1) bi 2 u1=h1 at*;have uD:A9 h1 none (Pt bi 2)=some u1:=w1.ld 2;obtain⟨u2,t2,r3,HU⟩:=f85 (h:=h1) Ny (by omega) (CS (ws:=[A6])) (by decide);rw[<-M4] at HU;have w2':=w1.HB (u:=t2);have s2:=w2'.st (k:=2) (v0:=u1) rfl (AM.cells HU);have w2:=w2'.Ig HU;have x2:=(x1.trans w1.CP).trans (Bg (bi:=bi) (G:=G) (h:=h1++t2) (k:=2) (v:=u2));generalize put (h1++t2) bi 2 u2=h2 at*;have l32:=w2.l3;obtain⟨fs,F0,hcs⟩:=hc;have Gv:fs.length=b.A3.length:=by rw[<-F0,Ah]
 obtain⟨u3,r4,qx⟩:=f84 (h:=h2) hcs (by omega);have s3:=w2.st (k:=3) (v0:=c) rfl (AM.cells qx);have w3:=w2.Ki (u:=u3) (l:=FD b.A3);have x3:=x2.trans (Bg (bi:=bi) (G:=G) (h:=h2) (k:=3) (v:=u3));have L2:BN (FD b.A3) u3:=⟨_,by rw[T9,F0],qx⟩;generalize put h2 bi 3 u3=h3 at*;have lt:=AM.Cp w.t;have l6:=w3.l6;have e:b.C8=BS.HP {b with AR:=Ds CD (Bq [A6]) (Ds Cs CD b.AR),A3:=FD b.A3,tm:=b.tm.dropLast}:=by unfold BS.C8;rw[if_neg Fh]
 have sO:(Ds CD (Bq [A6]) (Ds Cs CD b.AR)).Sublist b.AR:=(EH (p:=CD) (q:=Bq [A6]) (l:=Ds Cs CD b.AR)).trans EH;by_cases h0:b.tm=[]
 .have w3':RX h3 bi a u2 u3 t G {b with AR:=Ds CD (Bq [A6]) (Ds Cs CD b.AR),A3:=FD b.A3,tm:=b.tm.dropLast}:=by
   have:b.tm.dropLast=b.tm:=by rw[h0];rfl
   rw[this];exact w3
  obtain⟨h4,r5,w4,x4⟩:=su w3' (rm.sub (b':={b with AR:=Ds CD (Bq [A6]) (Ds Cs CD b.AR),A3:=FD b.A3,tm:=b.tm.dropLast}) rfl sO (EZ _ _) (by simp));refine⟨h4,u2,u3,t,?_,by rw[e];exact w4,by rw[e];exact L2,x3.trans x4⟩;have lt0:Aw (.len false) [t]=some (I 0):=by rw[lt,h0];rfl
  rw[Ab,YZ,ki];simp only[AA,ld,r1.call,Fh,r2.call,s1,uD,cY,r3.call,s2,l32,r4.call,s3,l6,lt0,r5.call,IZ]
 .have hpos:=FW.2 h0;obtain⟨u4,e4,hu4⟩:=AM.Lc w.t (k:= .i64) (n:=b.tm.length-1) (by omega);rw[<-List.dropLast_eq_take] at hu4;obtain⟨u5,e5,hu5⟩:=AM.Gk (b:=8) hu4 (by simp;omega);have s5:=w3.st (k:=6) (v0:=t) rfl (AM.cells hu5);have w4:=w3.jG hu5;obtain⟨h5,r6,w5,x5⟩:=su w4 (rm.sub (b':={b with AR:=Ds CD (Bq [A6]) (Ds Cs CD b.AR),A3:=FD b.A3,tm:=b.tm.dropLast}) rfl sO (EZ _ _) (by simp));refine⟨h5,u2,u3,u5,?_,by rw[e];exact w5,by rw[e];exact L2,(x3.trans Bg).trans x5⟩;rw[Ab,YZ,ki];simp only[AA,ld,r1.call,Fh,r2.call,s1,uD,cY,r3.call,s2,l32,r4.call,s3,l6,lt,show(0:Int)<(b.tm.length:Int) by omega,Ho hpos (show b.tm.length<9223372036854775807 by omega),e4,e5,s5,r6.call,IZ]
theorem aMB(w:RX h bi a o c t G b)(hc:BN b.A3 c)(ok:DG b)(rm:BR b (m+8*(4*(b.AR.length+8)+10)))(hnm:Nm b.a)(nm:As):
  ∃h' o' c' G',BI cx 132 [Pt bi 0,.str nm] h (.tuple []) h'/\RX h' bi a o' c' t G' (b.Hr nm)/\BN (b.Hr nm).A3 c'/\Dh h (own bi G) h' (own bi G'):=by
 have ho:=rm.AR;have Q8:=rm.A3;have ld:A9 h none (Pt bi 2)=some o:=w.ld 2;have r1:=cg w rm;have em:Aw (.By 1) [.str nm]=some (.sl 1 ([nm].map CI)):=DE (ws:=[nm]) rfl (by simp);have r2:BI cx 214 [.agg (EW b.AR).row,.sl 1 ([nm].map CI)] h (.bool (Bq [nm] (EW b.AR))) h:=f167 (EW b.AR) (CS (ws:=[nm])) (by simp);have r3:=hc.ix (n:=0) (by omega) (EW b.AR).node h;have hpa:b.Qa.A3=b.A3:=by unfold BS.Qa;split<;>rfl
 have l3:=w.l3;by_cases h1:Bq [nm] (EW b.AR)=true/\EG (EW b.AR).node b.A3<0
 .obtain⟨u,t1,r4,hu⟩:=aF9 (h:=h) w.o (by omega);have hcu:JL b.AR ((b.AR.length:Int)-1)=b.Qa.AR:=by
   unfold BS.Qa;split;·unfold JL;rw[Az (by omega)]
   .unfold JL;congr 1;omega
  rw[hcu] at hu;have w1:=w.HB (u:=t1);have w2:=w1.Ig hu;have e:b.Hr nm=b.Qa:=by unfold BS.Hr;rw[if_pos h1]
  have e2:({b with AR:=b.Qa.AR}:BS)=b.Qa:=by unfold BS.Qa;split<;>rfl
  rw[e2] at w2;rw[e];refine⟨_,u,c,G,?_,w2,by rw[hpa];exact hc,w.CP.trans Bg⟩;rw[h1.1] at r2;rw[Ab,mM,aAI];simp only[AA,Bi,EC,r1.call,em,r2.call,l3,Bx,r3.call,h1.2,ld,r4.call,w1.st (k:=2) (v0:=o) rfl (AM.cells hu)]
 have e:b.Hr nm=BS.DM 8 b nm:=by unfold BS.Hr;rw[if_neg h1]
 rw[e];have H5:Ev cx 132 [Pt bi 0,.str nm] h λr h'=>r= .tuple []/\∃o' c' G',RX h' bi a o' c' t G' (BS.DM 8 b nm)/\BN (BS.DM 8 b nm).A3 c'/\Dh h (own bi G) h' (own bi G'):=by
  unfold Ev;rw[mM,aAI];have GM:∀(Q:Post) (k:EN->List Aa->IT),(∀x vs h1,(x= .exit 0\/x= .ret)->(∃o' c' G',RX h1 bi a o' c' t G' (BS.DM 8 b nm)/\BN (BS.DM 8 b nm).A3 c'/\Dh h (own bi G) h1 (own bi G'))->W cx (k x vs) Q h1)->
    W cx (.loop 3 [I 1] (λc17=> .op (.int .leq) [g c17 0,I 8] λv18=> .AJ v18 (.call 220 [Pt bi 0,.str nm] λv19=> .op (.un .not) [v19] λv20=> .AJ v20 (.ret .ret [g c17 0]) (.op (.int .add) [g c17 0,I 1] λv21=> .ret .normal [v21])) (.ret (.exit 0) [g c17 0])) k) Q h:=by
   intro Q k hk;refine Bd (λn:Nat=>[I ((9 -n:Nat):Int)]) (λn h1=>n<=8/\∃o1 c1 G1 b1,RX h1 bi a o1 c1 t G1 b1/\BN b1.A3 c1/\DG b1/\Nm b1.a/\BR b1 (m+n*(4*(b.AR.length+8)+10))/\b1.AR.length<=b.AR.length+(8 -n)/\BS.DM 8 b nm=BS.DM n b1 nm/\Dh h (own bi G) h1 (own bi G1)) (λn=>n) 8 rfl ⟨Ac _,o,c,G,b,w,hc,ok,hnm,rm,by omega,rfl,.refl⟩ ?_;rintro n h1 ⟨hn,o1,c1,G1,b1,w1,Qk,TD,nm1,jH,TZ,e1,x1⟩;cases n with
   |zero=>simp only[AA,Bi,show¬((9 -0:Nat):Int)<=8 by decide];exact hk _ _ _ (.inl rfl) ⟨o1,c1,G1,by rw[e1];exact w1,by rw[e1];exact Qk,x1⟩
   |succ n=>
    have hsp:(n+1)*(4*(b.AR.length+8)+10)=n*(4*(b.AR.length+8)+10)+(4*(b.AR.length+8)+10):=by rw[BC,Ez]
    rw[hsp] at jH;have sY:BR b1 (m+n*(4*(b.AR.length+8)+10)+4*b1.AR.length+10):=jH.le (by omega);obtain⟨h2,o2,c2,G2,r5,w2,HZ,x2⟩:=aHZ w1 Qk TD sY nm1 nm;obtain⟨S6,Xr⟩:=Nd sY nm;have bc:=(Vv (nm:=nm) TD).1;have nm2:=Nm.round (nm:=nm) nm1 sY;have hlt:((9 -(n+1):Nat):Int)<=8:=by omega
    have inc:Aw (.int .add) [I ((9 -(n+1):Nat):Int),I 1]=some (I ((9 -n:Nat):Int)):=by have:=BB (n:=9 -(n+1)) (by omega);rwa [show 9 -(n+1)+1=9 -n by omega] at this
    have er:BS.DM (n+1) b1 nm=if(b1.round nm).1 then BS.DM n (b1.round nm).2 nm else(b1.round nm).2:=rfl
    cases hr:(b1.round nm).1 with
    |true=>rw[hr] at r5 er;simp only[AA,Bi,hlt,r5.call,inc];exact AF.next n rfl ⟨by omega,o2,c2,G2,_,w2,HZ,bc,nm2,S6,by omega,e1.trans er,x1.trans x2⟩ (by omega)
    |false=>rw[hr] at r5 er;simp only[AA,Bi,hlt,r5.call];exact hk _ _ _ (.inr rfl) ⟨o2,c2,G2,by rw[e1,er];exact w2,by rw[e1,er];exact HZ,x1.trans x2⟩
  by_cases h2:Bq [nm] (EW b.AR)=true
  .have h3:¬EG (EW b.AR).node b.A3<0:=λh=>h1 ⟨h2,h⟩;rw[h2] at r2;simp only[AA,Bi,EC,r1.call,em,r2.call,l3,Bx,r3.call,h3];refine GM _ _ ?_;rintro x vs h1 (rfl|rfl) ⟨o',c',G',a1,a2,a3⟩;·simp only[AA];exact⟨_,rfl,rfl,o',c',G',a1,a2,a3⟩
   .simp only[AA];exact⟨_,rfl,rfl,o',c',G',a1,a2,a3⟩
  .have h2:Bq [nm] (EW b.AR)=false:=by simpa using h2
   rw[h2] at r2;simp only[AA,r1.call,em,r2.call];refine GM _ _ ?_;rintro x vs h1 (rfl|rfl) ⟨o',c',G',a1,a2,a3⟩;·simp only[AA];exact⟨_,rfl,rfl,o',c',G',a1,a2,a3⟩
   .simp only[AA];exact⟨_,rfl,rfl,o',c',G',a1,a2,a3⟩
 obtain⟨r,h',hr,rfl,o',c',G',w',Km,x'⟩:=H5.ret;exact⟨h',o',c',G',hr,w',Km,x'⟩
end
end Go.Am
end
section
namespace Go.Am
open Go
set_option maxRecDepth 100000
theorem tK{h:Ag}{fs:List B0}{v:Aa}(hv:C0 fs v)(hne:fs≠[])(hl:fs.length<=1000000000):IG h 3 48 .slnil v=some (h++[.cells (fs.map B0.row).flatten],.Ck h.length 0 fs.length 3):=by have hm:AT=140737488355328:=rfl;have:=I0 (h:=h) (s:= .slnil) (z:=3) (b:=48) (.inl rfl) hv (by simpa using hne) (by rw[Ah];omega);rwa [Ah] at this
theorem jT{h:Ag}{v:Aa}(hv:C0 [] v):IG h 3 48 .slnil v=some (h,.slnil):=Oc (.inl rfl) hv
section
variable{h h':Ag}{bi a:Nat}{o c t:Aa}{G G' F:Nat->Prop}{b:BS}{x:Int}{m:Nat}
theorem aH4(w:RX h bi a o c t G b)(rm:BR b m)(e:B0):BI cx 213 [Pt bi 0,.agg e.row] h (.bool (b.settled e.c)) h:=by
 have ho:=rm.AR;have ld:A9 h none (Pt bi 2)=some o:=w.ld 2;have r1:=WO (h:=h) w.o (by omega) e.c.node;unfold BS.settled;rw[Ab,mv,aFa,B0.row];by_cases h0:e.c.node=0;·simp only[AA,AW h0,ld,r1.call,true_or,D8]
 .simp only[AA,Bi,h0,ld,r1.call,false_or]
structure Zx(h:Ag)(bi a:Nat)(t c:Aa)(G0:Nat->Prop)(b:BS)(fs:List B0)(id m k:Nat)(h1:Ag):Prop where
 le:k<=fs.length
 low:b.Kf<=k
 ex:∃(o:Aa) (G:Nat->Prop) (b1:BS) (Hc:List B0),RX h1 bi a o c t G b1/\DG b1/\Nm b1.a/\BR b1 (m+4*(fs.length-k))/\h1[id]?=some (.cells (Hc.map B0.row).flatten)/\Hc.length=fs.length/\Hc.drop k=fs.drop k/\
  BS.Dv b={(BS.Iw (b.A3.drop k) b1).2 with A3:=(Hc.take k).map (·.c)++(BS.Iw (b.A3.drop k) b1).1}/\¬own bi G id/\Dh h (own bi G0) h1 (own bi G)
theorem Zx.init(w:RX h bi a o c t G b)(ok:DG b)(hnm:Nm b.a)(rm:BR b (m+4*b.A3.length)){fs:List B0}(F0:fs.map (·.c)=b.A3):
  Zx h bi a t c G b fs h.length m b.Kf (h++[.cells (fs.map B0.row).flatten]):=by
 have Gv:b.A3.length=fs.length:=by rw[<-F0,Ah]
 have hk:=Rg (b:=b);have hne:h.length≠bi:=Nat.ne_of_gt w.lt;refine⟨by omega,Ac _,o,G,b,fs,w.HB (u:=[.cells (fs.map B0.row).flatten]),ok,hnm,rm.le (by omega),?_,rfl,rfl,?_,?_,w.CP⟩;·simp
 .unfold BS.Dv;simp only;rw[HV,F0]
 .rintro(rfl|hg);·exact hne rfl
  .exact absurd (w.w.lt hg) (Dg _)
theorem Zx.step{fs:List B0}{id k:Nat}{h1:Ag}(F0:fs.map (·.c)=b.A3)(Jr:∀e∈b.A3,e.name.length<=1000/\DH e.Ay)(hi:h.length<=id)(hlt:k<fs.length)(i:Zx h bi a t c G b fs id m k h1):
  ∃(h2:Ag) (n:Int),A9 h1 none (Pt id (k*3+1))=some (.str fs[k].c.name)/\A9 h1 none (Pt id (k*3+2))=some fs[k].v/\BI cx 123 [Pt bi 0,.agg [I 2,.str fs[k].c.name,ff,S [],ff,S [],ff,ff,fs[k].v,ff,S [],.int .i32 0]] h1 (I n) h2/\
   Cd h2 1 (Pt id (k*3)) (I n)=some (Am.put h2 id (k*3) (I n))/\Zx h bi a t c G b fs id m (k+1) (Am.put h2 id (k*3) (I n)):=by
 obtain⟨o1,G1,b1,Hc,w1,TD,nm1,jH,Qk,TZ,YO,sS,LR,x1⟩:=i.ex;have Qe:k<Hc.length:=by omega
 have Gv:b.A3.length=fs.length:=by rw[<-F0,Ah]
 have bl:k<b.A3.length:=by omega
 have e1:Hc[k]=fs[k]:=by have:=Cf (λl=>l[0]?) YO;simp only[CA,Bn] at this;rw[Ai Qe,Ai hlt] at this;exact ED this
 have eb:b.A3[k]=fs[k].c:=by simp only[<-F0,CN]
 have hg:(Hc.map B0.row)[k]?=some fs[k].row:=by rw[Cc,Ai Qe,e1];rfl
 have ld:∀j,j<3->A9 h1 none (Pt id (k*3+j))=fs[k].row[j]?:=λj hj=>by simp only[A9,Qk,Dz];exact IA (LW Hc) hj hg
 have Jr:=Jr fs[k].c (by rw[<-eb];exact AI bl);have hr:Na fs[k].c.name fs[k].v [I 2,.str fs[k].c.name,ff,S [],ff,S [],ff,ff,fs[k].v,ff,S [],.int .i32 0]:=⟨I 2,ff,S [],ff,S [],ff,ff,ff,S [],.int .i32 0,rfl⟩;obtain⟨h2,o2,G2,r2,w2,x2⟩:=sm (m:=m+4*(fs.length-(k+1))) w1 TD (jH.le (by omega)) nm1 hr fs[k].ok Jr.2 Jr.1;have qT:id<h1.length:=(Ae.1 Qk).1;have HZ:h2[id]?=some (.cells (Hc.map B0.row).flatten):=by rw[x2.old id qT LR];exact Qk
 have Rs:¬own bi G2 id:=λhg=>by
  rcases x2.own id hg with hg|hg
  .exact LR hg
  .omega
 have at2:At h2 id (k*3) (I fs[k].c.node):=⟨_,HZ,by have:=IA (k:=0) (LW Hc) (by decide) hg;rw[Bn] at this;rw[this];rfl⟩
 let e':B0:=⟨{fs[k].c with node:=b1.a.len+1},fs[k].v,fs[k].ok⟩
 have hrow:(Hc.map B0.row).flatten.set (k*3) (I (b1.a.len+1))=((Hc.set k e').map B0.row).flatten:=by have:=Mw (Au:=Hc.map B0.row) (i:=k) (k:=0) (v:= I (b1.a.len+1)) (LW Hc) (by simpa using Qe) (by decide);rw[Bn] at this;rw[Fj,BZ,if_pos (by rw[D0 (LW Hc),Ah];omega)];rw[Ax] at this;rw[show e'.row=((Hc.map B0.row)[k]'(by simpa using Qe)).set 0 (I (b1.a.len+1)) by rw[CN,e1];rfl];exact this
 refine⟨h2,b1.a.len+1,ld 1 (by decide),ld 2 (by decide),r2,at2.store rfl,⟨hlt,by have:=i.low;omega,o2,G2,_,Hc.set k e',w2.Cv λj hj=>B4 λe=>Rs (e▸hj),Qb TD,nm1.L1 Jr.1,Li (m:=m+4*(fs.length-(k+1))) (jH.le (by omega)) Jr.2 Jr.1,?_,by rw[Be];exact TZ,?_,?_,Rs,⟨by rw[IE];exact(x1.trans x2).len,λj hj hn=>(B4 (by omega)).trans ((x1.trans x2).old j hj hn),(x1.trans x2).own⟩⟩⟩;·rw[Hp HZ,AG (by have:=x2.len;omega),hrow]
 .rw[List.drop_set_of_lt (tO k)];have:=Cf (λl=>l.drop 1) YO;simpa[E9] using this
 .rw[sS,AH bl,eb,BS.Iw];simp only
  congr 1
  rw[Av (by rw[Be];exact Qe),List.getElem_set_self,BE,aId (Ac k),Ax];rfl
theorem aMC(w:RX h bi a o c t G b)(hc:BN b.A3 c)(ok:DG b)(rm:BR b (m+4*b.A3.length))(hnm:Nm b.a):
  ∃h' o' c' G',BI cx 130 [Pt bi 0] h (.tuple []) h'/\RX h' bi a o' c' t G' b.Dv/\BN b.Dv.A3 c'/\Dh h (own bi G) h' (own bi G'):=by
 have ho:=rm.AR;have Q8:=rm.A3;obtain⟨fs,F0,hcs⟩:=hc;have Gv:b.A3.length=fs.length:=by rw[<-F0,Ah]
 have H5:Ev cx 130 [Pt bi 0] h λr h'=>r= .tuple []/\∃o' c' G',RX h' bi a o' c' t G' b.Dv/\BN b.Dv.A3 c'/\Dh h (own bi G) h' (own bi G'):=by
  unfold Ev;have l3:=w.l3;have lc:=AM.Cp hcs;rw[kg,aEJ];simp only[AA,l3,lc];refine Db (i:=0) (λn:Nat=>[I (n:Int)]) (λn h1=>n<=fs.length/\AL b.settled b.A3=AL b.settled (b.A3.take n)/\h1=h) (λn=>n) (λn h1=>n=b.Kf/\h1=h) fs.length rfl ⟨Ac _,by rw[<-Gv,Bu],rfl⟩ ?_ ?_
  .rintro n h1 ⟨hn,ha,rfl⟩;cases n with
   |zero=>simp only[AA,Bi,show¬(0:Int)<((0:Nat):Int) by decide];refine .GM 0 rfl ⟨?_,rfl⟩;unfold BS.Kf;rw[ha];rfl
   |succ n=>
    have hlt:n<b.A3.length:=by omega
    have Ra:n<fs.length:=by omega
    rw[Gb hlt] at ha;have i1:=Ho (n:=n+1) (show 0<n+1 by omega) (show n+1<9223372036854775807 by omega);rw[GJ] at i1;have e1:=AM.BA (k:= .i64) hcs Ra;have en:fs[n].c=b.A3[n]:=by simp only[<-F0,CN]
    have r1:=aH4 w rm fs[n];rw[en] at r1;have ZH:fs[n].row.length=3:=rfl;have ht3:fs[n].row.take 3=fs[n].row:=rfl;simp only[AA,↓reduceIte,Bi,show(0:Int)<((n+1:Nat):Int) by omega,l3,i1,e1,ZH,ht3,Ac,r1.call];cases hs:b.settled b.A3[n] with
    |true=>rw[hs,if_pos rfl] at ha;simp only[AA,Bi];exact .GM (n+1) rfl ⟨by unfold BS.Kf;rw[ha];omega,rfl⟩
    |false=>rw[hs,if_neg (by decide)] at ha;simp only[AA,Bi];exact .next n rfl ⟨by omega,ha,rfl⟩ (by omega)
  .rintro n h1 ⟨rfl,eh⟩;rw[eh];by_cases hne:fs=[]
   .subst hne;have ha:b.A3=[]:=F0.symm;have hK:b.Kf=0:=by have:=Rg (b:=b);rw[ha] at this;exact Nat.le_zero.1 this
    have hb:b.Dv=b:=by unfold BS.Dv;rw[ha];simp only[List.drop_nil,BS.Iw,List.take_nil,BD];rw[<-ha]
    have g0:=jT (h:=h) hcs;have s1:=w.st (k:=3) (v:= .slnil) (v0:=c) rfl rfl;have w1:RX (put h bi 3 .slnil) bi a o .slnil t G b:=w.Ki (l:=b.A3);have e1:=On w1.pC (pH (l:=[]) (.inr ⟨rfl,rfl⟩)) rfl;have hz:(b.Kf:Int)=((0:Nat):Int):=by rw[hK]
    simp only[AA,↓reduceIte,l3,g0];refine Db (i:=2) (λn:Nat=>[I (n:Int)]) (λn h1=>n=0/\h1=h) (λn=>n) (λn h1=>n=0/\h1=h) 0 (by rw[hz]) ⟨rfl,rfl⟩ ?_ ?_;·rintro n h1 ⟨rfl,rfl⟩;simp only[AA,Nat.reduceLeDiff,↓reduceIte,AK,Bi,show Aw (.len false) [.slnil]=some (I 0) from rfl,show¬((0:Nat):Int)<0 by decide];exact .GM 0 rfl ⟨rfl,rfl⟩
    .rintro n h1 ⟨rfl,rfl⟩;simp only[AA,↓reduceIte,s1,e1];refine⟨_,rfl,rfl,o,.slnil,G,?_,⟨[],by rw[hb,ha];rfl,.inr ⟨rfl,rfl⟩⟩,Bg.trans Bg⟩;rw[hb];exact w1.Ki (l:=b.A3)
   .have i0:=Zx.init (m:=m) w ok hnm rm F0;have g1:=tK (h:=h) hcs hne (by omega);have lm:Aw (.len false) [.Ck h.length 0 fs.length 3]=some (I (fs.length:Int)):=rfl;simp only[AA,↓reduceIte,l3,g1];refine Db (i:=2) (λn:Nat=>[I (n:Int)]) (λk h1=>Zx h bi a t c G b fs h.length m k h1) (λk=>fs.length-k) (λk h1=>k=fs.length/\Zx h bi a t c G b fs h.length m k h1) b.Kf rfl i0 ?_ ?_
    .intro k h1 i;have DY:=i.le;rcases AN k fs.length with hlt|DT
     .obtain⟨h2,n,s1,s2,s3,s4,s5⟩:=Zx.step F0 rm.Dj (Ac _) hlt i;have e1:Aw (.EE 3) [.Ck h.length 0 fs.length 3,I (k:Int)]=some (Pt h.length (k*3)):=DO hlt;have sU:fs[k].v.cells=[fs[k].v]:=AM.cells fs[k].ok;simp only[AA,Nat.reduceLeDiff,↓reduceIte,AK,Bi,lm,show(k:Int)<(fs.length:Int) by omega,e1,s1,s2,sU,s3.call,s4,BB (show k<9223372036854775807 by omega)];exact .next (k+1) rfl s5 (by omega)
     .simp only[AA,Nat.reduceLeDiff,↓reduceIte,AK,Bi,lm,show¬(k:Int)<(fs.length:Int) by omega];exact .GM k rfl ⟨by omega,i⟩
    .rintro k h1 ⟨rfl,i⟩;obtain⟨o1,G1,b1,Hc,w1,TD,nm1,jH,Qk,TZ,YO,sS,LR,x1⟩:=i.ex;have hnb:h.length≠bi:=λe=>LR (.inl e);have s1:=w1.st (k:=3) (v:= .Ck h.length 0 fs.length 3) (v0:=c) rfl rfl;have w2:=w1.Ki (u:= .Ck h.length 0 fs.length 3) (l:=b1.A3);have HZ:(put h1 bi 3 (.Ck h.length 0 fs.length 3))[h.length]?=_:=(B4 hnb).trans Qk;have hf:=JJ (LW Hc) HZ;rw[Ah,TZ] at hf;have e1:=On w2.pC hf (by rw[Af hnb]);have w3:RX ((put h1 bi 3 (.Ck h.length 0 fs.length 3)).set h.length .CH) bi a o1 _ t G1 {b1 with A3:=b1.A3}:=w2.Cv λj hj=>Af λe=>LR (by rw[e];exact hj);simp only[AA,↓reduceIte,s1,e1];have hb:b.Dv={b1 with A3:=Hc.map (·.c)}:=by rw[sS,AY (by omega),Az (by omega)];simp only[BS.Iw,Bv]
     refine⟨_,rfl,rfl,o1,_,G1,by rw[hb];exact w3.Ki,⟨Hc,by rw[hb],.mk⟩,?_⟩;have x2:=x1.trans (Bg (bi:=bi) (G:=G1) (k:=3) (v:= .Ck h.length 0 fs.length 3));refine Dh.trans ⟨by rw[Be];exact x2.len,λj hj hn=>?_,x2.own⟩ Bg;rw[Af (by omega)];exact x2.old j hj hn
 obtain⟨r,h',hr,rfl,o',c',G',w',Km,x'⟩:=H5.ret;exact⟨h',o',c',G',hr,w',Km,x'⟩
end
section
variable{h h':Ag}{bi a:Nat}{o c t:Aa}{G G' F:Nat->Prop}{b:BS}{x:Int}{m j:Nat}{q:dG}
variable{nm:As}{av:Aa}{l:List AU}{r:List Aa}{sp p:Int}
set_option maxHeartbeats 4000000 in
theorem aMD(w:RX h bi a o c t G b)(hc:BN b.A3 c)(ok:DG b)(sz:Sz b (j+1))(hnm:Nm b.a)(hq:bn q)(hv:Bz q.Ay av):
  ∃h' o' c' t' G',BI cx 56 [Pt bi 0,.agg (KA q av)] h (.agg (VX b q).2.row) h'/\RX h' bi a o' c' t' G' (VX b q).1/\BN (VX b q).1.A3 c'/\Dh h (own bi G) h' (own bi G'):=by
 unfold VX KA;by_cases k1:q.k=1;·rw[if_pos k1];dsimp only;obtain⟨r,jO,r1,hr,Du⟩:=TH (q:=q) hv hq.Ay.1 h;rw[KA] at r1;obtain⟨h',o',G',r2,w',x'⟩:=sm (m:=5000000*j) w ok sz.V0 hnm hr Du hq.Ay hq.name;refine⟨h',o',c,t,G',?_,w',by rw[FF];exact hc,x'⟩;rw[Ab,E6,S4];simp only[AA,Nat.reduceLeDiff,↓reduceIte,AK,Bi,AW k1,r1.call,r2.call];try rfl
 rw[if_neg k1];by_cases k2:q.k=2;·rw[if_pos k2];dsimp only;obtain⟨r,jO,r1,hr,Du⟩:=TH (q:=q) hv hq.Ay.1 h;rw[KA] at r1;obtain⟨h',o',G',r2,w',x'⟩:=aHR (m:=5000000*j) w ok sz.V0 hnm hr Du hq.Ay hq.name q.A0;refine⟨h',o',c,t,G',?_,w',by rw[FF];exact hc,x'⟩;rw[Ab,E6,S4];simp only[AA,Nat.reduceLeDiff,↓reduceIte,AK,Bi,k1,AW k2,r1.call,r2.call];try rfl
 rw[if_neg k2];by_cases k3:q.k=3;·rw[if_pos k3];dsimp only;obtain⟨r,jO,r1,hr,Du⟩:=TH (q:=q) hv hq.Ay.1 h;rw[KA] at r1;obtain⟨h',o',c',G',r2,w',Km,x'⟩:=aMv (m:=5000000*j) w hc ok sz.V0 hnm hr Du hq.Ay hq.name;refine⟨h',o',c',t,G',?_,w',Km,x'⟩;rw[Ab,E6,S4];simp only[AA,Nat.reduceLeDiff,↓reduceIte,AK,Bi,k1,k2,AW k3,r1.call,r2.call];try rfl
 rw[if_neg k3];by_cases k4:q.k=4;·rw[if_pos k4];dsimp only;obtain⟨h',G',r2,w',x'⟩:=aMw (m:=5000000*j) w ok sz.V0 hnm q.r;refine⟨h',o,c,t,G',?_,w',hc,x'⟩;rw[Ab,E6,S4];simp only[AA,↓reduceIte,AK,Bi,k1,k2,k3,AW k4,r2.call];try rfl
 rw[if_neg k4];by_cases k5:q.k=5;·rw[if_pos k5];dsimp only;obtain⟨h',G',r2,w',x'⟩:=aMx (m:=5000000*j) w ok sz.V0 hnm q.s (by have:=hq.s;omega) q.a;refine⟨h',o,c,t,G',?_,w',hc,x'⟩;rw[Ab,E6,S4];simp only[AA,↓reduceIte,AK,Bi,k1,k2,k3,k4,AW k5,r2.call];try rfl
 rw[if_neg k5];by_cases k6:q.k=6;·rw[if_pos k6];dsimp only;obtain⟨r,jO,r1,hr,Du⟩:=TH (q:=q) hv hq.Ay.1 h;rw[KA] at r1;obtain⟨h',o',G',r2,w',x'⟩:=aMt (m:=5000000*j) w ok sz.V0 hnm hr Du hq.Ay hq.name q.n;refine⟨h',o',c,t,G',?_,w',by show BN (b.Ey q.name q.Ay 1).A3 c;rw[FF];exact hc,x'⟩;rw[Ab,E6,S4];simp only[AA,↓reduceIte,AK,Bi,k1,k2,k3,k4,k5,AW k6,r1.call,r2.call];try rfl
 rw[if_neg k6];by_cases k7:q.k=7;·rw[if_pos k7];dsimp only;obtain⟨h',o',r2,w',x'⟩:=aMs w sz.rm;refine⟨h',o',c,t,G,?_,w',by have e:b.IP.A3=b.A3:=(by unfold BS.IP;split<;>rfl);rw[e];exact hc,x'⟩;rw[Ab,E6,S4];simp only[AA,↓reduceIte,AK,Bi,k1,k2,k3,k4,k5,k6,AW k7,r2.call];try rfl
 rw[if_neg k7];by_cases k8:q.k=8;·rw[if_pos k8];dsimp only;obtain⟨h',o',c',G',r2,w',Km,x'⟩:=aMC (m:=5000000*j) w hc ok (sz.rm.le (by have:=sz.A3;omega)) hnm;refine⟨h',o',c',t,G',?_,w',Km,x'⟩;rw[Ab,E6,S4];simp only[AA,↓reduceIte,AK,Bi,k1,k2,k3,k4,k5,k6,k7,AW k8,r2.call];try rfl
 rw[if_neg k8];by_cases k9:q.k=9;·rw[if_pos k9];dsimp only;obtain⟨h',o',r2,w',x'⟩:=aHS w sz.rm q.name;refine⟨h',o',c,t,G,?_,w',by have e:(b.C1 q.name).A3=b.A3:=(by unfold BS.C1;split;split<;>rfl;rfl);rw[e];exact hc,x'⟩;rw[Ab,E6,S4];simp only[AA,↓reduceIte,AK,Bi,k1,k2,k3,k4,k5,k6,k7,k8,AW k9,r2.call];try rfl
 rw[if_neg k9];by_cases ND:q.k=10;·rw[if_pos ND];dsimp only;obtain⟨h',o',c',G',r2,w',Km,x'⟩:=aMB (m:=5000000*j) w hc ok (sz.rm.le (by have:=sz.AR;omega)) hnm q.name;refine⟨h',o',c',t,G',?_,w',Km,x'⟩;rw[Ab,E6,S4];simp only[AA,↓reduceIte,AK,Bi,k1,k2,k3,k4,k5,k6,k7,k8,k9,AW ND,r2.call];try rfl
 rw[if_neg ND];by_cases Ot:q.k=11;·rw[if_pos Ot];dsimp only;obtain⟨h',r2,w',x'⟩:=su w sz.rm;refine⟨h',o,c,t,G,?_,w',hc,x'⟩;rw[Ab,E6,S4];simp only[AA,↓reduceIte,AK,Bi,k1,k2,k3,k4,k5,k6,k7,k8,k9,ND,AW Ot,r2.call];try rfl
 rw[if_neg Ot];by_cases O9:q.k=12;·rw[if_pos O9];dsimp only;obtain⟨r,jO,r1,hr,Du⟩:=TH (q:=q) hv hq.Ay.1 h;rw[KA] at r1;obtain⟨h',G',r2,w',x'⟩:=aMr (m:=5000000*j) w ok sz.V0 hr Du hq.Ay q.a;refine⟨h',o,c,t,G',?_,w',by have e:(b.GF q.Ay q.a).A3=b.A3:=(by unfold BS.GF;split<;>rfl);rw[e];exact hc,x'⟩;rw[Ab,E6,S4];simp only[AA,↓reduceIte,AK,Bi,k1,k2,k3,k4,k5,k6,k7,k8,k9,ND,Ot,AW O9,r1.call,r2.call];try rfl
 rw[if_neg O9];by_cases Qf:q.k=13;·rw[if_pos Qf];dsimp only;obtain⟨h',o',c',t',r2,w',Km,x'⟩:=aMA w hc sz.rm;refine⟨h',o',c',t',G,?_,w',Km,x'⟩;rw[Ab,E6,S4];simp only[AA,↓reduceIte,AK,Bi,k1,k2,k3,k4,k5,k6,k7,k8,k9,ND,Ot,O9,AW Qf,r2.call];try rfl
 rw[if_neg Qf];by_cases Rk:q.k=14;·rw[if_pos Rk];dsimp only;obtain⟨h',r2,w',x'⟩:=aMq w;refine⟨h',o,c,t,G,?_,w',hc,x'⟩;rw[Ab,E6,S4];simp only[AA,↓reduceIte,AK,Bi,k1,k2,k3,k4,k5,k6,k7,k8,k9,ND,Ot,O9,Qf,AW Rk,r2.call];try rfl
 rw[if_neg Rk];by_cases Sn:q.k=15;·rw[if_pos Sn];dsimp only;have w':RX (put h bi 15 (.bool q.b)) bi a o c t G {b with Eb:=q.b}:=w.put rfl rfl w.o w.t;refine⟨put h bi 15 (.bool q.b),o,c,t,G,?_,w',hc,Bg⟩;rw[Ab,E6,S4];simp only[AA,↓reduceIte,AK,Bi,k1,k2,k3,k4,k5,k6,k7,k8,k9,ND,Ot,O9,Qf,Rk,AW Sn,w.st (k:=15) (v:= .bool q.b) rfl rfl];try rfl
 rw[if_neg Sn];by_cases TI:q.k=16;·rw[if_pos TI];dsimp only;have wv:=sz.rm.tm;have ZJ:AT=140737488355328:=rfl;obtain⟨u,e1,hu⟩:=AM.Gk (b:=8) w.t (by omega);have e2:=AM.Jg (b:=8) (a:=q.n) hu (by omega);have em:Aw (.By 1) [I q.n]=some (.sl 1 [B6 q.n]):=rfl;have HU:Df (b.tm++[q.n]) (.sl 1 ((b.tm++[q.n]).map B6)):= .mk;have w':=w.jG HU;refine⟨put h bi 6 (.sl 1 ((b.tm++[q.n]).map B6)),o,c,_,G,?_,w',hc,Bg⟩;rw[Ab,E6,S4];simp only[AA,↓reduceIte,AK,Bi,k1,k2,k3,k4,k5,k6,k7,k8,k9,ND,Ot,O9,Qf,Rk,Sn,AW TI,w.l6,e1,em,e2,w.st (k:=6) (v0:=t) rfl (AM.cells HU)];try rfl
 rw[if_neg TI];by_cases V4:q.k=17
 .rw[if_pos V4];dsimp only;have Q8:=sz.rm.A3;obtain⟨u,r2,Km,huc⟩:=hc.wi (by omega) (e:=Ce.zero) (v:= .slnil) (.inr ⟨rfl,rfl⟩) (by decide) (b.A3.length:Int) h;rw[S9 (Ac _),Bu,Fo] at Km;have w':=w.Ki (u:=u) (l:=b.A3++[Ce.zero]);have lc:Aw (.len false) [c]=some (I (b.A3.length:Int)):=by obtain⟨fs,F0,UD⟩:=hc;rw[AM.Cp UD,<-F0,Ah]
  have r2':BI cx 136 [c,.agg [I 0,S [],.slnil],I (b.A3.length:Int)] h u h:=r2;refine⟨put h bi 3 u,o,u,t,G,?_,w',Km,Bg⟩;rw[Ab,E6,S4];simp only[AA,↓reduceIte,AK,Bi,k1,k2,k3,k4,k5,k6,k7,k8,k9,ND,Ot,O9,Qf,Rk,Sn,TI,AW V4,w.l3,lc,r2'.call,w.st (k:=3) (v0:=c) rfl huc];try rfl
 rw[if_neg V4];by_cases WS:q.k=18;·rw[if_pos WS];dsimp only;obtain⟨h',o',r2,w',x'⟩:=aMu w sz.rm;refine⟨h',o',c,t,G,?_,w',by have e:b.Qa.A3=b.A3:=(by unfold BS.Qa;split<;>rfl);rw[e];exact hc,x'⟩;rw[Ab,E6,S4];simp only[AA,↓reduceIte,AK,Bi,EC,k1,k2,k3,k4,k5,k6,k7,k8,k9,ND,Ot,O9,Qf,Rk,Sn,TI,V4,AW WS,r2.call];try rfl
 rw[if_neg WS];by_cases Zs:q.k=19;·rw[if_pos Zs];dsimp only;have w':RX (put h bi 7 (I q.a)) bi a o c t G {b with head:=q.a}:=w.put rfl rfl w.o w.t;refine⟨put h bi 7 (I q.a),o,c,t,G,?_,w',hc,Bg⟩;rw[Ab,E6,S4];simp only[AA,↓reduceIte,AK,Bi,k1,k2,k3,k4,k5,k6,k7,k8,k9,ND,Ot,O9,Qf,Rk,Sn,TI,V4,WS,AW Zs,w.st (k:=7) (v:= I q.a) rfl rfl];try rfl
 rw[if_neg Zs];by_cases dJ:q.k=20;·rw[if_pos dJ];dsimp only;have w':=w.cX q.n;refine⟨put h bi 4 (I q.n),o,c,t,G,?_,w',hc,Bg⟩;rw[Ab,E6,S4];simp only[AA,↓reduceIte,AK,Bi,k1,k2,k3,k4,k5,k6,k7,k8,k9,ND,Ot,O9,Qf,Rk,Sn,TI,V4,WS,Zs,AW dJ,w.st (k:=4) (v:= I q.n) rfl rfl];try rfl
 rw[if_neg dJ];by_cases jP:q.k=21;·rw[if_pos jP];dsimp only;have Q8:=sz.rm.A3;obtain⟨fs,F0,UD⟩:=hc;obtain⟨u,r2,hu⟩:=f84 (h:=h) UD (by rw[<-F0,Ah] at Q8;omega);have w':=w.Ki (u:=u) (l:=FD b.A3);have Km:BN (FD b.A3) u:=⟨_,by rw[T9,F0],hu⟩;refine⟨put h bi 3 u,o,u,t,G,?_,w',Km,Bg⟩;rw[Ab,E6,S4];simp only[AA,↓reduceIte,AK,Bi,k1,k2,k3,k4,k5,k6,k7,k8,k9,ND,Ot,O9,Qf,Rk,Sn,TI,V4,WS,Zs,dJ,AW jP,w.l3,r2.call,w.st (k:=3) (v0:=c) rfl (AM.cells hu)];try rfl
 rw[if_neg jP];by_cases tC:q.k=22;·rw[if_pos tC];dsimp only;have ho:=sz.rm.AR;have ld:A9 h none (Pt bi 2)=some o:=w.ld 2;have em:Aw (.By 1) [.str q.name]=some (.sl 1 ([q.name].map CI)):=DE (ws:=[q.name]) rfl (by simp);obtain⟨u,t1,r2,hu⟩:=f85 (h:=h) w.o (by omega) (CS (ws:=[q.name])) (by simp);rw[<-M4] at hu;have w1:=w.HB (u:=t1);have w':=w1.Ig hu;refine⟨put (h++t1) bi 2 u,u,c,t,G,?_,w',hc,w.CP.trans Bg⟩;rw[Ab,E6,S4];simp only[AA,↓reduceIte,AK,Bi,k1,k2,k3,k4,k5,k6,k7,k8,k9,ND,Ot,O9,Qf,Rk,Sn,TI,V4,WS,Zs,dJ,jP,AW tC,ld,em,r2.call,w1.st (k:=2) (v0:=o) rfl (AM.cells hu)];try rfl
 rw[if_neg tC];by_cases bo:q.k=23;·rw[if_pos bo];dsimp only;have w':RX (put h bi 8 (I q.a)) bi a o c t G {b with Mr:=q.a}:=w.put rfl rfl w.o w.t;refine⟨put h bi 8 (I q.a),o,c,t,G,?_,w',hc,Bg⟩;rw[Ab,E6,S4];simp only[AA,↓reduceIte,AK,Bi,k1,k2,k3,k4,k5,k6,k7,k8,k9,ND,Ot,O9,Qf,Rk,Sn,TI,V4,WS,Zs,dJ,jP,tC,AW bo,w.st (k:=8) (v:= I q.a) rfl rfl];try rfl
 rw[if_neg bo];by_cases sc:q.k=24;·rw[if_pos sc];dsimp only;obtain⟨r,jO,r1,hr,Du⟩:=TH (q:=q) hv hq.Ay.1 h;rw[KA] at r1;obtain⟨h',G',r2,w',x'⟩:=sk (m:=5000000*j) w ok sz.V0 hnm hr Du hq.Ay hq.name q.a q.A0;refine⟨h',o,c,t,G',?_,w',by have e:(b.Ee q.name q.Ay q.A0 q.a).A3=b.A3:=(by unfold BS.Ee;split<;>rfl);rw[e];exact hc,x'⟩;rw[Ab,E6,S4];simp only[AA,↓reduceIte,AK,Bi,EC,k1,k2,k3,k4,k5,k6,k7,k8,k9,ND,Ot,O9,Qf,Rk,Sn,TI,V4,WS,Zs,dJ,jP,tC,bo,AW sc,r1.call,r2.call];try rfl
 rw[if_neg sc];refine⟨h,o,c,t,G,?_,w,hc,.refl⟩;rw[Ab,E6,S4];simp only[AA,↓reduceIte,AK,Bi,k1,k2,k3,k4,k5,k6,k7,k8,k9,ND,Ot,O9,Qf,Rk,Sn,TI,V4,WS,Zs,dJ,jP,tC,bo,sc];try rfl
end
section
variable{h h':Ag}{bi a:Nat}{o c t:Aa}{G G' F:Nat->Prop}{b:BS}{x:Int}{m j:Nat}{q:dG}
variable{nm:As}{av:Aa}{l:List AU}{r:List Aa}{sp p:Int}
theorem jU(h:Ag):TX h []=some (h++[.CH,.cells RN.z.row,.cells [I 0],.cells [.Ck (h.length+1) 0 1 13,.Ck (h.length+2) 0 1 1]],.ptr (some (h.length+3,0))):=by unfold TX;simp only[Ax,CC,BD];rfl
theorem aME(h:Ag):BI cx 36 [] h (.ptr (some (h.length+3,0))) (h++[.CH,.cells RN.z.row,.cells [I 0],.cells [.Ck (h.length+1) 0 1 13,.Ck (h.length+2) 0 1 1]]):=by have e1:Ed (.PF TX) h []=some (h++[.CH,.cells RN.z.row,.cells [I 0],.cells [.Ck (h.length+1) 0 1 13,.Ck (h.length+2) 0 1 1]],.ptr (some (h.length+3,0))):=jU h;rw[Ab,show B5 cx 36 []=TY [] from rfl,TY];simp only[AA,e1]
theorem sx(h:Ag):RA (h++[.CH,.cells RN.z.row,.cells [I 0],.cells [.Ck (h.length+1) 0 1 13,.Ck (h.length+2) 0 1 1]]) (h.length+3) (h.length+1) (h.length+2) [] ⟨[],[]⟩:=by
 refine⟨rfl,rfl,?_,?_,?_,by omega,by omega,by omega⟩;·rw[A5 (by omega),show h.length+3 -h.length=3 by omega];rfl
 .rw[A5 (by omega),show h.length+1 -h.length=1 by omega];rfl
 .rw[A5 (by omega),show h.length+2 -h.length=2 by omega];rfl
theorem aH5(h:Ag)(q:Bool):∃h1 h2 h' a bi G,BI cx 36 [] h (Pt a 0) h1/\BI cx 37 [Pt a 0,.bool q] h1 (I 1) h2/\BI cx 39 [Pt a 0,I 1] h2 (Pt bi 0) h'/\RX h' bi a .slnil .slnil .slnil G (C7 q)/\Dh h (λ_=>False) h' (own bi G):=by
 obtain⟨h2,n2,i2,i7,r2,w2,x2⟩:=aHI (sx h) (by show(0:Int)<=1000000000;decide) q;have w2:RA h2 (h.length+3) n2 i2 i7 (uC q):=w2;have hx:(uC q).has 1:=⟨HW 1,HW 1⟩;have hk:((uC q).nd 1).kind=1:=by rw[show(uC q).nd 1=(C7 q).a.nd 1 from rfl,Ng,if_pos rfl]
 have r3:=pT w2 hx hk;have DY:h.length+4<=h2.length:=by have:=x2.len;simpa using this
 refine⟨_,h2,h2++[.cells (HS (h.length+3) (C7 q) .slnil .slnil .slnil)],h.length+3,h2.length,IC (h.length+3) n2 i2,aME h,r2,?_,⟨by simp,.inr ⟨rfl,rfl⟩,.inr ⟨rfl,rfl⟩,⟨n2,i2,i7,w2.Cv λj hj=>Ad (w2.lt hj),rfl⟩,λhj=>absurd (w2.lt hj) (Dg _)⟩,⟨?_,λj hj _=>?_,λj hj=> .inr ?_⟩⟩;·rw[Ab,aAg,t39];simp only[AA,Nat.reduceLeDiff,↓reduceIte,AK,Bi,r3.call,ne_eq];rfl
 .simp;omega
 .rw[Ad (by omega),x2.old j (by simp;omega) (by unfold IC;omega),Ad hj]
 .rcases hj with rfl|hj
  .omega
  .rcases x2.own j hj with hj|hj
   .unfold IC at hj;omega
   .simp at hj;omega
theorem RX.br(w:RX h bi a o c t G b)(i:Item):∃h',Cd h 4 (Pt bi 10) (.agg i.row)=some h'/\RX h' bi a o c t G {b with ctx:=i}/\Dh h (own bi G) h' (own bi G):=by refine⟨h.set bi (.cells (HS a {b with ctx:=i} o c t)),?_,⟨AG w.lt,w.o,w.t,w.w.Cv λj hj=>Af λe=>w.nb (by rw[e];exact hj),w.nb⟩,⟨by rw[Be];exact Ac _,λj _ hn=>Af λe=>hn (.inl e.symm),λ_ h=> .inl h⟩⟩;simp only[Cd,w.hb];rfl
theorem aMF(h:Ag)(sp:Int)(nm:As)(hv:Bz l av)(hl:DH l)(hn:nm.length<=1000)(q f q':Bool):∃h1 h2 h' a bi o t G,BI cx 36 [] h (Pt a 0) h1/\BI cx 37 [Pt a 0,.bool q] h1 (I 1) h2/\BI cx 38 [Pt a 0,I 1,.agg [I sp,.str nm,av,.bool q',.bool f]] h2 (Pt bi 0) h'/\RX h' bi a o .slnil t G (So sp nm l q f)/\Dh h (λ_=>False) h' (own bi G):=by
 obtain⟨h1,h2,h3,a,bi,G,r1,r2,r3,w,x⟩:=aH5 h q;have ok0:=Nf q;have NA:(C7 q).a.has 1:=⟨HW 1,HW 1⟩;have Wr:((C7 q).a.nd 1).kind=1:=by rw[Ng,if_pos rfl]
 have hdf:(C7 q).Iq 1=1:=by unfold BS.Iq;rw[Ng,if_pos rfl];rfl
 have ux:(C7 q).Ee Dd [] 1 1={C7 q with a:=(C7 q).a.elem 1 1 Dd []}:=by unfold BS.Ee;rw[if_pos IV,hdf];rfl
 have hit:(C7 q).FE Dd [] 1=⟨2,1,Dd,false⟩:=by unfold BS.FE;rw[if_pos IV];rfl
 obtain⟨h4,G4,r4,w4,x4⟩:=w.step (A':=(C7 q).a.elem 1 1 Dd []) (R:=λh'=>BI cx 98 [Pt a 0,I 1,I 1,.str Dd,.slnil] h3 (.tuple [I ((C7 q).a.len+1),I 0]) h') (λn i ps wa=>xl (l:=[]) wa (by show(1:Int)+3<=1000000000;decide) NA Wr IV (.inr ⟨rfl,rfl⟩) (by decide) (λy hy=>(nomatch hy)));rw[<-ux] at w4;obtain⟨uA,f4,le4⟩:=Ms (nm:=Dd) (at_:=[]) (p:=1) (Nf q) IV;have rm4:=Ic (m:=1000) (nm:=Dd) (l:=[]) (sp:=1) (p:=1) ((Nh q).rm.le (by omega)) ⟨by decide,λa ha=>(nomatch ha)⟩;obtain⟨h5,G5,r5,w5,x5⟩:=pW w4 uA rm4 1 ((C7 q).FE Dd [] 1).node 0;have ho:((C7 q).Ee Dd [] 1 1).AR=[]:=by rw[ux];rfl
 have hu6:BM (((C7 q).Ee Dd [] 1 1).AR++[(C7 q).FE Dd [] 1]) (.sl 4 [((C7 q).FE Dd [] 1).row]):=by rw[ho];exact .mk
 have s6:=w5.st (k:=2) (v:= .sl 4 [((C7 q).FE Dd [] 1).row]) (v0:= .slnil) rfl rfl;have w6:=w5.Ig hu6;have s7:Cd (put h5 bi 2 (.sl 4 [((C7 q).FE Dd [] 1).row])) 1 (Pt bi 9) tt=some (put (put h5 bi 2 (.sl 4 [((C7 q).FE Dd [] 1).row])) bi 9 tt):=w6.st (k:=9) (v:=tt) (v0:= .bool ((C7 q).Ee Dd [] 1 1).KL) rfl rfl;have w7:RX (put (put h5 bi 2 (.sl 4 [((C7 q).FE Dd [] 1).row])) bi 9 tt) bi a _ .slnil .slnil G5 _:=w6.put (k:=9) (v:=tt) (b':={{{(C7 q).Ee Dd [] 1 1 with a:=((C7 q).Ee Dd [] 1 1).a.D3 ((C7 q).FE Dd [] 1).node 1 0} with AR:=((C7 q).Ee Dd [] 1 1).AR++[(C7 q).FE Dd [] 1]} with KL:=true}) rfl rfl hu6 w6.t;have x7:Dh h (λ_=>False) (put (put h5 bi 2 (.sl 4 [((C7 q).FE Dd [] 1).row])) bi 9 tt) (own bi G5):=((((x.trans x4).trans x5).trans Bg).trans Bg);have VR:((C7 q).FE Dd [] 1).node=(C7 q).a.len+1:=by rw[hit];rfl
 rw[VR] at r5;have aH6:((C7 q).FE Dd [] 1).row=[I ((C7 q).a.len+1),I 1,S Dd,ff]:=by rw[hit];rfl
 rw[aH6] at s6 s7 w7 x7;generalize put h5 bi 2 (.sl 4 [[I ((C7 q).a.len+1),I 1,S Dd,ff]])=h6 at*;generalize put h6 bi 9 tt=h7 at*;have r8:=aFZ (h:=h7) hv (λa ha=>by have:=(hl.2 a ha).2;have:AT=140737488355328:=rfl;omega) (by have:=hl.1;omega) sp nm (by omega);obtain⟨h8,s8,w8,x8⟩:=w7.br ⟨0,sp,nm,EJ sp nm l⟩;have xd:RX h8 bi a _ .slnil .slnil G5 (Im sp nm l q):=w8;have xb:=x7.trans x8;clear w8;have bt:Cd h7 4 (Pt bi 10) (.agg [I 0,I sp,.str nm,.bool (EJ sp nm l)])=some h8:=s8;have aCm:(Im sp nm l q).ctx=⟨0,sp,nm,EJ sp nm l⟩:=rfl;obtain⟨aMe,sg⟩:=V5 sp nm l q;have key:∃h9 t9,RX h9 bi a (.sl 4 [[I ((C7 q).a.len+1),I 1,S Dd,ff]]) .slnil t9 G5 (KD sp nm l q)/\Dh h8 (own bi G5) h9 (own bi G5)/\((sp=1/\nm=A6)->Cd h8 1 (Pt bi 6) (.sl 1 [[I 18]])=some h9)/\(¬(sp=1/\nm=A6)->h9=h8):=by
  by_cases hT:sp=1/\nm=A6;·have hu:Df [18] (.sl 1 [[I 18]]):= .mk;refine⟨put h8 bi 6 (.sl 1 [[I 18]]),.sl 1 [[I 18]],?_,Bg,λ_=>xd.st (k:=6) (v0:= .slnil) rfl rfl,λh=>absurd hT h⟩;unfold KD;rw[if_pos (by rw[O0,aCm];exact AD hT)];exact xd.jG hu
  .refine⟨h8,.slnil,?_,.refl,λh=>absurd h hT,λ_=>rfl⟩;unfold KD;rw[if_neg (by rw[O0,aCm];exact λh=>hT (of_decide_eq_true h))];exact xd
 obtain⟨h9,t9,w9,x9,k1,k2⟩:=key;obtain⟨VM,pK,Sm,pM⟩:=su w9 sg.rm;have em:Aw (.By 1) [I 18]=some (.sl 1 [[I 18]]):=rfl;have sq:Aw (.By 4) [.agg [I ((C7 q).a.len+1),I 1,S Dd,ff]]=some (.sl 4 [[I ((C7 q).a.len+1),I 1,S Dd,ff]]):=rfl;have xx:Dh h (λ_=>False) VM (own bi G5):=(xb.trans x9).trans pM;have s11:=Sm.st (k:=8) (v:=I (-1)) rfl rfl;have hw:Dd=aSL:=rfl;have GM:∃h',RX h' bi a (.sl 4 [[I ((C7 q).a.len+1),I 1,S Dd,ff]]) .slnil t9 G5 (So sp nm l q f)/\Dh h (λ_=>False) h' (own bi G5)/\(f=true->h'=put VM bi 8 (I (-1)))/\(f=false->h'=VM):=by
  cases f with
  |true=>exact⟨_,by unfold So;rw[if_pos rfl];exact Sm.put (k:=8) rfl rfl Sm.o Sm.t,xx.trans Bg,λ_=>rfl,λh=>absurd h (by decide)⟩
  |false=>exact⟨VM,Sm,xx,λh=>absurd h (by decide),λ_=>rfl⟩
 obtain⟨h',w',x',e1,e2⟩:=GM;refine⟨h1,h2,h',a,bi,_,t9,G5,r1,r2,?_,w',x'⟩;rw[Ab,aAf,t38];by_cases hsp:sp=1
 .by_cases ue:nm=A6
  .have xe:=k1 ⟨hsp,ue⟩;cases f with
   |true=>rw[e1 rfl];simp only[AA,Nat.reduceLeDiff,↓reduceIte,AK,Bi,IZ,r3.call,r4.call,r5.call,sq,s6,s7,r8.call,bt,AW hsp,AW ue,em,xe,pK.call,s11]
   |false=>rw[e2 rfl];simp only[AA,Nat.reduceLeDiff,↓reduceIte,AK,Bi,IZ,r3.call,r4.call,r5.call,sq,s6,s7,r8.call,bt,AW hsp,AW ue,em,xe,pK.call]
  .have xf:=k2 λh=>ue h.2;subst xf;cases f with
   |true=>rw[e1 rfl];simp only[AA,Nat.reduceLeDiff,↓reduceIte,AK,Bi,IZ,r3.call,r4.call,r5.call,sq,s6,s7,r8.call,bt,AW hsp,ue,pK.call,s11]
   |false=>rw[e2 rfl];simp only[AA,Nat.reduceLeDiff,↓reduceIte,AK,Bi,IZ,r3.call,r4.call,r5.call,sq,s6,s7,r8.call,bt,AW hsp,ue,pK.call]
 .have xf:=k2 λh=>hsp h.1;subst xf;cases f with
  |true=>rw[e1 rfl];simp only[AA,Nat.reduceLeDiff,↓reduceIte,AK,Bi,IZ,r3.call,r4.call,r5.call,sq,s6,s7,r8.call,bt,hsp,pK.call,s11]
  |false=>rw[e2 rfl];simp only[AA,Nat.reduceLeDiff,↓reduceIte,AK,Bi,IZ,r3.call,r4.call,r5.call,sq,s6,s7,r8.call,bt,hsp,pK.call]
theorem aMH(h:Ag)(s:EK)(hv:Bz s.Ay av)(hl:DH s.Ay)(hn:s.name.length<=1000):∃h' bi a o c t G,BI cx 9 [.agg (Ou s av)] h (Pt bi 0) h'/\RX h' bi a o c t G s.b/\BN s.b.A3 c/\Dh h (λ_=>False) h' (own bi G):=by
 have fQ:(Im s.A0 s.name s.Ay s.Cr).A3=[]:=by unfold Im;simp only;unfold BS.Ee;rw[if_pos IV];rfl
 have ZD:av.cells=[av]:=AM.cells hv;cases hf:s.KL with
 |true=>
  obtain⟨h1,h2,h',a,bi,o,t,G,r1,r2,r3,w,x⟩:=aMF h s.A0 s.name hv hl hn s.Cr s.Mr s.Cr;refine⟨h',bi,a,o,.slnil,t,G,?_,by unfold EK.b;rw[if_pos hf];exact w,?_,x⟩;·rw[Ab,vn,t9,Ou,hf];simp only[AA,r1.call,r2.call,r3.call]
  .have e:s.b.A3=[]:=by unfold EK.b So KD;rw[if_pos hf];split<;>split<;>exact fQ
   rw[e];exact⟨[],rfl,.inr ⟨rfl,rfl⟩⟩
 |false=>
  obtain⟨h1,h2,h',a,bi,G,r1,r2,r3,w,x⟩:=aH5 h s.Cr;have e:s.b=C7 s.Cr:=by unfold EK.b;rw[if_neg (by rw[hf];decide)]
  refine⟨h',bi,a,.slnil,.slnil,.slnil,G,?_,by rw[e];exact w,by rw[e];exact⟨[],rfl,.inr ⟨rfl,rfl⟩⟩,x⟩;rw[Ab,vn,t9,Ou,hf];simp only[AA,r1.call,r2.call,r3.call]
end
end Go.Am
end
