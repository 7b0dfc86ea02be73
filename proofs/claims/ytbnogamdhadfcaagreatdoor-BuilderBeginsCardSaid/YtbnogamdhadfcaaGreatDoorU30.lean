/- Lemmas -/
import Derived.Test.YtbnogamdhadfcaaGreatDoorU29
set_option linter.unusedVariables false
set_option linter.unusedSimpArgs false
section
namespace Go.Am
open Go
set_option maxRecDepth 100000
section
variable{h h':Ae}{bi a:Nat}{o c t:Aa}{G G' F:Nat->Prop}{b:BS}{x:Int}{m:Nat}
variable{nm:As}{av:Aa}{l:List AW}{r:List Aa}{sp p:Int}
theorem aHX(w:RX h bi a o c t G b)(ok:DG b)(rm:BQ b (m+4))(hnm:Nm b.a)(hr:M8 nm av r)(hv:Bx l av)(hl:DL l)(hn:nm.length<=1000)(sp:Int):
  ∃h' o' G',BE cx 124 [Pt bi 0,.agg r,I sp] h (I (b.Oj sp)) h'/\RX h' bi a o' c t G' (b.Ex nm l sp)/\Df h (own bi G) h' (own bi G'):=by
 have aX:AS=140737488355328:=rfl;have ho:=rm.AR;have r0:∀{Q:Post} {h:Ae} {kk:Aa->IT},W cx (.Be 78 [I sp] kk) Q h↔W cx (kk (.bool (decide (BS.Ho sp)))) Q h:=(pO _).Be rfl rfl;have Fy:=hr;obtain⟨c0,c2,c3,c4,c5,c6,c7,c9,Tm,U0,rfl⟩:=hr;by_cases hs:BS.Ho sp;rotate_left
 .refine⟨h,o,G,?_,by unfold BS.Ex;rw[if_neg hs];exact w,.refl⟩;have e:b.Oj sp=0:=by unfold BS.Oj;rw[if_neg hs]
  rw[e,Ab,mJ,aAI];simp only[Az,Bi,r0,AA hs]
 have r1:=pV w ok rm hnm 0;obtain⟨h1,G1,r2,w1,x1⟩:=sg (m:=m+1) w ok (rm.le (by omega)) hnm Fy hv hl hn (b.place 0).1 sp;have TA:=(Mp (nm:=nm) (at_:=l) (p:=(b.place 0).1) ok hs).1;have jJ:=H7 (m:=m+1) (nm:=nm) (sp:=sp) (p:=(b.place 0).1) (rm.le (by omega)) hl;have VP:(b.FE nm l sp).node=b.a.len+1:=by unfold BS.FE;rw[if_pos hs]
 have MA:(b.D9 nm l sp (b.place 0).1).AR=b.AR:=by unfold BS.D9;rw[if_pos hs]
 obtain⟨h2,G2,r3,w2,x2⟩:=pU w1 TA jJ (b.place 0).1 (b.FE nm l sp).node (b.place 0).2;have ld:Bb h2 none (Pt bi 2)=some o:=w2.ld 2;obtain⟨u,e1,hu⟩:=AL.Gm (b:=40) w2.o (by simp only[MA];omega);have e2:=AL.Ja (f:=Item.row) (b:=40) (a:=b.FE nm l sp) hu (by simp only[MA];omega);have Il:BM (({b.D9 nm l sp (b.place 0).1 with a:=(b.D9 nm l sp (b.place 0).1).a.D0 (b.FE nm l sp).node (b.place 0).1 (b.place 0).2}:BS).AR++[b.FE nm l sp]) _:=AL.mk;have w3:=w2.Ia Il;have e:b.Oj sp=(b.FE nm l sp).node:=by unfold BS.Oj;rw[if_pos hs,VP]
 refine⟨_,_,G2,?_,by unfold BS.Ex;rw[if_pos hs];simp only;rw[<-VP];exact w3,(x1.trans x2).trans Bd⟩;have em:Aw (.By 4) [.agg (b.FE nm l sp).row]=some (.sl 4 [(b.FE nm l sp).row]):=Lc;have XT:=λ(y:Item)=>@Item.Co y;rw[e,Ab,mJ,aAI];simp only[Az,Bi,EB,r0,AD hs,r1.call,r2.call,XT,r3.call,ld,e1,em,e2,w2.st (k:=2) (v0:=o) rfl (AL.cells Il)]
theorem si(w:RX h bi a o c t G b)(ok:DG b)(rm:BQ b (m+4))(hnm:Nm b.a)(hr:M8 nm av r)(hv:Bx l av)(hl:DL l)(hn:nm.length<=1000):
  ∃h' o' G',BE cx 123 [Pt bi 0,.agg r] h (I (b.a.len+1)) h'/\RX h' bi a o' c t G' (b.Ex nm l 1)/\Df h (own bi G) h' (own bi G'):=by
 obtain⟨h',o',G',r1,w',x'⟩:=aHX w ok rm hnm hr hv hl hn 1;refine⟨h',o',G',?_,w',x'⟩;have hh:b.Oj 1=b.a.len+1:=by unfold BS.Oj;rw[if_pos IP]
 rw[hh] at r1;obtain⟨c0,c2,c3,c4,c5,c6,c7,c9,Tm,U0,rfl⟩:=hr;rw[Ab,jw,aEM];simp only[Az,r1.call]
theorem aMw(w:RX h bi a o c t G b):∃h',BE cx 135 [Pt bi 0] h (.tuple []) h'/\RX h' bi a o c t G {b with stop:=true}/\Df h (own bi G) h' (own bi G):=by refine⟨_,?_,w.put (k:=19) (v:= .bool true) rfl rfl w.o w.t,Bd⟩;rw[Ab,ke,aER];simp only[Az,w.st (k:=19) (v:=tt) rfl rfl]
end
section
variable{h h':Ae}{bi a:Nat}{o c t:Aa}{G G' F:Nat->Prop}{b:BS}{x:Int}{m:Nat}
variable{nm:As}{av:Aa}{l:List AW}{r:List Aa}{sp p:Int}
theorem aMx(w:RX h bi a o c t G b)(ok:DG b)(rm:BQ b (m+1000))(hr:M8 nm av r)(hv:Bx l av)(hl:DL l)(x:Int):
  ∃h' G',BE cx 133 [Pt bi 0,.agg r,I x] h (.tuple []) h'/\RX h' bi a o c t G' (b.GF l x)/\Df h (own bi G) h' (own bi G'):=by
 have aX:AS=140737488355328:=rfl;obtain⟨c0,c2,c3,c4,c5,c6,c7,c9,Tm,U0,rfl⟩:=hr;by_cases hk:(b.a.nd x).kind=4;rotate_left;·refine⟨h,G,?_,by unfold BS.GF;rw[if_neg hk];exact w,.refl⟩;rw[Ab,mN,aAL];simp only[Az,↓reduceIte,Bi,(Ln w x).call,hk,ne_eq]
 have hx:b.a.has x:=by
  by_cases hp:b.a.has x;·exact hp
  .rw[GM hp] at hk;simp at hk
 have hal:=rm.at_ x;have eS:=hl.1;obtain⟨n,i,ps,wa,_⟩:=w.w;obtain⟨u0,e0,hu0⟩:=AL.Gm (b:=40) (wa.ae hx) (by omega);have Ik:Ev cx 133 [Pt bi 0,.agg [c0,.str nm,c2,c3,c4,c5,c6,c7,av,c9,Tm,U0],I x] h λr h'=>r= .tuple []/\∃G',RX h' bi a o c t G' (b.GF l x)/\Df h (own bi G) h' (own bi G'):=by
  unfold Ev;have hvl:=AL.Cq hv;rw[mN,aAL];simp only[Az,↓reduceIte,Bi,(Ln w x).call,AV hk,ne_eq,w.l0,wa.nodes,wa.addr hx,wa.f6 hx,e0];refine A9 (λs:Aa×Nat=>[s.1,I (s.2:Int)]) (λs h1=>s.2<=l.length/\Bx ((b.a.nd x).Ax++BS.plain (l.take s.2)) s.1/\h1=h) (λs=>l.length-s.2) (u0,0) rfl ⟨AO _,by simp only[L0,BS.plain,DQ,BB];exact hu0,rfl⟩ ?_;rintro⟨u,k⟩ h1 ⟨Uv,hu,rfl⟩;simp only at Uv hu;rcases AT k l.length with hlt|D2
  .have e1:=AL.Bz (k:= .i64) hv hlt;rw[AW.row] at e1;have em:Aw (.By 3) [.agg [I 0,.str l[k].name,.str l[k].value]]=some (.sl 3 [[I 0,.str l[k].name,.str l[k].value]]):=rfl;have a1:=AL.Ja (f:=AW.row) (b:=40) (a:=⟨0,l[k].name,l[k].value⟩) hu (by rw[Aq,BS.plain,Ai,Al];omega);rw[AW.XO] at a1;have hs:(b.a.nd x).Ax++BS.plain (l.take (k+1))=((b.a.nd x).Ax++BS.plain (l.take k))++[⟨0,l[k].name,l[k].value⟩]:=by rw[Av hlt,BS.plain,BI,<-AB];rfl
   simp only[Az,Nat.reduceLeDiff,↓reduceIte,AI,Bi,hvl,show(k:Int)<(l.length:Int) by omega,e1,aaS,em,a1,BG (show k<9223372036854775807 by omega)];exact AF.next (_,k+1) rfl ⟨hlt,by rw[hs,AB];exact .mk,rfl⟩ (by simp only;omega)
  .have Oz:k=l.length:=by omega
   subst Oz;rw[Bu] at hu;have hsp:∀y∈(b.a.nd x).Ax++BS.plain l,BS.Ho y.AX:=by
    intro y hy;rcases Ao.1 hy with hy|hy
    .exact(ok.ok.Q3 x hx).dg y hy
    .obtain⟨z,_,rfl⟩:=Bk.1 hy;exact⟨by simp only;omega,by simp only;omega⟩
   obtain⟨h2,G2,r1,w2,x2⟩:=w.step (A':=b.a.Iu x ((b.a.nd x).Ax++BS.plain l)) (R:=λh2=>BE cx 221 [Pt a 0,I x,u] h1 (I 0) h2) λn i ps wa=>by obtain⟨h',Ip,f1,f2,f3⟩:=aHS wa hx hk hu (by rw[Aq,BS.plain,Ai];omega) hsp;exact⟨h',n,i,Ip,f1,f2,f3⟩
   have e:b.GF l x={b with a:=b.a.Iu x ((b.a.nd x).Ax++BS.plain l)}:=by unfold BS.GF;rw[if_pos hk]
   simp only[Az,Nat.reduceLeDiff,↓reduceIte,AI,Bi,hvl,show¬(l.length:Int)<(l.length:Int) by omega,w.l0,r1.call];exact⟨_,rfl,rfl,G2,by rw[e];exact w2,x2⟩
 obtain⟨r,h',hr,rfl,G',w',x'⟩:=Ik.ret;exact⟨h',G',hr,w',x'⟩
end
section
variable{h h':Ae}{bi a:Nat}{o c t:Aa}{G G' F:Nat->Prop}{b:BS}{x:Int}{m:Nat}
theorem aMy(w:RX h bi a o c t G b)(rm:BQ b m):
  ∃h' o',BE cx 129 [Pt bi 0] h (.tuple []) h'/\RX h' bi a o' c t G b.IK/\Df h (own bi G) h' (own bi G):=by
 have ho:=rm.AR;have hnm:∀i∈b.AR,i.name.length<9223372036854775807:=λi hi=>by have:=rm.Wk i hi;omega
 have em:Aw (.By 1) [S [112]]=some (.sl 1 ([wP].map CH)):=DE (ws:=[wP]) rfl (by decide);have ld:Bb h none (Pt bi 2)=some o:=w.ld 2;have r1:=aKZ (h:=h) w.o (by omega) hnm 3 (CR (ws:=[wP])) (by decide);by_cases hs:I1 (Bp [wP]) (IH 3) b.AR.reverse=true;rotate_left
 .have TP:I1 (Bp [wP]) (IH 3) b.AR.reverse=false:=by simpa using hs
  rw[TP] at r1;refine⟨h,o,?_,by unfold BS.IK;rw[if_neg hs];exact w,.refl⟩;rw[Ab,mL,aAJ];simp only[Az,ld,em,r1.call]
 .rw[hs] at r1;obtain⟨u1,t1,r2,Nu⟩:=f165 (h:=h) w.o (by omega) hnm wP false;have w1:=w.HB (u:=t1);have w2:=w1.Ia Nu;have hst:Ef wP false=DZ wP:=by funext a;rfl
  have l1:(Dr (Ef wP false) CC b.AR).length<=b.AR.length:=OK;have sj:Bb (put (h++t1) bi 2 u1) none (Pt bi 2)=some u1:=w2.ld 2;obtain⟨u2,t2,r3,Il⟩:=f85 (h:=put (h++t1) bi 2 u1) Nu (by omega) (CR (ws:=[wP])) (by decide);have w3:=w2.HB (u:=t2);rw[<-M1] at Il;have w4:=w3.Ia Il;refine⟨_,u2,?_,by unfold BS.IK;rw[if_pos hs,<-hst];exact w4,((w.CN.trans Bd).trans w2.CN).trans Bd⟩;rw[Ab,mL,aAJ];simp only[Az,ld,em,r1.call,r2.call,w1.st (k:=2) (v0:=o) rfl (AL.cells Nu),sj,r3.call,w3.st (k:=2) (v0:=u1) rfl (AL.cells Il)]
variable{nm:As}{av:Aa}{l:List AW}{r:List Aa}
theorem aMz(w:RX h bi a o c t G b)(ok:DG b)(rm:BQ b (m+4))(hnm:Nm b.a)(hr:M8 nm av r)(hv:Bx l av)(hl:DL l)(hn:nm.length<=1000)(st:Int):
  ∃h' o' G',BE cx 128 [Pt bi 0,.agg r,I st] h (.tuple []) h'/\RX h' bi a o' c t G' (b.OO nm l st)/\Df h (own bi G) h' (own bi G'):=by
 obtain⟨h1,o1,G1,r1,w1,x1⟩:=si w ok rm hnm hr hv hl hn;obtain⟨c0,c2,c3,c4,c5,c6,c7,c9,Tm,U0,rfl⟩:=hr;have w2:RX (put h1 bi 18 (I st)) bi a o1 c t G1 {b.Ex nm l 1 with sw:=st}:=w1.put rfl rfl w1.o w1.t;have w3:RX (put (put h1 bi 18 (I st)) bi 5 (I (b.Ex nm l 1).mode)) bi a o1 c t G1 {{b.Ex nm l 1 with sw:=st} with Tp:=(b.Ex nm l 1).mode}:=w2.put rfl rfl w2.o w2.t;have w4:=w3.cZ 8;refine⟨_,o1,G1,?_,w4,((x1.trans Bd).trans Bd).trans Bd⟩;have s2:=w1.st (k:=18) (v:= I st) (v0:= I (b.Ex nm l 1).sw) rfl rfl;have s3:=w2.st (k:=5) (v:= I (b.Ex nm l 1).mode) (v0:= I (b.Ex nm l 1).Tp) rfl rfl;have s4:=w3.st (k:=4) (v:=I 8) (v0:= I (b.Ex nm l 1).mode) rfl rfl;have l4:Bb (put h1 bi 18 (I st)) none (Pt bi 4)=some (I (b.Ex nm l 1).mode):=w2.l4;rw[Ab,jy,aEO];simp only[Az,r1.call,s2,l4,s3,s4]
theorem aMA(w:RX h bi a o c t G b)(rm:BQ b m):∃h' o',BE cx 137 [Pt bi 0] h (.agg b.iB.row) h'/\RX h' bi a o' c t G b.P9/\Df h (own bi G) h' (own bi G):=by
 have ho:=rm.AR;have ld:Bb h none (Pt bi 2)=some o:=w.ld 2;have lo:=AL.Cq w.o;unfold BS.P9 BS.iB;by_cases h2:b.AR.length<2;·refine⟨h,o,?_,by rw[if_pos h2];exact w,.refl⟩;rw[if_pos h2,Ab,mO,aAM];simp only[Az,↓reduceIte,AI,Bi,ld,lo,show(b.AR.length:Int)<2 by omega];rfl
 .obtain⟨u,t1,r1,hu⟩:=aGf (h:=h) w.o (by omega);have hc:JH b.AR ((b.AR.length:Int)-1)=b.AR.take (b.AR.length-1):=by unfold JH;congr 1;omega
  rw[hc] at hu;have w1:=w.HB (u:=t1);have w2:=w1.Ia hu;refine⟨_,u,?_,by rw[if_neg h2];exact w2,w.CN.trans Bd⟩;rw[if_neg h2,Ab,mO,aAM];simp only[Az,↓reduceIte,AI,Bi,EB,ld,lo,show¬(b.AR.length:Int)<2 by omega,(bw w rm).call,r1.call,w1.st (k:=2) (v0:=o) rfl (AL.cells hu)]
end
section
variable{h h':Ae}{bi a:Nat}{o c t:Aa}{G G' F:Nat->Prop}{b:BS}{x:Int}{m:Nat}
theorem aHY(w:RX h bi a o c t G b)(rm:BQ b m)(nm:As):
  ∃h' o',BE cx 131 [Pt bi 0,.str nm] h (.tuple []) h'/\RX h' bi a o' c t G (b.C1 nm)/\Df h (own bi G) h' (own bi G):=by
 have ho:=rm.AR;have hnm:∀i∈b.AR,i.name.length<9223372036854775807:=λi hi=>by have:=rm.Wk i hi;omega
 have ld:Bb h none (Pt bi 2)=some o:=w.ld 2;have lo:=AL.Cq w.o;have Ik:Ev cx 131 [Pt bi 0,.str nm] h λr h'=>r= .tuple []/\∃o',RX h' bi a o' c t G (b.C1 nm)/\Df h (own bi G) h' (own bi G):=by
  unfold Ev;rw[j_,aEQ];simp only[Az,ld,lo,CJ (show -9223372036854775808<=(b.AR.length:Int)-1 by omega) (show(b.AR.length:Int)-1<9223372036854775808 by omega)];refine A9 (λn:Nat=>[I ((n:Int)-1)]) (λn h1=>n<=b.AR.length/\(b.AR.reverse.find? λi=>Bp [nm] i||Gc i)=((b.AR.take n).reverse.find? λi=>Bp [nm] i||Gc i)/\h1=h) (λn=>n) b.AR.length rfl ⟨Ac _,by rw[Bu],rfl⟩ ?_;rintro n h1 ⟨hn,ha,rfl⟩;cases n with
  |zero=>
   have e:b.C1 nm=b:=by unfold BS.C1;rw[ha];rfl
   simp only[Az,↓reduceIte,Bi,show¬(0:Int)<=((0:Nat):Int)-1 by omega];exact⟨_,rfl,rfl,o,by rw[e];exact w,.refl⟩
  |succ n=>
   have hlt:n<b.AR.length:=by omega
   have i1:((n+1:Nat):Int)-1=(n:Int):=by omega
   have e1:=AL.Bz (k:= .i64) w.o hlt;have hin:=hnm _ (AJ hlt);have em:Aw (.By 1) [.str nm]=some (.sl 1 ([nm].map CH)):=DE (ws:=[nm]) rfl (by simp);rw[Rd hlt,I0] at ha;generalize hi:b.AR[n]=i at*;have r2:BE cx 214 [.agg i.row,.sl 1 ([nm].map CH)] h1 (.bool (Bp [nm] i)) h1:=f167 i (CR (ws:=[nm])) (by simp);have sub:=CJ (show -9223372036854775808<=(n:Int)-1 by omega) (show(n:Int)-1<9223372036854775808 by omega);cases h2:Bp [nm] i with
   |true=>
    rw[h2] at r2 ha;obtain⟨u1,t1,r3,Nu⟩:=f165 (h:=h1) w.o (by omega) hnm nm false;have w1:=w.HB (u:=t1);have w2:=w1.Ia Nu;have hst:Ef nm false=DZ nm:=by funext a;rfl
    have l1:(Dr (Ef nm false) CC b.AR).length<=b.AR.length:=OK;have sj:Bb (put (h1++t1) bi 2 u1) none (Pt bi 2)=some u1:=w2.ld 2;obtain⟨u2,t2,r4,Il⟩:=aGg (h:=put (h1++t1) bi 2 u1) Nu (by omega) i.node;have w3:=w2.HB (u:=t2);have w4:=w3.Ia Il;have e:b.C1 nm={b with AR:=Gd i.node (Dr (DZ nm) CC b.AR)}:=by unfold BS.C1;rw[ha];simp only[h2,da,BN]
    simp only[Az,Nat.reduceLeDiff,↓reduceIte,Bi,EB,i1,show(0:Int)<=(n:Int) by omega,ld,e1,em,r2.call,r3.call,w1.st (k:=2) (v0:=o) rfl (AL.cells Nu),sj,r4.call,w3.st (k:=2) (v0:=u1) rfl (AL.cells Il)];exact⟨_,rfl,rfl,u2,by rw[e,<-hst];exact w4,((w.CN.trans Bd).trans w2.CN).trans Bd⟩
   |false=>
    rw[h2] at r2 ha;have r3:∀{Q:Post} {h:Ae} {kk:Aa->IT},W cx (.Be 216 [I i.AX,.str i.name] kk) Q h↔W cx (kk (.bool (DY i.AX i.name))) Q h:=(f169 i.AX i.name hin).Be rfl rfl;cases h3:Gc i with
    |true=>
     have h3':DY i.AX i.name=true:=h3;rw[h3] at ha;have e:b.C1 nm=b:=by unfold BS.C1;rw[ha];simp[h2]
     simp only[Az,Nat.reduceLeDiff,↓reduceIte,Bi,EB,i1,show(0:Int)<=(n:Int) by omega,ld,e1,em,r2.call,r3,h3'];exact⟨_,rfl,rfl,o,by rw[e];exact w,.refl⟩
    |false=>have h3':DY i.AX i.name=false:=h3;rw[h3] at ha;simp only[Az,Nat.reduceLeDiff,↓reduceIte,Bi,EB,i1,show(0:Int)<=(n:Int) by omega,ld,e1,em,r2.call,r3,h3',sub];exact AF.next n rfl ⟨by omega,ha,rfl⟩ (by omega)
 obtain⟨r,h',hr,rfl,o',w',x'⟩:=Ik.ret;exact⟨h',o',hr,w',x'⟩
variable{nm:As}{av:Aa}{l:List AW}{r:List Aa}
theorem aMB(w:RX h bi a o c t G b)(hc:BO b.A4 c)(ok:DG b)(rm:BQ b (m+5))(hnm:Nm b.a)(hr:M8 nm av r)(hv:Bx l av)(hl:DL l)(hn:nm.length<=1000):
  ∃h' o' c' G',BE cx 125 [Pt bi 0,.agg r] h (I (b.a.len+1)) h'/\RX h' bi a o' c' t G' (b.Jc nm l)/\BO (b.Jc nm l).A4 c'/\Df h (own bi G) h' (own bi G'):=by
 obtain⟨h1,o1,G1,r1,w1,x1⟩:=si (m:=m+1) w ok (rm.le (by omega)) hnm hr hv hl hn;obtain⟨fs,efs,hf⟩:=hc;have ha:=rm.A4;have GI:fs.length=b.A4.length:=by rw[<-efs,Ai]
 obtain⟨u,e',O1,r2,hu⟩:=aLi (h:=h1) (l:=fs) hf (by omega) (pE efs λx hx=>((rm.Dl x hx).2).1) (e:=⟨⟨b.a.len+1,nm,l⟩,av,hv⟩) (by unfold WK;have:=hl.1;simp only;omega);refine⟨_,o1,u,G1,?_,w1.Kf (u:=u),?_,x1.trans Bd⟩;·obtain⟨c0,c2,c3,c4,c5,c6,c7,c9,Tm,U0,rfl⟩:=hr;have r2':BE cx 206 [c,.agg [I (b.a.len+1),.str nm,av]] h1 u h1:=r2;have Wr:av.cells=[av]:=AL.cells hv;rw[Ab,jx,aEN];simp only[Az,Nat.reduceLeDiff,↓reduceIte,AI,Bi,r1.call,w1.l3,Wr,r2'.call,w1.st (k:=3) (v0:=c) rfl (AL.cells hu)]
 .refine⟨_,?_,hu⟩;rw[cW O1,efs];unfold BS.Jc;simp only;rw[FF]
end
theorem Zs{n:Nat}(d:Nat)(hd:0<d)(h:n<2147483648)(e:Aw (.int .quo) [I (n:Int),I (d:Int)]=some (I (IntKind.i64.wrap ((n:Int).tdiv (d:Int))))):Aw (.int .quo) [I (n:Int),I (d:Int)]=some (I ((n/d:Nat):Int)):=by
 have h2:(n:Int).tdiv (d:Int)=((n/d:Nat):Int):=by rw[Int.tdiv_eq_ediv_of_nonneg (by omega)];rfl
 have h3:n/d<=n:=Nat.div_le_self n d;rw[e,h2];generalize n/d=k at*;rw[wrap_i64 (by omega) (by omega)]
theorem sk{n:Nat}(d:Nat)(hd:0<d)(h:n<2147483648)(e:Aw (.int .rem) [I (n:Int),I (d:Int)]=some (I ((n:Int).tmod (d:Int)))):Aw (.int .rem) [I (n:Int),I (d:Int)]=some (I ((n%d:Nat):Int)):=by
 have h2:(n:Int).tmod (d:Int)=((n%d:Nat):Int):=by rw[Int.tmod_eq_emod_of_nonneg (by omega)];rfl
 have h3:n%d<=n:=Nat.mod_le n d;rw[e,h2]
theorem V8{n:Nat}(h:n<2147483648):Aw (.int .quo) [I (n:Int),I 64]=some (I ((n/64:Nat):Int)):=Zs 64 (by decide) h rfl
theorem V9{n:Nat}(h:n<2147483648):Aw (.int .quo) [I (n:Int),I 4096]=some (I ((n/4096:Nat):Int)):=Zs 4096 (by decide) h rfl
theorem Zt{n:Nat}(h:n<2147483648):Aw (.int .quo) [I (n:Int),I 262144]=some (I ((n/262144:Nat):Int)):=Zs 262144 (by decide) h rfl
theorem Mw{n:Nat}(h:n<2147483648):Aw (.int .rem) [I (n:Int),I 64]=some (I ((n%64:Nat):Int)):=sk 64 (by decide) h rfl
theorem Rm{n:Nat}(c:Nat)(h:c+n<2147483648):Aw (.int .add) [I (c:Int),I (n:Int)]=some (I ((c+n:Nat):Int)):=by rw[OJ (by omega) (by omega)];congr 2
theorem KR{n:Nat}(h:n<64):Aw (.int .add) [I 128,I (n:Int)]=some (I ((128+n:Nat):Int)):=Rm 128 (by omega)
theorem tD{n:Nat}(h:n<64):Aw (.int .add) [I 192,I (n:Int)]=some (I ((192+n:Nat):Int)):=Rm 192 (by omega)
theorem tE{n:Nat}(h:n<64):Aw (.int .add) [I 224,I (n:Int)]=some (I ((224+n:Nat):Int)):=Rm 224 (by omega)
theorem tF{n:Nat}(h:n<64):Aw (.int .add) [I 240,I (n:Int)]=some (I ((240+n:Nat):Int)):=Rm 240 (by omega)
theorem PC{n:Nat}(h:n<256):Aw (.conv .u8) [I (n:Int)]=some (.int .u8 (n:Int)):=by rw[Sf];congr 3;omega
def Oq(r:Int):Prop:=(0<=r/\r<=55295)\/(57344<=r/\r<=1114111)
instance(r:Int):Decidable (Oq r):=by unfold Oq;infer_instance
theorem aHZ(r:Int):JE cx 207 [.int .i32 r] (.bool (decide (Oq r))):=by rw[LX,mf,aFa];by_cases h1:0<=r<;>by_cases h2:r<=55295<;>by_cases h3:57344<=r<;>by_cases h4:r<=1114111<;>simp[h1,h2,h3,h4,Oq]
theorem aH0(r:Int)(hr:Oq r)(h:Ae):BE cx 208 [.int .i32 r] h (.sl 1 (BZ (GU r))) h:=by
 have one:∀{k1:Nat} (h1:k1<256),Aw (.By 1) [.int .u8 (k1:Int)]=some (.sl 1 (BZ [UInt8.ofNat k1])):=by intro k1 h1;simp only[BZ,Bl,DQ,XM h1];rfl
 have ZW:∀{k1 k2:Nat} (h1:k1<256) (h2:k2<256),Aw (.By 1) [.int .u8 (k1:Int),.int .u8 (k2:Int)]=some (.sl 1 (BZ [UInt8.ofNat k1,UInt8.ofNat k2])):=by intro k1 k2 h1 h2;simp only[BZ,Bl,DQ,XM h1,XM h2];rfl
 have Sx:∀{k1 k2 k3:Nat} (h1:k1<256) (h2:k2<256) (h3:k3<256),Aw (.By 1) [.int .u8 (k1:Int),.int .u8 (k2:Int),.int .u8 (k3:Int)]=some (.sl 1 (BZ [UInt8.ofNat k1,UInt8.ofNat k2,UInt8.ofNat k3])):=by intro k1 k2 k3 h1 h2 h3;simp only[BZ,Bl,DQ,XM h1,XM h2,XM h3];rfl
 have four:∀{k1 k2 k3 k4:Nat} (h1:k1<256) (h2:k2<256) (h3:k3<256) (h4:k4<256),Aw (.By 1) [.int .u8 (k1:Int),.int .u8 (k2:Int),.int .u8 (k3:Int),.int .u8 (k4:Int)]=some (.sl 1 (BZ [UInt8.ofNat k1,UInt8.ofNat k2,UInt8.ofNat k3,UInt8.ofNat k4])):=by intro k1 k2 k3 k4 h1 h2 h3 h4;simp only[BZ,Bl,DQ,XM h1,XM h2,XM h3,XM h4];rfl
 have Fy:=hr;unfold Oq at hr;obtain⟨n,rfl⟩:=OX (show 0<=r by omega);have hn:n<=1114111:=by omega
 have cv:Aw (.conv .i64) [.int .i32 (n:Int)]=some (I (n:Int)):=by rw[TY,wrap_i64 (by omega) (by omega)]
 rw[Ab,mg,aFb];by_cases c1:n<128
 .have e:GU (n:Int)=[UInt8.ofNat n]:=by unfold GU;rw[if_pos (by omega)];rfl
  rw[e];simp only[Az,Bi,cv,show(n:Int)<128 by omega,PC (show n<256 by omega),one (show n<256 by omega)]
 by_cases c2:n<2048
 .have e:GU (n:Int)=[UInt8.ofNat (192+n/64),UInt8.ofNat (128+n%64)]:=by unfold GU;rw[if_neg (by omega),if_pos (by omega)];rfl
  rw[e];simp only[Az,Bi,cv,show¬(n:Int)<128 by omega,show(n:Int)<2048 by omega,V8 (show n<2147483648 by omega),tD (show n/64<64 by omega),PC (show 192+n/64<256 by omega),Mw (show n<2147483648 by omega),KR (show n%64<64 by omega),PC (show 128+n%64<256 by omega),ZW (show 192+n/64<256 by omega) (show 128+n%64<256 by omega)]
 by_cases c3:n<65536
 .have e:GU (n:Int)=[UInt8.ofNat (224+n/4096),UInt8.ofNat (128+n/64%64),UInt8.ofNat (128+n%64)]:=by unfold GU;rw[if_neg (by omega),if_neg (by omega),if_pos (by omega)];rfl
  rw[e];simp only[Az,Bi,cv,show¬(n:Int)<128 by omega,show¬(n:Int)<2048 by omega,show(n:Int)<65536 by omega,V9 (show n<2147483648 by omega),tE (show n/4096<64 by omega),PC (show 224+n/4096<256 by omega),V8 (show n<2147483648 by omega),Mw (show n/64<2147483648 by omega),KR (show n/64%64<64 by omega),PC (show 128+n/64%64<256 by omega),Mw (show n<2147483648 by omega),KR (show n%64<64 by omega),PC (show 128+n%64<256 by omega),Sx (show 224+n/4096<256 by omega) (show 128+n/64%64<256 by omega) (show 128+n%64<256 by omega)]
 .have e:GU (n:Int)=[UInt8.ofNat (240+n/262144),UInt8.ofNat (128+n/4096%64),UInt8.ofNat (128+n/64%64),UInt8.ofNat (128+n%64)]:=by unfold GU;rw[if_neg (by omega),if_neg (by omega),if_neg (by omega),if_pos (by omega)];rfl
  rw[e];simp only[Az,Bi,cv,show¬(n:Int)<128 by omega,show¬(n:Int)<2048 by omega,show¬(n:Int)<65536 by omega,Zt (show n<2147483648 by omega),tF (show n/262144<64 by omega),PC (show 240+n/262144<256 by omega),V9 (show n<2147483648 by omega),Mw (show n/4096<2147483648 by omega),KR (show n/4096%64<64 by omega),PC (show 128+n/4096%64<256 by omega),V8 (show n<2147483648 by omega),Mw (show n/64<2147483648 by omega),KR (show n/64%64<64 by omega),PC (show 128+n/64%64<256 by omega),Mw (show n<2147483648 by omega),KR (show n%64<64 by omega),PC (show 128+n%64<256 by omega),four (show 240+n/262144<256 by omega) (show 128+n/4096%64<256 by omega) (show 128+n/64%64<256 by omega) (show 128+n%64<256 by omega)]
theorem tG(r:Int):GU (if Oq r then r else 65533)=GU r:=by
 by_cases h:Oq r;·rw[if_pos h]
 .rw[if_neg h];unfold Oq at h;have:GU r=[239,191,189]:=by unfold GU;rw[if_neg (by omega),if_neg (by omega),if_neg (by omega),if_neg (by omega)]
  have h2:GU 65533=[239,191,189]:=by unfold GU;rw[if_neg (by omega),if_neg (by omega),if_pos (by omega)];decide+kernel
  rw[this,h2]
theorem cf(r:Int):Oq (if Oq r then r else 65533):=by
 by_cases h:Oq r;·rw[if_pos h];exact h
 .rw[if_neg h];decide
section
variable{h h':Ae}{bi a:Nat}{o c t:Aa}{G G' F:Nat->Prop}{b:BS}{x:Int}{m:Nat}
variable{nm:As}{av:Aa}{l:List AW}{r:List Aa}{sp p:Int}
theorem RX.leaf{k d:Int}{s:As}(w:RX h bi a o c t G b)(ok:DG b)(rm:BQ b (m+1))(hk:k=5\/k=6)(hd:b.a.has d/\(b.a.nd d).kind=1)(hs:s.length<=100000)(p bf:Int):
  ∃h4 h' G',BE cx 209 [Pt a 0,I d,.agg [I k,I 0,.slnil,I 0,I 0,S [],.slnil,.str s,S [],S [],ff,I 0,I 0]] h (.tuple [I (b.a.len+1),I 0]) h4/\BE cx 99 [Pt bi 0,I p,I (b.a.len+1),I bf] h4 (.tuple []) h'/\RX h' bi a o c t G' {b with a:=(b.a.add {kind:=k,Cy:=d,data:=s}).D0 (b.a.len+1) p bf}/\Df h (own bi G) h' (own bi G'):=by
 obtain⟨h4,G4,r4,w5,x5⟩:=w.step (A':=b.a.add {kind:=k,Cy:=d,data:=s}) (R:=λh'=>BE cx 209 [Pt a 0,I d,.agg [I k,I 0,.slnil,I 0,I 0,S [],.slnil,.str s,S [],S [],ff,I 0,I 0]] h (.tuple [I (b.a.len+1),I 0]) h') (λn i ps wa=>by obtain⟨h',n',i',Ip,r,wp,xp⟩:=aHN wa (show b.a.len<=1000000000 by have:=rm.n;unfold Ar.len;omega) hd.1 hd.2 k s;exact⟨h',n',i',Ip,r,wp,xp⟩)
 obtain⟨X_,rm5⟩:=Zi (m:=m) (k:=k) (s:=s) ok rm hk hd hs;obtain⟨h',G',r6,w6,x6⟩:=pU w5 X_ rm5 p (b.a.len+1) bf;exact⟨h4,h',G',r4,r6,w6,x5.trans x6⟩
theorem aMC(w:RX h bi a o c t G b)(ok:DG b)(rm:BQ b (m+5))(hnm:Nm b.a)(r:Int):
  ∃h' G',BE cx 126 [Pt bi 0,.int .i32 r] h (.tuple []) h'/\RX h' bi a o c t G' (b.iA r)/\Df h (own bi G) h' (own bi G'):=by
 have r1:=pV w ok rm hnm 0;obtain⟨hp,hbf⟩:=Vq ok (t:=0) (.inl rfl);unfold BS.iA;generalize(b.place 0).1=p at*;generalize(b.place 0).2=bf at*;have r2:=Ln w p;unfold BS.Kw;by_cases hk:(b.a.nd p).kind=4\/(b.a.nd p).kind=2;rotate_left;·refine⟨h,G,?_,by rw[if_neg hk];exact w,.refl⟩;have k4:¬(b.a.nd p).kind=4:=λe=>hk (.inl e);have k2:¬(b.a.nd p).kind=2:=λe=>hk (.inr e);rw[Ab,T2,zJ];simp only[Az,Bi,r1.call,r2.call,ne_eq,k4,k2,AP]
 rw[if_pos hk];obtain⟨i,hi,sH,Tn,hpv⟩:=cY (l:=(b.a.nd p).AZ) (bf:=bf) (λh=>by have:=hbf h;have h2:=(ok.ok.E8 bf this.1 (by rw[this.2];have:=hp.1;omega)).2;rwa [this.2] at h2);rw[hpv];have Oz:(b.a.nd p).AZ.length<=1000000000:=rm.Tq.AZ ok.ok p;obtain⟨n,i',ps,wa,eG⟩:=w.w;obtain⟨kv,r3,pA⟩:=bt (x:=p) wa Oz;have hvl:=AL.Cq pA;have ri:=aHU (h:=h) pA Oz bf;have rd:=pT w p;rw[if_pos hp] at rd;have r0:∀{Q:Post} {h:Ae} {kk:Aa->IT},W cx (.Be 207 [.int .i32 r] kk) Q h↔W cx (kk (.bool (decide (Oq r)))) Q h:=(aHZ r).Be rfl rfl;obtain⟨r',Fy⟩:∃r',r'=if Oq r then r else 65533:=⟨_,rfl⟩
 have TP:=cf r;have kO:=tG r;rw[<-Fy] at TP kO;have rb:=aH0 r' TP h;rw[kO] at rb;have ZE:=VS r;generalize hs:GU r=s at*;have f3:Kn h (.sl 1 (BZ s))=some (h,.sl 1 (BZ s)):=rfl;have b3:Aw .S7 [.sl 1 (BZ s)]=some (.str s):=by simp[Aw,Uc,P2]
 have Zj:=ok.ok.Cy p hp;obtain⟨h4,h5,G5,r4,r5,w5,x5⟩:=w.leaf (m:=m) (k:=5) (s:=s) ok (rm.le (by omega)) (.inl rfl) Zj (by omega) p bf;by_cases hz:i=0
 .subst hz;simp only[↓reduceIte];refine⟨h5,G5,?_,w5,x5⟩;rw[Ab,T2,zJ];rcases hk with hk|hk<;>by_cases O8:Oq r<;>by_cases h0:bf=0
  all_goals first|rw[if_pos O8] at Fy|rw[if_neg O8] at Fy
  all_goals subst Fy
  all_goals first
   |(rw[<-sH h0] at hvl;simp only[Az,Nat.reduceLeDiff,↓reduceIte,AI,Bi,r1.call,r2.call,ne_eq,hk,show¬(2:Int)=4 by decide,AP,r0,AD O8,rb.call,f3,b3,w.l0,r3.call,hvl,AV h0,show¬(0:Int)<((0:Nat):Int) by decide,rd.call,Bv,r4.call,r5.call];done)
   |(rw[<-sH h0] at hvl;simp only[Az,Nat.reduceLeDiff,↓reduceIte,AI,Bi,r1.call,r2.call,ne_eq,hk,show¬(2:Int)=4 by decide,AP,r0,AA O8,rb.call,f3,b3,w.l0,r3.call,hvl,AV h0,show¬(0:Int)<((0:Nat):Int) by decide,rd.call,Bv,r4.call,r5.call];done)
   |(rw[Tn h0] at ri;simp only[Az,Nat.reduceLeDiff,↓reduceIte,AI,Bi,r1.call,r2.call,ne_eq,hk,show¬(2:Int)=4 by decide,AP,r0,AD O8,rb.call,f3,b3,w.l0,r3.call,hvl,h0,ri.call,show¬(0:Int)<((0:Nat):Int) by decide,rd.call,Bv,r4.call,r5.call];done)
   |(rw[Tn h0] at ri;simp only[Az,Nat.reduceLeDiff,↓reduceIte,AI,Bi,r1.call,r2.call,ne_eq,hk,show¬(2:Int)=4 by decide,AP,r0,AA O8,rb.call,f3,b3,w.l0,r3.call,hvl,h0,ri.call,show¬(0:Int)<((0:Nat):Int) by decide,rd.call,Bv,r4.call,r5.call];done)
 .obtain⟨j,rfl⟩:∃j,i=j+1:=⟨i-1,by omega⟩;have hj:j<(b.a.nd p).AZ.length:=by omega
  rw[if_neg hz,GH,Af hj];simp only
  have ht:=ok.ok.LA p hp _ (AJ hj);have e1:=AL.Bz (k:= .i64) pA hj;rw[Cc] at e1;have sb:Aw (.int .sub) [I ((j+1:Nat):Int),I 1]=some (I (j:Int)):=by have:=Hm (n:=j+1) (by omega) (by omega);simpa using this
  have xr:(0:Int)<((j+1:Nat):Int):=by omega
  generalize hte:(b.a.nd p).AZ[j]=te at*;have rk:=Ln w te;by_cases k5:(b.a.nd te).kind=5
  .rw[if_pos k5];have fK:=rm.data te;obtain⟨h8,s8,w8,x8,_⟩:=wa.wr ht.1 (k:=7) (by decide) (v:= .str ((b.a.nd te).data++s)) rfl (p:=⟨{b.a.nd te with data:=(b.a.nd te).data++s},(pR ps te).kv,(pR ps te).av,wa.LA ht.1,wa.ae ht.1⟩) (by simp only[RN.row];rw[(wa.pn ht.1).2];rfl);obtain⟨w9,x9⟩:=w.pC (G':=Iz a n i') ⟨n,i',_,w8,rfl⟩ (by rw[eG];exact x8);refine⟨h8,_,?_,w9,x9⟩;have ad:=Zh (s:=(b.a.nd te).data) (u:=s) (by omega);rw[Ab,T2,zJ];rcases hk with hk|hk<;>by_cases O8:Oq r<;>by_cases h0:bf=0
   all_goals first|rw[if_pos O8] at Fy|rw[if_neg O8] at Fy
   all_goals subst Fy
   all_goals first
    |(rw[<-sH h0] at hvl;simp only[Az,Nat.reduceLeDiff,↓reduceIte,AI,Bi,r1.call,r2.call,ne_eq,hk,show¬(2:Int)=4 by decide,AP,r0,AD O8,rb.call,f3,b3,w.l0,r3.call,hvl,AV h0,xr,sb,e1,rk.call,AV k5,wa.nodes,wa.addr ht.1,wa.f7 ht.1,ad,s8];done)
    |(rw[<-sH h0] at hvl;simp only[Az,Nat.reduceLeDiff,↓reduceIte,AI,Bi,r1.call,r2.call,ne_eq,hk,show¬(2:Int)=4 by decide,AP,r0,AA O8,rb.call,f3,b3,w.l0,r3.call,hvl,AV h0,xr,sb,e1,rk.call,AV k5,wa.nodes,wa.addr ht.1,wa.f7 ht.1,ad,s8];done)
    |(rw[Tn h0] at ri;simp only[Az,Nat.reduceLeDiff,↓reduceIte,AI,Bi,r1.call,r2.call,ne_eq,hk,show¬(2:Int)=4 by decide,AP,r0,AD O8,rb.call,f3,b3,w.l0,r3.call,hvl,h0,ri.call,xr,sb,e1,rk.call,AV k5,wa.nodes,wa.addr ht.1,wa.f7 ht.1,ad,s8];done)
    |(rw[Tn h0] at ri;simp only[Az,Nat.reduceLeDiff,↓reduceIte,AI,Bi,r1.call,r2.call,ne_eq,hk,show¬(2:Int)=4 by decide,AP,r0,AA O8,rb.call,f3,b3,w.l0,r3.call,hvl,h0,ri.call,xr,sb,e1,rk.call,AV k5,wa.nodes,wa.addr ht.1,wa.f7 ht.1,ad,s8];done)
  .rw[if_neg k5];refine⟨h5,G5,?_,w5,x5⟩;rw[Ab,T2,zJ];rcases hk with hk|hk<;>by_cases O8:Oq r<;>by_cases h0:bf=0
   all_goals first|rw[if_pos O8] at Fy|rw[if_neg O8] at Fy
   all_goals subst Fy
   all_goals first
    |(rw[<-sH h0] at hvl;simp only[Az,Nat.reduceLeDiff,↓reduceIte,AI,Bi,r1.call,r2.call,ne_eq,hk,show¬(2:Int)=4 by decide,AP,r0,AD O8,rb.call,f3,b3,w.l0,r3.call,hvl,AV h0,xr,sb,e1,rk.call,k5,rd.call,Bv,r4.call,r5.call];done)
    |(rw[<-sH h0] at hvl;simp only[Az,Nat.reduceLeDiff,↓reduceIte,AI,Bi,r1.call,r2.call,ne_eq,hk,show¬(2:Int)=4 by decide,AP,r0,AA O8,rb.call,f3,b3,w.l0,r3.call,hvl,AV h0,xr,sb,e1,rk.call,k5,rd.call,Bv,r4.call,r5.call];done)
    |(rw[Tn h0] at ri;simp only[Az,Nat.reduceLeDiff,↓reduceIte,AI,Bi,r1.call,r2.call,ne_eq,hk,show¬(2:Int)=4 by decide,AP,r0,AD O8,rb.call,f3,b3,w.l0,r3.call,hvl,h0,ri.call,xr,sb,e1,rk.call,k5,rd.call,Bv,r4.call,r5.call];done)
    |(rw[Tn h0] at ri;simp only[Az,Nat.reduceLeDiff,↓reduceIte,AI,Bi,r1.call,r2.call,ne_eq,hk,show¬(2:Int)=4 by decide,AP,r0,AA O8,rb.call,f3,b3,w.l0,r3.call,hvl,h0,ri.call,xr,sb,e1,rk.call,k5,rd.call,Bv,r4.call,r5.call];done)
theorem RX.Lj{s:As}{p bf x:Int}(hstart:(¬x=0/\p=x/\bf=0)\/(x=0/\BE cx 205 [Pt bi 0,I 0] h (.tuple [I p,I bf]) h))(w:RX h bi a o c t G b)(ok:DG b)(rm:BQ b (m+1))(hs:s.length<=100000):
  ∃h' G',BE cx 127 [Pt bi 0,.str s,I x] h (.tuple []) h'/\RX h' bi a o c t G' {b with a:=BS.Eo b.a s p bf}/\Df h (own bi G) h' (own bi G'):=by
 have r2:=Ln w p;unfold BS.Eo;by_cases hk:J9 (b.a.nd p).kind
 .rw[if_pos hk];have hp:b.a.has p:=by
   by_cases hp:b.a.has p;·exact hp
   .rw[GM hp] at hk;unfold J9 at hk;simp at hk
  have Zj:=ok.ok.Cy p hp;have rd:=pT w p;rw[if_pos hp] at rd;obtain⟨h4,h5,G5,r4,r5,w5,x5⟩:=w.leaf (m:=m) (k:=6) (s:=s) ok rm (.inr rfl) Zj hs p bf;refine⟨h5,G5,?_,w5,x5⟩;rw[Ab,mK,t127];rcases hstart with⟨hx,rfl,rfl⟩|⟨hx,r1⟩
  .rcases hk with hk|hk|hk<;>simp only[Az,Nat.reduceLeDiff,↓reduceIte,AI,Bi,AP,r2.call,ne_eq,hk,show¬(2:Int)=1 by decide,show¬(4:Int)=1 by decide,show¬(4:Int)=2 by decide,w.l0,rd.call,Bv,r4.call,r5.call,hx]
  .rcases hk with hk|hk|hk<;>simp only[Az,Nat.reduceLeDiff,↓reduceIte,AI,Bi,AP,r2.call,ne_eq,hk,show¬(2:Int)=1 by decide,show¬(4:Int)=1 by decide,show¬(4:Int)=2 by decide,w.l0,rd.call,Bv,r4.call,r5.call,AV hx,r1.call]
 .rw[if_neg hk];refine⟨h,G,?_,w,.refl⟩;unfold J9 at hk;have k1:¬(b.a.nd p).kind=1:=by omega
  have k2:¬(b.a.nd p).kind=2:=by omega
  have k4:¬(b.a.nd p).kind=4:=by omega
  rw[Ab,mK,t127];rcases hstart with⟨hx,rfl,rfl⟩|⟨hx,r1⟩
  .simp only[Az,Nat.reduceLeDiff,↓reduceIte,AI,Bi,AP,r2.call,ne_eq,k1,k2,k4,hx]
  .simp only[Az,Nat.reduceLeDiff,↓reduceIte,AI,Bi,AP,r2.call,ne_eq,k1,k2,k4,AV hx,r1.call]
theorem aMD(w:RX h bi a o c t G b)(ok:DG b)(rm:BQ b (m+1))(hnm:Nm b.a)(s:As)(hs:s.length<=100000)(x:Int):
  ∃h' G',BE cx 127 [Pt bi 0,.str s,I x] h (.tuple []) h'/\RX h' bi a o c t G' (b.JW s x)/\Df h (own bi G) h' (own bi G'):=by
 unfold BS.JW;by_cases h0:x=0;·rw[if_pos h0];exact RX.Lj (p:=(b.place 0).1) (bf:=(b.place 0).2) (.inr ⟨h0,pV w ok rm hnm 0⟩) w ok rm hs
 .rw[if_neg h0];exact RX.Lj (p:=x) (bf:=0) (.inl ⟨h0,rfl,rfl⟩) w ok rm hs
end
def dO(n:Int)(l:List Cd):List Cd:=if 0<=EE n l then A6 l (EE n l).toNat else l
theorem dP{α:Type}{l:List α}{k:Nat}{x:α}(hk:k<l.length):(A6 l k).take k++x::(A6 l k).drop k=l.set k x:=by
 have h1:(l.take k).length=k:=by rw[Al];omega
 unfold A6;rw[KJ h1,NG h1,BY,if_pos hk]
theorem S5{p n:Nat}(h:p<=n):Cl (p:Int) n=p:=by unfold Cl;omega
section
variable{h h':Ae}{bi a:Nat}{o c t:Aa}{G G' F:Nat->Prop}{b:BS}{x:Int}{m:Nat}
variable{nm:As}{av:Aa}{l:List AW}{r:List Aa}{sp p:Int}
theorem BO.ix{cl:List Cd}{n:Nat}(hc:BO cl c)(hb:cl.length<=900000000)(x:Int)(h:Ae):BE cx 218 [c,I x] h (I (EE x cl)) h:=by obtain⟨fs,Gr,hv⟩:=hc;have:=aK9 (h:=h) hv (by rw[<-Gr,Ai] at hb;omega) x;rwa [VQ,Gr] at this
theorem BO.wo{cl:List Cd}(hc:BO cl c)(hb:cl.length<=900000000){k:Nat}(hk:k<cl.length)(h:Ae):∃u,BE cx 271 [c,I (k:Int)] h u h/\BO (A6 cl k) u/\u.cells=[u]:=by
 obtain⟨fs,Gr,hv⟩:=hc;have hl:cl.length=fs.length:=by rw[<-Gr,Ai]
 obtain⟨u,r,hu⟩:=aGn (h:=h) hv (by omega) (k:=k) (by omega);exact⟨u,r,⟨A6 fs k,by unfold A6;rw[BI,HS,ND,Gr],hu⟩,AL.cells hu⟩
theorem BO.wi{cl:List Cd}(hc:BO cl c)(hb:cl.length<=900000000){e:Cd}{v:Aa}(hv:Bx e.Ax v)(he:e.Ax.length<=1000000000)(i:Int)(h:Ae):∃u,BE cx 136 [c,.agg [I e.node,.str e.name,v],I i] h u h/\BO (cl.take (Cl i cl.length)++e::cl.drop (Cl i cl.length)) u/\u.cells=[u]:=by
 obtain⟨fs,Gr,UC⟩:=hc;have hl:cl.length=fs.length:=by rw[<-Gr,Ai]
 obtain⟨u,e',O1,r,hu⟩:=f82 (h:=h) UC (by omega) (e:=⟨e,v,hv⟩) he i;refine⟨u,r,⟨_,?_,hu⟩,AL.cells hu⟩;rw[BI,Bl,HS,ND,Gr,O1,hl]
theorem cg(w:RX h bi a o c t G b)(hc:BO b.A4 c)(hb:b.A4.length<=900000000)(x:Int):
  ∃h' c',BE cx 278 [Pt bi 0,I x] h (.tuple []) h'/\RX h' bi a o c' t G {b with A4:=dO x b.A4}/\BO (dO x b.A4) c'/\Df h (own bi G) h' (own bi G):=by
 have r1:=hc.ix (n:=0) hb x h;unfold dO;by_cases h0:0<=EE x b.A4;·obtain⟨q,hq,e,_⟩:=GG h0;obtain⟨u,r2,hu,huc⟩:=hc.wo hb hq h;rw[if_pos h0];rw[e] at r1⊢;rw[AQ];refine⟨_,u,?_,w.Kf,hu,Bd⟩;rw[Ab,oO,aBD];simp only[Az,Bi,w.l3,r1.call,show(0:Int)<=(q:Int) by omega,r2.call,w.st (k:=3) (v0:=c) rfl huc]
 .rw[if_neg h0];refine⟨h,c,?_,w,hc,.refl⟩;rw[Ab,oO,aBD];simp only[Az,Bi,w.l3,r1.call,h0]
structure tH(h:Ae)(bi a:Nat)(t:Aa)(G0:Nat->Prop)(fe blk anc:Int)(k N m:Nat)(s0:BS×Int×Nat)(n:Nat)(h1:Ae)(o c:Aa)(G:Nat->Prop)(s:BS×Int×Nat):Prop where
 le:n<=N
 w:RX h1 bi a o c t G s.1
 hc:BO s.1.A4 c
 ok:DG s.1
 rm:BQ s.1 (m+4*n)
 nm:Nm s.1.a
 last:s.1.a.has s.2.1
 x:Df h (own bi G0) h1 (own bi G)
 w_:s.2.2<=1000000000
 len:k+n+1<=s.1.AR.length
 eq:BS.Jk blk anc (k+1+N) k N s0=BS.Jk blk anc (k+1+N) k n s
 TT:0<=EE fe s.1.A4
 AR:s.1.AR.take (k+n+1)=s0.1.AR.take (k+n+1)
 feh:s.1.a.has fe
theorem tH.step{h1 h2:Ae}{o1 c1 o2 c2:Aa}{G1 G2:Nat->Prop}{fe blk anc:Int}{k N n:Nat}{s0 s s':BS×Int×Nat}(i:tH h bi a t G fe blk anc k N m s0 (n+1) h1 o1 c1 G1 s)(e:s'=BS.EM blk anc (k+1+N) (k+(n+1)) s.1 s.2.1 s.2.2)
  (w:RX h2 bi a o2 c2 t G2 s'.1) (hc:BO s'.1.A4 c2) (x:Df h1 (own bi G1) h2 (own bi G2)) (mk:s'.2.2<=1000000000) (TT:0<=EE fe s'.1.A4):
  tH h bi a t G fe blk anc k N m s0 n h2 o2 c2 G2 s':=by
 obtain⟨ok',last',le'⟩:=Vt (blk:=blk) (anc:=anc) (far:=k+1+N) (i:=k+(n+1)) (m:=s.2.2) i.ok i.last;have hl:=i.len;obtain⟨op1,op2⟩:=XS (blk:=blk) (anc:=anc) (far:=k+1+N) (i:=k+(n+1)) (l:=s.2.1) (mk:=s.2.2) (b:=s.1) (by omega);have rm':=Na (blk:=blk) (anc:=anc) (far:=k+1+N) (i:=k+(n+1)) (l:=s.2.1) (mk:=s.2.2) (m:=m+4*n) (i.rm.le (by omega));have nm':=Nm.EM (blk:=blk) (anc:=anc) (far:=k+1+N) (i:=k+(n+1)) (l:=s.2.1) (mk:=s.2.2) i.nm i.rm;have eq':BS.Jk blk anc (k+1+N) k (n+1) s=BS.Jk blk anc (k+1+N) k n (BS.EM blk anc (k+1+N) (k+(n+1)) s.1 s.2.1 s.2.2):=rfl;have eq0:=i.eq.trans eq';have MA:=i.AR;rw[<-e] at ok' last' le' op1 op2 rm' nm' eq0;refine⟨by have:=i.le;omega,w,hc,ok',rm',nm',last',i.x.trans x,mk,by omega,eq0,TT,?_,le'.has _ i.feh⟩;have:=Ce (λl=>l.take (k+(n+1))) MA;simp only[GV] at this;rw[show k+n+1=k+(n+1) by omega,op1];rwa [Cn (by omega)] at this
theorem aH1{anc fe:Int}{k N f:Nat}(w:RX h bi a o c t G b)(hc:BO b.A4 c)(ok:DG b)(rm:BQ b (m+4*N))(hnm:Nm b.a)(hN:k+1+N<b.AR.length)(hf:f<=1000000000){fb:Item}(sF:b.AR[k+1+N]=fb)(Oz:AK (Bm fe) b.AR=(k:Int))(TT:0<=EE fe b.A4)(feh:b.a.has fe):
  ∃h' o' c' G' s',BE cx 281 [Pt bi 0,I (f:Int),I (k:Int),I ((k+1+N:Nat):Int),I anc] h (.tuple [I s'.2.1,I (s'.2.2:Int)]) h'/\s'=BS.Jk fb.node anc (k+1+N) k N (b,fb.node,f)/\tH h bi a t G fe fb.node anc k N m (b,fb.node,f) 0 h' o' c' G' s':=by
 have ho:=rm.AR;have aX:AS=140737488355328:=rfl;have aq:b.a.has fb.node:=(ok.op fb (by rw[<-sF];exact AJ _)).1;have Ik:Ev cx 281 [Pt bi 0,I (f:Int),I (k:Int),I ((k+1+N:Nat):Int),I anc] h λr h'=>∃o' c' G' s',r= .tuple [I s'.2.1,I (s'.2.2:Int)]/\s'=BS.Jk fb.node anc (k+1+N) k N (b,fb.node,f)/\tH h bi a t G fe fb.node anc k N m (b,fb.node,f) 0 h' o' c' G' s':=by
  unfold Ev;have ld:Bb h none (Pt bi 2)=some o:=w.ld 2;have e0:=AL.Bz (k:= .i64) w.o hN;rw[sF,Item.row] at e0;have i1:=CJ (a:=((k+1+N:Nat):Int)) (b:=1) (by omega) (by omega);rw[show((k+1+N:Nat):Int)-1=((k+N:Nat):Int) by omega] at i1;rw[oz,aFN];simp only[Az,ld,e0,i1];refine A9 (λz:Nat×Int×Nat=>[I z.2.1,I (z.2.2:Int),I ((k+z.1:Nat):Int)]) (λz h1=>∃o c G1 b1,tH h bi a t G fe fb.node anc k N m (b,fb.node,f) z.1 h1 o c G1 (b1,z.2)) (λz=>z.1) (N,fb.node,f) rfl ⟨o,c,G,b,⟨Ac _,w,hc,ok,rm,hnm,aq,.refl,hf,by simp only;omega,rfl,TT,rfl,feh⟩⟩ ?_;rintro⟨n,last,mk⟩ h1 ⟨o1,c1,G1,b1,i⟩;simp only at i;cases n with
  |zero=>simp only[Az,↓reduceIte,Bi,show¬(k:Int)<(k:Int) by omega];exact⟨_,rfl,o1,c1,G1,(b1,last,mk),rfl,i.eq.symm,i⟩
  |succ n=>
   have hnN:=i.le;have hlen:=i.len;simp only at hlen;have XT:k+(n+1)<b1.AR.length:=by omega
   have hwo:=i.rm.AR;have hwa:=i.rm.A4;have yt:=i.rm.tm;simp only at hwo hwa;have wb:RX h1 bi a o1 c1 t G1 b1:=i.w;have hcb:BO b1.A4 c1:=i.hc;have uw:mk<=1000000000:=i.w_;have uB:Bb h1 none (Pt bi 2)=some o1:=wb.ld 2;have e1:=AL.Bz (k:= .i64) wb.o XT;have Ua:b1.AR.getD (k+(n+1)) Item.zero=b1.AR[k+(n+1)]:=by rw[AE,Af XT];rfl
   have hxf:b1.AR[k+(n+1)].node≠fe:=by have h2:=Ce (λl=>l[k+(n+1)]?) i.AR;simp only[Cg] at h2;rw[if_pos (by omega),if_pos (by omega),Af XT,Af (by omega)] at h2;obtain⟨_,_,h3⟩:=HR Oz;have h4:=h3 (k+(n+1)) (by omega) (by omega);rw[EC h2];intro h5;unfold Bm at h4;rw[h5] at h4;simp at h4
   generalize hxe:b1.AR[k+(n+1)]=x at*;obtain⟨q,hq,sJ,hq0,hq2,hq3⟩:=GG i.TT;simp only at hq sJ;have r2:=hcb.ix (n:=0) (by omega) x.node h1;have uA:(k:Int)<((k+(n+1):Nat):Int):=by omega
   have dec:Aw (.int .sub) [I ((k+(n+1):Nat):Int),I 1]=some (I ((k+n:Nat):Int)):=by have:=Hm (n:=k+(n+1)) (by omega) (by omega);rwa [show k+(n+1)-1=k+n by omega] at this
   have inc:Aw (.int .add) [I ((k+(n+1):Nat):Int),I 1]=some (I ((k+(n+1)+1:Nat):Int)):=BG (by omega);have dif:Aw (.int .sub) [I ((k+1+N:Nat):Int),I ((k+(n+1):Nat):Int)]=some (I ((N-n:Nat):Int)):=by rw[CJ (by omega) (by omega)];congr 2;omega
   have aRA:x.row.length=4:=rfl;have cutO:∀{h2:Ae} {o2 c2:Aa} {G2:Nat->Prop} {b2:BS},RX h2 bi a o2 c2 t G2 b2->b2.AR=b1.AR->∃u1 u2 u3 u4,Bb h2 none (Pt bi 2)=some o2/\Aw (.Hs 4 false false true) [o2,I ((k+(n+1):Nat):Int)]=some u1/\Aw (.append 4 40) [.slnil,u1]=some u2/\Aw (.Hs 4 false true false) [o2,I ((k+(n+1)+1:Nat):Int)]=some u3/\Aw (.append 4 40) [u2,u3]=some u4/\Cv h2 1 (Pt bi 2) u4=some (Am.put h2 bi 2 u4)/\RX (Am.put h2 bi 2 u4) bi a u4 c2 t G2 {b2 with AR:=A6 b1.AR (k+(n+1))}:=by
    intro h2 o2 c2 G2 b2 w2 e2;have Wf:BM b1.AR o2:=by rw[<-e2];exact w2.o
    obtain⟨u1,p1,q1⟩:=AL.Lb Wf (k:= .i64) (n:=k+(n+1)) (by omega);obtain⟨u2,p2,q2⟩:=AL.Gm (b:=40) q1 (by rw[Al];omega);obtain⟨u3,p3,q3⟩:=AL.QU Wf (k:= .i64) (n:=k+(n+1)+1) (by omega);obtain⟨u4,p4,q4⟩:=AL.YC (b:=40) q2 q3 (by rw[Al,A7];omega);exact⟨u1,u2,u3,u4,w2.ld 2,p1,p2,p3,p4,w2.st (k:=2) (v0:=o2) rfl (AL.cells q4),w2.Ia q4⟩
   by_cases he:EE x.node b1.A4<0
   .obtain⟨u1,u2,u3,u4,_,p1,p2,p3,p4,s4,w4⟩:=cutO wb rfl;have es:({b1 with AR:=A6 b1.AR (k+(n+1))},last,mk)=BS.EM fb.node anc (k+1+N) (k+(n+1)) b1 last mk:=by unfold BS.EM;simp only[Ua];rw[if_pos he]
    have i2:=i.step es w4 hcb Bd uw i.TT;by_cases L3:(3:Int)<((N-n:Nat):Int);·simp only[Az,Nat.reduceLeDiff,↓reduceIte,AI,Bi,EB,uA,uB,e1,wb.l3,r2.call,AP,dif,L3,show¬(0:Int)<=EE x.node b1.A4 by omega,he,p1,p2,inc,p3,p4,s4,dec];exact AF.next (n,last,mk) rfl ⟨_,_,_,_,i2⟩ (by simp only;omega)
    .simp only[Az,Nat.reduceLeDiff,↓reduceIte,AI,Bi,EB,uA,uB,e1,wb.l3,r2.call,AP,dif,L3,he,p1,p2,inc,p3,p4,s4,dec];exact AF.next (n,last,mk) rfl ⟨_,_,_,_,i2⟩ (by simp only;omega)
   .obtain⟨p,hp,ep,Mi,WQ,hp3⟩:=GG (L1.1 he);have D2:(0:Int)<=(p:Int):=by omega
    rw[ep] at r2;have ept:(EE x.node b1.A4).toNat=p:=by rw[ep,AQ]
    have za:b1.A4[p].node≠fe:=by rw[WQ];exact hxf
    by_cases L3:(3:Int)<((N-n:Nat):Int)
    .obtain⟨c2,r3,HV,aH2⟩:=hcb.wo (by omega) hp h1;have w2:=wb.Kf (u:=c2) (l:=A6 b1.A4 p);obtain⟨u1,u2,u3,u4,sj,p1,p2,p3,p4,s4,w4⟩:=cutO w2 rfl;have es:({b1 with A4:=A6 b1.A4 p,AR:=A6 b1.AR (k+(n+1))},last,if p<mk then mk-1 else mk)=BS.EM fb.node anc (k+1+N) (k+(n+1)) b1 last mk:=by unfold BS.EM;simp only[Ua];rw[if_neg he,if_pos (show k+(n+1)+3<k+1+N by omega),ept]
     have i2:=i.step es w4 HV (Bd.trans Bd) (by simp only;split<;>omega) (by simp only;rw[XR i.TT hp za];have:=i.TT;unfold down;split<;>omega);have s3:=wb.st (k:=3) (v0:=c1) rfl aH2;by_cases hpm:(p:Int)<(mk:Int);·have dm:=Hm (n:=mk) (by omega) (by omega);rw[if_pos (show p<mk by omega)] at i2;simp only[Az,Nat.reduceLeDiff,↓reduceIte,AI,Bi,EB,uA,uB,e1,wb.l3,r2.call,AP,dif,L3,D2,r3.call,s3,hpm,dm,show(-1:Int)<0 by decide,sj,p1,p2,inc,p3,p4,s4,dec];exact AF.next (n,last,mk-1) rfl ⟨_,_,_,_,i2⟩ (by simp only;omega)
     .rw[if_neg (show¬p<mk by omega)] at i2;simp only[Az,Nat.reduceLeDiff,↓reduceIte,AI,Bi,EB,uA,uB,e1,wb.l3,r2.call,AP,dif,L3,D2,r3.call,s3,hpm,show(-1:Int)<0 by decide,sj,p1,p2,inc,p3,p4,s4,dec];exact AF.next (n,last,mk) rfl ⟨_,_,_,_,i2⟩ (by simp only;omega)
    .obtain⟨fs,Gr,hv⟩:=hcb;have GI:b1.A4.length=fs.length:=by rw[<-Gr,Ai]
     have aCb:p<fs.length:=by omega
     have efp:fs[p].c=b1.A4[p]:=by simp only[<-Gr,CY]
     have e2:=AL.Bz (k:= .i64) hv aCb;have sS:fs[p].v.cells=[fs[p].v]:=AL.cells fs[p].ok;have hr:M8 fs[p].c.name fs[p].v [I 2,.str fs[p].c.name,ff,S [],ff,S [],ff,ff,fs[p].v,ff,S [],.int .i32 0]:=⟨I 2,ff,S [],ff,S [],ff,ff,ff,S [],.int .i32 0,rfl⟩;have Jm:=i.rm.Dl _ (AJ hp);rw[<-efp] at Jm;obtain⟨h2,G2,r4,w2,x2⟩:=sg (m:=m+4*n) wb i.ok (i.rm.le (by omega)) i.nm hr fs[p].ok Jm.2 Jm.1 anc 1;obtain⟨a_,fr,le2⟩:=Mp (nm:=fs[p].c.name) (at_:=fs[p].c.Ax) (p:=anc) i.ok IP;have S2:=H7 (m:=m+4*n+1) (nm:=fs[p].c.name) (l:=fs[p].c.Ax) (sp:=1) (p:=anc) (i.rm.le (by omega)) Jm.2;have MA:(b1.D9 fs[p].c.name fs[p].c.Ax 1 anc).AR=b1.AR:=by unfold BS.D9;rw[if_pos IP]
     have Rs:(b1.D9 fs[p].c.name fs[p].c.Ax 1 anc).A4=b1.A4:=by unfold BS.D9;rw[if_pos IP]
     have es0:BS.EM fb.node anc (k+1+N) (k+(n+1)) b1 last mk=({b1.D9 fs[p].c.name fs[p].c.Ax 1 anc with a:=(b1.D9 fs[p].c.name fs[p].c.Ax 1 anc).a.Fg (b1.FE fs[p].c.name fs[p].c.Ax 1).node last 0,AR:=(b1.D9 fs[p].c.name fs[p].c.Ax 1 anc).AR.set (k+(n+1)) (b1.FE fs[p].c.name fs[p].c.Ax 1),A4:=(b1.D9 fs[p].c.name fs[p].c.Ax 1 anc).A4.set p {fs[p].c with node:=(b1.FE fs[p].c.name fs[p].c.Ax 1).node}},(b1.FE fs[p].c.name fs[p].c.Ax 1).node,if last=fb.node then p+1 else mk):=by unfold BS.EM;simp only[Ua];rw[if_neg he,if_neg (by omega),ept,AE,Af hp,Ib,<-efp]
     have tP:=Mq i.ok fr;have hna:=OR i.ok fr;have hnf:(b1.FE fs[p].c.name fs[p].c.Ax 1).node≠fe:=λe2=>fr.new (by rw[e2];exact i.feh);have aCc:(b1.FE fs[p].c.name fs[p].c.Ax 1).name.length<=1000:=Ms Jm.1;simp only at tP hna;generalize b1.FE fs[p].c.name fs[p].c.Ax 1=nw at*;generalize b1.D9 fs[p].c.name fs[p].c.Ax 1 anc=b2 at*;have sj:Bb h2 none (Pt bi 2)=some o1:=w2.ld 2;have Wf:BM b1.AR o1:=wb.o;obtain⟨u1,p1,q1⟩:=AL.Lb Wf (k:= .i64) (n:=k+(n+1)) (by omega);obtain⟨u2,p2,q2⟩:=AL.Gm (b:=40) q1 (by rw[Al];omega);have p3:=AL.Ja (a:=nw) (b:=40) q2 (by rw[Al];omega);obtain⟨u4,p4,q4⟩:=AL.QU Wf (k:= .i64) (n:=k+(n+1)+1) (by omega);obtain⟨u5,p5,q5⟩:=AL.YC (f:=Item.row) (l:=b1.AR.take (k+(n+1))++[nw]) (b:=40) .mk q4 (by rw[Aq,Al,A7,Bs];omega);have es5:b1.AR.take (k+(n+1))++[nw]++b1.AR.drop (k+(n+1)+1)=b2.AR.set (k+(n+1)) nw:=by rw[MA,BY,if_pos XT,AB];rfl
     rw[es5] at q5;have sm:Aw (.By 4) [.agg nw.row]=some (.sl 4 [nw.row]):=Lc;have s5:=w2.st (k:=2) (v0:=o1) rfl (AL.cells q5);have w3:=w2.Ia q5;have x3:=x2.trans (Bd (k:=2) (v:=u5));generalize put h2 bi 2 u5=h3 at*;have l33:=w3.l3;have H_:BO b1.A4 c1:=⟨fs,Gr,hv⟩;obtain⟨c2,r6,HV,aH2⟩:=H_.wo (by omega) hp h3;obtain⟨c3,r7,aH3,aME⟩:=HV.wi (by rw[Gq hp];omega) (e:={fs[p].c with node:=nw.node}) fs[p].ok (by have:=Jm.2.1;simp only;omega) (p:Int) h3;rw[S5 (by rw[Gq hp];omega),dP hp] at aH3;have s6:=w3.st (k:=3) (v0:=c1) rfl aME;have w4:=w3.Kf (u:=c3) (l:=b2.A4.set p {fs[p].c with node:=nw.node});have hc4:BO (b2.A4.set p {fs[p].c with node:=nw.node}) c3:=by rw[Rs];exact aH3
     have x4:=x3.trans (Bd (k:=3) (v:=c3));generalize put h3 bi 3 c3=h4 at*;have xb:=a_.iI (i:=nw) (k:=k+(n+1)) ⟨fr.has,fr.kind,fr.AX,fr.name⟩ (by rw[MA];exact tP);have tZ:=xb.iJ (e:={fs[p].c with node:=nw.node}) (k:=p) ⟨fr.has,fr.kind⟩ (by simp only[Rs];exact hna);have rm4:BQ {b2 with AR:=b2.AR.set (k+(n+1)) nw,A4:=b2.A4.set p {fs[p].c with node:=nw.node}} (m+4*n+1):=by
      refine⟨S2.n,S2.at_,S2.data,by simp only[Bj];exact S2.AR,by simp only[Bj];exact S2.A4,S2.tm,λe he=>?_,λi hi=>?_⟩
      .rcases Di he with he|rfl
       .exact S2.Dl e he
       .exact Jm
      .rcases Di hi with hi|rfl
       .exact S2.Wk i hi
       .exact aCc
     obtain⟨er,h6,G6,r8,w6,x6⟩:=w4.Zr tZ rm4 nw.node last 0;have i2:=i.step es0.symm w6 hc4 (x4.trans x6) (by simp only;split<;>omega) (by simp only;rw[Rs,dD i.TT hp za hnf];exact i.TT);have l40:=w4.l0;have incp:=BG (show p<9223372036854775807 by omega);rw[B3.row] at e2;by_cases Qm:last=fb.node;·rw[if_pos Qm] at i2;simp only[Az,Nat.reduceLeDiff,↓reduceIte,AI,Bi,EB,uA,uB,e1,wb.l3,r2.call,AP,dif,L3,show¬(p:Int)<0 by omega,e2,sS,r4.call,sj,p1,p2,sm,p3,inc,p4,p5,s5,l33,r6.call,r7.call,s6,AV Qm,incp,l40,r8.call,dec];exact AF.next (n,nw.node,p+1) rfl ⟨_,_,_,_,i2⟩ (by simp only;omega)
     .rw[if_neg Qm] at i2;simp only[Az,Nat.reduceLeDiff,↓reduceIte,AI,Bi,EB,uA,uB,e1,wb.l3,r2.call,AP,dif,L3,show¬(p:Int)<0 by omega,e2,sS,r4.call,sj,p1,p2,sm,p3,inc,p4,p5,s5,l33,r6.call,r7.call,s6,Qm,l40,r8.call,dec];exact AF.next (n,nw.node,mk) rfl ⟨_,_,_,_,i2⟩ (by simp only;omega)
 obtain⟨r,h',hr,o',c',G',s',rfl,e',i'⟩:=Ik.ret;exact⟨h',o',c',G',s',hr,e',i'⟩
end
theorem S6{nm:As}:∀{r:List Cd} {j:Nat},Oi nm r=(j:Int)->∃hj:j<r.reverse.length,r.reverse[j].node≠0
 |[],j,e=>by rw[Oi] at e;omega
 |x::r,j,e=>by
  rw[Oi] at e;split at e;·omega
  .rename_i h0;split at e
   .have ej:j=r.reverse.length:=by rw[Wo];omega
    subst ej;exact⟨by simp,by simpa using h0⟩
   .obtain⟨hj,h1⟩:=S6 e;refine⟨by simp at hj⊢;omega,?_⟩;simp only[FQ];rw[Jh hj];exact h1
theorem jU{nm:As}{l:List Cd}{f:Nat}(e:FL nm l=(f:Int)):∃hf:f<l.length,l[f].node≠0:=by unfold FL at e;obtain⟨hj,h⟩:=S6 e;simp only[GX] at hj h;exact⟨hj,h⟩
theorem Wa{l:List Cd}{n:Int}{q:Nat}(e:EE n l=(q:Int)):dO n l=A6 l q:=by unfold dO;rw[e,if_pos (by omega),AQ]
section
variable{h h':Ae}{bi a:Nat}{o c t:Aa}{G G' F:Nat->Prop}{b:BS}{x:Int}{m:Nat}
variable{nm:As}{av:Aa}{l:List AW}{r:List Aa}{sp p:Int}
theorem BO.aH4{cl:List Cd}(hc:BO cl c)(hb:cl.length<=900000000)(nm:As)(h:Ae):BE cx 277 [c,.str nm] h (I (FL nm cl)) h:=by obtain⟨fs,Gr,hv⟩:=hc;have:=aK7 (h:=h) hv (by rw[<-Gr,Ai] at hb;omega) nm;rwa [pD,Gr] at this
set_option maxHeartbeats 1000000 in
theorem aH5(w:RX h bi a o c t G b)(hc:BO b.A4 c)(ok:DG b)(rm:BQ b (m+4*b.AR.length+10))(hnm:Nm b.a)(nm:As):
  ∃h' o' c' G',BE cx 220 [Pt bi 0,.str nm] h (.bool (b.round nm).1) h'/\RX h' bi a o' c' t G' (b.round nm).2/\BO (b.round nm).2.A4 c'/\Df h (own bi G) h' (own bi G'):=by
 have ho:=rm.AR;have Rs:=rm.A4;have hin:∀i∈b.AR,i.name.length<9223372036854775807:=λi hi=>by have:=rm.Wk i hi;omega
 have l3:=w.l3;have ld:Bb h none (Pt bi 2)=some o:=w.ld 2;have r1:=hc.aH4 (by omega) nm h;by_cases hf:FL nm b.A4<0
 .obtain⟨h2,o2,r2,w2,x2⟩:=aHY w rm nm;have e:b.round nm=(false,b.C1 nm):=by unfold BS.round;simp only;rw[if_pos hf]
  have ea:(b.C1 nm).A4=b.A4:=by
   unfold BS.C1;split;·split<;>rfl
   .rfl
  rw[e];refine⟨h2,o2,c,G,?_,w2,by rw[ea];exact hc,x2⟩;rw[Ab,OS,iZ];simp only[Az,Bi,l3,r1.call,hf,r2.call]
 obtain⟨f,GI,ef⟩:=Rh (L1.1 hf);obtain⟨_,qy⟩:=jU ef;have dX:¬(f:Int)<0:=by omega
 rw[ef] at r1;have J4:=hc;obtain⟨fs,Gr,hv⟩:=J4;have aL5:b.A4.length=fs.length:=by rw[<-Gr,Ai]
 have efp:fs[f].c=b.A4[f]:=by simp only[<-Gr,CY]
 have e1:=AL.Bz (k:= .i64) hv (show f<fs.length by omega);have VT:=pI ok.rR GI qy;have Jm:=rm.Dl _ (AJ GI);have Ua:b.A4.getD f Cd.zero=b.A4[f]:=by rw[AE,Af GI];rfl
 rw[<-efp] at VT Jm Ua qy;generalize hfe:fs[f]=fe at*;have sS:fe.v.cells=[fe.v]:=AL.cells fe.ok;rw[B3.row] at e1;have r2:=WN (h:=h) w.o (by omega) fe.c.node;by_cases hk:AK (Bm fe.c.node) b.AR<0
 .obtain⟨h2,c2,r3,w2,HV,x2⟩:=cg w hc (by omega) fe.c.node;rw[Wa VT] at w2 HV;have e:b.round nm=(false,{b with A4:=A6 b.A4 f}):=by unfold BS.round;simp only;rw[if_neg hf,ef,AQ,Ua,if_pos hk]
  rw[e];refine⟨h2,o,c2,G,?_,w2,HV,x2⟩;rw[Ab,OS,iZ];simp only[Az,Nat.reduceLeDiff,↓reduceIte,Bi,l3,r1.call,dX,e1,ld,r2.call,hk,r3.call]
 obtain⟨k,ek⟩:∃k:Nat,AK (Bm fe.c.node) b.AR=(k:Int):=⟨_,(Nd (L1.1 hk)).symm⟩;obtain⟨Oz,hkq,_⟩:=HR ek;have cQ:¬(k:Int)<0:=by omega
 rw[ek] at r2;have r3:=f250 (h:=h) w.o (by omega) hin 1 fe.c.node;by_cases O8:I1 (Bm fe.c.node) (IH 1) b.AR.reverse=false
 .have e:b.round nm=(false,b):=by unfold BS.round;simp only;rw[if_neg hf,ef,AQ,Ua,if_neg hk,if_pos (.inr O8)]
  rw[e];refine⟨h,o,c,G,?_,w,hc,.refl⟩;rw[O8] at r3;rw[Ab,OS,iZ];simp only[Az,Nat.reduceLeDiff,↓reduceIte,Bi,l3,r1.call,dX,e1,ld,r2.call,cQ,AP,r3.call]
 have aCh:I1 (Bm fe.c.node) (IH 1) b.AR.reverse=true:=by simpa using O8
 rw[aCh] at r3;by_cases hkz:k=0
 .have e:b.round nm=(false,b):=by unfold BS.round;simp only;rw[if_neg hf,ef,AQ,Ua,if_neg hk,if_pos (.inl (by rw[ek,hkz];rfl))]
  rw[e];refine⟨h,o,c,G,?_,w,hc,.refl⟩;rw[Ab,OS,iZ];simp only[Az,Nat.reduceLeDiff,↓reduceIte,Bi,l3,r1.call,dX,e1,ld,r2.call,cQ,AP,r3.call,AV (show(k:Int)=0 by omega)]
 have dG:¬(k:Int)=0:=by omega
 have r4:=f251 (h:=h) w.o (by omega) hin fe.c.node;have zk:¬(AK (Bm fe.c.node) b.AR=0\/I1 (Bm fe.c.node) (IH 1) b.AR.reverse=false):=by rw[ek];rintro(h|h);exact dG h;exact O8 h
 by_cases hfa:Dz fe.c.node b.AR<0
 .have e:b.round nm=(false,{b with AR:=Gd fe.c.node b.AR,A4:=A6 b.A4 f}):=by unfold BS.round;simp only;rw[if_neg hf,ef,AQ,Ua,if_neg hk,if_neg zk,if_pos hfa]
  obtain⟨u,t1,r5,hu⟩:=aGg (h:=h) w.o (by omega) fe.c.node;have w1:=w.HB (u:=t1);have w2:=w1.Ia hu;obtain⟨h3,c3,r6,w3,L3,x3⟩:=cg w2 hc (by simp only;omega) fe.c.node;simp only at w3 L3;rw[Wa VT] at w3 L3;rw[e];refine⟨h3,u,c3,G,?_,w3,L3,(w.CN.trans Bd).trans x3⟩;rw[Ab,OS,iZ];simp only[Az,Nat.reduceLeDiff,↓reduceIte,Bi,l3,r1.call,dX,e1,ld,r2.call,cQ,AP,r3.call,dG,r4.call,hfa,r5.call,w1.st (k:=2) (v0:=o) rfl (AL.cells hu),r6.call]
 obtain⟨N,hN,eN⟩:∃N:Nat,k+1+N<b.AR.length/\Dz fe.c.node b.AR=((k+1+N:Nat):Int):=by
  have jL:=hfa;rw[HM,if_neg hk,ek,AQ] at jL⊢;unfold Em at jL⊢;split at jL;·rename_i j hj;have:=(HD.1 hj).1;rw[A7] at this;exact⟨j,by omega,by omega⟩
  .omega
 have e2:=AL.Bz (k:= .i64) w.o hN;have e3:=AL.Bz (k:= .i64) w.o (show k-1<b.AR.length by omega);obtain⟨fb,sF⟩:∃fb,fb=b.AR[k+1+N]:=⟨_,rfl⟩;obtain⟨an,qh⟩:∃an,an=b.AR[k-1]'(by omega):=⟨_,rfl⟩;rw[<-sF,Item.row] at e2;rw[<-qh,Item.row] at e3;have wE:b.AR.getD (k+1+N) Item.zero=fb:=by rw[AE,Af hN,sF];rfl
 have F_:b.AR.getD (k-1) Item.zero=an:=by rw[AE,Af (by omega),qh];rfl
 have e:b.round nm=(true,BS.FO fe.c fb.node an.node (BS.Jk fb.node an.node (k+1+N) k N (b,fb.node,f))):=by
  unfold BS.round;simp only
  rw[if_neg hf,ef,AQ,Ua,if_neg hk,if_neg zk,if_neg hfa,ek,eN,AQ,AQ,wE,F_,show k+1+N-1 -k=N by omega]
 have sT:=ok.op fb (by rw[sF];exact AJ _);have aCi:b.AR[k].node=fe.c.node:=by simpa[Bm] using hkq
 have qx:b.a.has fe.c.node:=by rw[<-aCi];exact(ok.op _ (AJ _)).1
 have Tn:=Hm (n:=k) (by omega) (by omega);have le0:=(T0 (blk:=fb.node) (anc:=an.node) (far:=k+1+N) (k:=k) (c:=N) (s:=(b,fb.node,f)) ok sT.1).2.2;obtain⟨h5,o5,c5,G5,s',r7,es,i⟩:=aH1 (m:=m+10) (anc:=an.node) (fe:=fe.c.node) (f:=f) w hc ok (rm.le (by omega)) hnm hN (by omega) sF.symm ek (by rw[VT];omega) qx;rw[<-es] at le0 e;obtain⟨q,hq,sJ,hq0,hq2,hq3⟩:=GG i.TT;have uw:=i.w_;have r8:=pV i.w i.ok i.rm i.nm an.node;obtain⟨h7,G7,r9,w7,x7⟩:=pU i.w i.ok i.rm (s'.1.place an.node).1 s'.2.1 (s'.1.place an.node).2;have le7:Le s'.1.a (s'.1.a.D0 s'.2.1 (s'.1.place an.node).1 (s'.1.place an.node).2):=H6;have ok7:=i.ok.Jl (M4 (n:=s'.2.1) (p:=(s'.1.place an.node).1) (b:=(s'.1.place an.node).2) i.ok.ok) le7;have rm7:=i.rm.Jl (IZ (x:=s'.2.1) (p:=(s'.1.place an.node).1) (bf:=(s'.1.place an.node).2));have nm7:Nm (s'.1.a.D0 s'.2.1 (s'.1.place an.node).1 (s'.1.place an.node).2):=i.nm.D0;obtain⟨b2,MC⟩:∃b2,b2={s'.1 with a:=s'.1.a.D0 s'.2.1 (s'.1.place an.node).1 (s'.1.place an.node).2}:=⟨_,rfl⟩;have Wf:b2.AR=s'.1.AR:=by rw[MC]
 have HV:b2.A4=s'.1.A4:=by rw[MC]
 have le2:Le s'.1.a b2.a:=by rw[MC];exact le7
 have nm2:Nm b2.a:=by rw[MC];exact nm7
 rw[<-MC] at w7 ok7 rm7;have hr:M8 fe.c.name fe.v [I 2,.str fe.c.name,ff,S [],ff,S [],ff,ff,fe.v,ff,S [],.int .i32 0]:=⟨I 2,ff,S [],ff,S [],ff,ff,ff,S [],.int .i32 0,rfl⟩;obtain⟨h8,G8,r11,w8,x8⟩:=sg (m:=m+7) w7 ok7 (rm7.le (by omega)) nm2 hr fe.ok Jm.2 Jm.1 fb.node 1;obtain⟨dk,fr,le8⟩:=Mp (nm:=fe.c.name) (at_:=fe.c.Ax) (p:=fb.node) ok7 IP;have qz:=H7 (m:=m+7) (nm:=fe.c.name) (l:=fe.c.Ax) (sp:=1) (p:=fb.node) (rm7.le (by omega)) Jm.2;obtain⟨nw,hnw⟩:∃nw,nw=b2.FE fe.c.name fe.c.Ax 1:=⟨_,rfl⟩;obtain⟨b3,tV⟩:∃b3,b3=b2.D9 fe.c.name fe.c.Ax 1 fb.node:=⟨_,rfl⟩;have ho3:b3.AR=s'.1.AR:=by rw[tV,<-Wf];unfold BS.D9;rw[if_pos IP]
 have L3:b3.A4=s'.1.A4:=by rw[tV,<-HV];unfold BS.D9;rw[if_pos IP]
 rw[<-hnw] at r11 fr;rw[<-tV] at w8 dk fr le8 qz;have aHp:(b3.a.nd fb.node).AZ.length<=1000000000:=qz.Tq.AZ dk.ok fb.node;obtain⟨kv,r12,pA⟩:∃v,BE cx 186 [Pt a 0,I fb.node] h8 v h8/\Dh (b3.a.nd fb.node).AZ v:=by obtain⟨n,i,ps,wa,_⟩:=w8.w;exact bt wa aHp
 have XT:=λ(y:Item)=>@Item.Co y;have Ik:Ev cx 220 [Pt bi 0,.str nm] h λr h'=>r= .bool true/\∃o' c' G',RX h' bi a o' c' t G' (BS.FO fe.c fb.node an.node s')/\BO (BS.FO fe.c fb.node an.node s').A4 c'/\Df h (own bi G) h' (own bi G'):=by
  unfold Ev;rw[OS,iZ];simp only[Az,Nat.reduceLeDiff,↓reduceIte,Bi,EB,l3,r1.call,dX,e1,ld,r2.call,cQ,AP,r3.call,dG,r4.call,eN,show¬((k+1+N:Nat):Int)<0 by omega,e2,Tn,e3];simp only[Az,Nat.reduceLeDiff,↓reduceIte,AI,Bi,r7.call,r8.call,r9.call,sS];simp only[Az,↓reduceIte,Bi,EB,r11.call,XT,w8.l0,r12.call];have xc:Df h (own bi G) h8 (own bi G8):=(i.x.trans x7).trans x8;have hvl:=AL.Cq pA;refine Ej (i:=0) (λj:Nat=>[I (j:Int)]) (λj h9=>j<=(b3.a.nd fb.node).AZ.length/\∃G9,RX h9 bi a o5 c5 t G9 {b3 with a:=BS.Cj b3.a nw.node ((b3.a.nd fb.node).AZ.take j)}/\DG {b3 with a:=BS.Cj b3.a nw.node ((b3.a.nd fb.node).AZ.take j)}/\BQ {b3 with a:=BS.Cj b3.a nw.node ((b3.a.nd fb.node).AZ.take j)} (m+7)/\Df h8 (own bi G8) h9 (own bi G9)) (λj=>(b3.a.nd fb.node).AZ.length-j)
   (λj h9=>j=(b3.a.nd fb.node).AZ.length/\∃G9,RX h9 bi a o5 c5 t G9 {b3 with a:=BS.Cj b3.a nw.node ((b3.a.nd fb.node).AZ.take j)}/\DG {b3 with a:=BS.Cj b3.a nw.node ((b3.a.nd fb.node).AZ.take j)}/\BQ {b3 with a:=BS.Cj b3.a nw.node ((b3.a.nd fb.node).AZ.take j)} (m+7)/\Df h8 (own bi G8) h9 (own bi G9)) 0 rfl ⟨AO _,G8,w8,dk,qz,.refl⟩ ?_ ?_
  .rintro j h9 ⟨hj,G9,w9,jM,pK,x9⟩;rcases AT j (b3.a.nd fb.node).AZ.length with hlt|D2
   .have e9:=AL.Bz (k:= .i64) pA hlt;obtain⟨er,VK,G10,xd,Sk,pL⟩:=w9.Zr jM pK nw.node (b3.a.nd fb.node).AZ[j] 0;have hs:BS.Cj b3.a nw.node ((b3.a.nd fb.node).AZ.take (j+1))=(BS.Cj b3.a nw.node ((b3.a.nd fb.node).AZ.take j)).Fg nw.node (b3.a.nd fb.node).AZ[j] 0:=by rw[Av hlt,Py]
    rw[Cc] at e9;simp only[Az,Bi,hvl,show(j:Int)<((b3.a.nd fb.node).AZ.length:Int) by omega,w9.l0,e9,xd.call,BG (show j<9223372036854775807 by omega)];refine .next (j+1) rfl ⟨hlt,G10,by rw[hs];exact Sk,?_,?_,x9.trans pL⟩ (by omega)
    .have:=jM.Jl (ON (p:=nw.node) (n:=(b3.a.nd fb.node).AZ[j]) (b:=0) jM.ok) M3;rw[hs];exact this
    .have:=pK.Jl (IY (p:=nw.node) (x:=(b3.a.nd fb.node).AZ[j]) (bf:=0));rw[hs];exact this
   .simp only[Az,Bi,hvl,show¬(j:Int)<((b3.a.nd fb.node).AZ.length:Int) by omega];exact .Hy j rfl ⟨by omega,G9,w9,jM,pK,x9⟩
  .rintro j h9 ⟨rfl,G9,w9,jM,pK,x9⟩;rw[Bu] at w9 jM pK;obtain⟨er,VK,G10,xd,Sk,pL⟩:=w9.Zr jM pK fb.node nw.node 0;have q_:BO ({b3 with a:=(BS.Cj b3.a nw.node (b3.a.nd fb.node).AZ).Fg fb.node nw.node 0}:BS).A4 c5:=by simp only;rw[L3];exact i.hc
   have hqa:=i.rm.A4;have wK:EE fe.c.node b3.A4=(q:Int):=by rw[L3];exact sJ
   have r14:=q_.ix (n:=0) (by simp only;rw[L3];omega) fe.c.node VK;simp only at r14;rw[wK] at r14;obtain⟨ZH,U0,r15,rh,sU,x11⟩:=cg Sk q_ (by simp only;rw[L3];omega) fe.c.node;simp only at rh sU;rw[Wa wK] at rh sU;obtain⟨Sj,TD⟩:∃Sj:Nat,Sj=if q<s'.2.2 then s'.2.2 -1 else s'.2.2:=⟨_,rfl⟩
   have fK:(A6 b3.A4 q).length=b3.A4.length-1:=Gq (by rw[L3];exact hq);have hal:b3.A4.length=s'.1.A4.length:=by rw[L3]
   obtain⟨u1,r16,rl,hcc12⟩:=sU.wi (by omega) (e:={fe.c with node:=nw.node}) fe.ok (by have:=Jm.2.1;simp only;omega) (Sj:Int) ZH;have l11:=rh.l3;have s12:=rh.st (k:=3) (v0:=U0) rfl hcc12;have w12:=rh.Kf (u:=u1) (l:=(A6 b3.A4 q).take (Cl Sj (A6 b3.A4 q).length)++{fe.c with node:=nw.node}::(A6 b3.A4 q).drop (Cl Sj (A6 b3.A4 q).length));have x12:=x11.trans (Bd (bi:=bi) (G:=G10) (h:=ZH) (k:=3) (v:=u1));generalize put ZH bi 3 u1=h12 at*;have hob:=i.rm.AR;have tS:b3.AR.length=s'.1.AR.length:=by rw[ho3]
   have aH6:Bb h12 none (Pt bi 2)=some o5:=w12.ld 2;obtain⟨u2,t2,r17,Il⟩:=f253 (h:=h12) w12.o (by simp only;omega) fe.c.node;simp only at Il;have w13:=w12.HB (u:=t2);have s13:=w13.st (k:=2) (v0:=o5) rfl (AL.cells Il);have w14:=w13.Ia Il;have x14:=(x12.trans w12.CN).trans (Bd (bi:=bi) (G:=G10) (h:=h12++t2) (k:=2) (v:=u2));generalize put (h12++t2) bi 2 u2=h14 at*;have dV:(CF fe.c.node b3.AR).length<=s'.1.AR.length:=by rw[<-ho3];exact Kb.length_le
   have aH7:Bb h14 none (Pt bi 2)=some u2:=w14.ld 2;have r18:=WN (h:=h14) Il (by omega) fb.node;have hli: -1<=AK (Bm fb.node) (CF fe.c.node b3.AR)/\AK (Bm fb.node) (CF fe.c.node b3.AR)<=(CF fe.c.node b3.AR).length:=by rcases CQ (q:=Bm fb.node) (l:=CF fe.c.node b3.AR) with⟨h,_⟩|⟨n,h1,h2,_⟩<;>omega
   have add:=OJ (a:=AK (Bm fb.node) (CF fe.c.node b3.AR)) (b:=1) (by omega) (by omega);obtain⟨u3,r19,qt⟩:=f254 (h:=h14) Il (by omega) nw (AK (Bm fb.node) (CF fe.c.node b3.AR)+1);have s15:=w14.st (k:=2) (v0:=u2) rfl (AL.cells qt);have w15:=w14.Ia qt;have x15:=x14.trans (Bd (bi:=bi) (G:=G10) (h:=h14) (k:=2) (v:=u3));have hE:BS.FO fe.c fb.node an.node s'={b3 with a:=(BS.Cj b3.a nw.node (b3.a.nd fb.node).AZ).Fg fb.node nw.node 0,A4:=(A6 b3.A4 q).take (Cl Sj (A6 b3.A4 q).length)++{fe.c with node:=nw.node}::(A6 b3.A4 q).drop (Cl Sj (A6 b3.A4 q).length),AR:=(CF fe.c.node b3.AR).take (En (AK (Bm fb.node) (CF fe.c.node b3.AR)+1) (CF fe.c.node b3.AR).length)++nw::(CF fe.c.node b3.AR).drop (En (AK (Bm fb.node) (CF fe.c.node b3.AR)+1) (CF fe.c.node b3.AR).length)}:=by
    unfold BS.FO;simp only
    rw[<-MC,<-tV,<-hnw,wK,AQ,<-TD]
   have l10a:=Sk.l3;by_cases hqm:(q:Int)<(s'.2.2:Int);·have dm:=Hm (n:=s'.2.2) (by omega) (by omega);rw[if_pos (show q<s'.2.2 by omega)] at TD;rw[<-TD] at dm;simp only[Az,Nat.reduceLeDiff,↓reduceIte,AI,Bi,EB,w9.l0,xd.call,l10a,r14.call,hqm,AP,dm,r15.call,l11,sS];simp only[Az,r16.call,s12,aH6,r17.call,s13,aH7,r18.call,Bv,add,r19.call,s15];rw[hE];exact⟨_,rfl,rfl,u3,u1,G10,w15,rl,(xc.trans (x9.trans pL)).trans x15⟩
   .rw[if_neg (show¬q<s'.2.2 by omega)] at TD;rw[TD] at r16;simp only[Az,Nat.reduceLeDiff,↓reduceIte,AI,Bi,EB,w9.l0,xd.call,l10a,r14.call,hqm,AP,r15.call,l11,sS];simp only[Az,r16.call,s12,aH6,r17.call,s13,aH7,r18.call,Bv,add,r19.call,s15];rw[hE];exact⟨_,rfl,rfl,u3,u1,G10,w15,rl,(xc.trans (x9.trans pL)).trans x15⟩
 obtain⟨r,h',hr,rfl,o',c',G',w',J4,x'⟩:=Ik.ret;rw[e];exact⟨h',o',c',G',hr,w',J4,x'⟩
end
end Go.Am
end
section
namespace Go.Am
open Go
set_option maxRecDepth 100000
namespace BS
def E0(b:BS)(nm:As)(k:Nat):Option Int:=
 if nm=JX then some (IC (b.AR.take k))
 else if nm=xU then(if k=0 then some 7 else some 15)
 else if nm=xV then(if k=0 then some 7 else some 15)
 else if nm=wTr then some 14
 else if nm=R4 then some 13
 else if nm=R6 then some 13
 else if nm=R5 then some 13
 else if nm=Q6 then some 11
 else if nm=OP then some 12
 else if nm=Ew then some 9
 else if nm=A5 then some (b.tm.getLast?.getD 7)
 else if nm=Pu then(if k=0 then some 7 else some 4)
 else if nm=lU then some 7
 else if nm=OQ then some 20
 else if nm=Dc then some (if b.head=0 then 3 else 6)
 else if k=0 then some 7 else none
end BS
section
variable{h h':Ae}{bi a:Nat}{o c t:Aa}{G G' F:Nat->Prop}{b:BS}{x:Int}{m:Nat}
theorem cj{nd:Int}{nm:As}{pt:Bool}{k:Nat}:b.Gn ⟨nd,1,nm,pt⟩ k=b.E0 nm k:=by
 unfold BS.Gn BS.E0;simp only[BN];by_cases n0:nm=JX;·subst n0;cases k<;>rfl
 by_cases n1:nm=xU;·subst n1;cases k<;>rfl
 by_cases n2:nm=xV;·subst n2;cases k<;>rfl
 by_cases n3:nm=wTr;·subst n3;cases k<;>rfl
 by_cases n4:nm=R4;·subst n4;cases k<;>rfl
 by_cases n5:nm=R6;·subst n5;cases k<;>rfl
 by_cases n6:nm=R5;·subst n6;cases k<;>rfl
 by_cases n7:nm=Q6;·subst n7;cases k<;>rfl
 by_cases n8:nm=OP;·subst n8;cases k<;>rfl
 by_cases n9:nm=Ew;·subst n9;cases k<;>rfl
 by_cases Zu:nm=A5;·subst Zu;cases k<;>rfl
 by_cases dZ:nm=Pu;·subst dZ;cases k<;>rfl
 by_cases pX:nm=lU;·subst pX;cases k<;>rfl
 by_cases uC:nm=OQ;·subst uC;cases k<;>rfl
 by_cases sn:nm=Dc;·subst sn;cases k<;>rfl
 have hf:(Iw.find? λr=>decide (r.1=nm))=none:=by
  rw[ZA];intro r hr;simp only[Iw,AM,List.not_mem_nil,or_false] at hr;rcases hr with rfl|rfl|rfl|rfl|rfl|rfl|rfl|rfl|rfl<;>simp only[DI]<;>intro e
  .exact n3 e.symm
  .exact n4 e.symm
  .exact n5 e.symm
  .exact n6 e.symm
  .exact n7 e.symm
  .exact n8 e.symm
  .exact n9 e.symm
  .exact pX e.symm
  .exact uC e.symm
 rw[hf];simp only[n0,n1,n2,n3,n4,n5,n6,n7,n8,n9,Zu,dZ,pX,uC,sn,Ea,or_self,false_and]
theorem cm{i:Item}{k:Nat}(h:¬i.AX=1):b.Gn i k=if k=0 then some 7 else none:=by unfold BS.Gn;rw[if_neg h]
theorem aH8(w:RX h bi a o c t G b)(rm:BQ b m){k:Nat}(hk:k<=b.AR.length):BE cx 261 [Pt bi 0,I (k:Int)] h (I (BS.IC (b.AR.take k))) h:=by
 have ho:=rm.AR;have ld:Bb h none (Pt bi 2)=some o:=w.ld 2;rw[Ab,n_,aFz];simp only[Az,CJ (show -9223372036854775808<=(k:Int)-1 by omega) (show(k:Int)-1<9223372036854775808 by omega)];refine A9 (λn:Nat=>[I 0,I ((n:Int)-1)]) (λn h1=>n<=k/\((b.AR.take k).reverse.find? λi=>Bp [A5] i||Bp [Ew] i)=((b.AR.take n).reverse.find? λi=>Bp [A5] i||Bp [Ew] i)/\h1=h) (λn=>n) k rfl ⟨Ac _,rfl,rfl⟩ ?_;rintro n h1 ⟨hn,ha,rfl⟩;cases n with
 |zero=>simp only[Az,↓reduceIte,Bi,show¬(0:Int)<=((0:Nat):Int)-1 by omega];unfold BS.IC;rw[ha];rfl
 |succ n=>
  have hlt:n<b.AR.length:=by omega
  have i1:((n+1:Nat):Int)-1=(n:Int):=by omega
  have e1:=AL.Bz (k:= .i64) w.o hlt;have em1:Aw (.By 1) [S A5]=some (.sl 1 ([A5].map CH)):=DE (ws:=[A5]) rfl (by decide);have sL:Aw (.By 1) [S Ew]=some (.sl 1 ([Ew].map CH)):=DE (ws:=[Ew]) rfl (by decide);have r2:=f167 (h:=h1) b.AR[n] (CR (ws:=[A5])) (by decide);have r3:=f167 (h:=h1) b.AR[n] (CR (ws:=[Ew])) (by decide);rw[Rd hlt,I0] at ha;generalize b.AR[n]=i at*;simp only[Az,Nat.reduceLeDiff,↓reduceIte,Bi,EB,i1,show(0:Int)<=(n:Int) by omega,ld,e1,em1,r2.call,sL,r3.call,CJ (show -9223372036854775808<=(n:Int)-1 by omega) (show(n:Int)-1<9223372036854775808 by omega)];rw[Ct];refine⟨λh2=>?_,λh2=>?_⟩;·simp only[h2,da] at ha;unfold BS.IC;rw[ha];simp only[h2,BN]
  .simp only[h2,Jg] at ha;rw[Ct];refine⟨λh3=>?_,λh3=>?_⟩;·rw[h3] at ha;unfold BS.IC;rw[ha];simp only[h2,C2,Ea]
   .rw[h3] at ha;exact AF.next n rfl ⟨by omega,ha,rfl⟩ (by omega)
set_option maxHeartbeats 1000000 in
theorem aH9(w:RX h bi a o c t G b)(rm:BQ b m)(i:Item){k:Nat}(hk:k<=b.AR.length):BE cx 190 [Pt bi 0,.agg i.row,I (k:Int),.bool (decide (k=0))] h (.tuple [I ((b.Gn i k).getD 7),.bool (b.Gn i k).isSome]) h:=by
 have htm:=rm.tm;have l6:=w.l6;have l7:=w.l7;have lt:=AL.Cq w.t;obtain⟨nd,sp,nm,pt⟩:=i;by_cases hs:sp=1;rotate_left
 .rw[cm (by exact hs),Ab,nL,aBc];by_cases k0:k=0;·simp only[Az,Bi,Item.row,hs,k0,Ds,Ib,Option.isSome_some]
  .simp only[Az,Bi,Item.row,hs,k0,Fj,Option.getD_none,Option.isSome_none]
 subst hs;rw[cj,Ab,nL,aBc];by_cases n0:nm=JX
 .have e:b.E0 nm k=some (BS.IC (b.AR.take k)):=by unfold BS.E0;rw[if_pos n0]
  rw[e];simp only[Az,IV,Item.row,AV n0,(aH8 w rm hk).call]
 by_cases n1:nm=xU
 .have e:b.E0 nm k=(if k=0 then some 7 else some 15):=by unfold BS.E0;rw[if_neg n0,if_pos n1]
  rw[e];by_cases k0:k=0;·simp only[Az,Bi,IV,Item.row,n0,AV n1,k0]
  .simp only[Az,Bi,IV,Item.row,n0,AV n1,k0]
 by_cases n2:nm=xV
 .have e:b.E0 nm k=(if k=0 then some 7 else some 15):=by unfold BS.E0;rw[if_neg n0,if_neg n1,if_pos n2]
  rw[e];by_cases k0:k=0;·simp only[Az,Bi,IV,Item.row,n0,n1,AV n2,k0]
  .simp only[Az,Bi,IV,Item.row,n0,n1,AV n2,k0]
 by_cases n3:nm=wTr
 .have e:b.E0 nm k=some 14:=by unfold BS.E0;rw[if_neg n0,if_neg n1,if_neg n2,if_pos n3]
  rw[e];simp only[Az,IV,Item.row,n0,n1,n2,AV n3]
 by_cases n4:nm=R4
 .have e:b.E0 nm k=some 13:=by unfold BS.E0;rw[if_neg n0,if_neg n1,if_neg n2,if_neg n3,if_pos n4]
  rw[e];simp only[Az,IV,Item.row,n0,n1,n2,n3,AV n4]
 by_cases n5:nm=R6
 .have e:b.E0 nm k=some 13:=by unfold BS.E0;rw[if_neg n0,if_neg n1,if_neg n2,if_neg n3,if_neg n4,if_pos n5]
  rw[e];simp only[Az,IV,Item.row,n0,n1,n2,n3,n4,AV n5]
 by_cases n6:nm=R5
 .have e:b.E0 nm k=some 13:=by unfold BS.E0;rw[if_neg n0,if_neg n1,if_neg n2,if_neg n3,if_neg n4,if_neg n5,if_pos n6]
  rw[e];simp only[Az,IV,Item.row,n0,n1,n2,n3,n4,n5,AV n6]
 by_cases n7:nm=Q6
 .have e:b.E0 nm k=some 11:=by unfold BS.E0;rw[if_neg n0,if_neg n1,if_neg n2,if_neg n3,if_neg n4,if_neg n5,if_neg n6,if_pos n7]
  rw[e];simp only[Az,IV,Item.row,n0,n1,n2,n3,n4,n5,n6,AV n7]
 by_cases n8:nm=OP
 .have e:b.E0 nm k=some 12:=by unfold BS.E0;rw[if_neg n0,if_neg n1,if_neg n2,if_neg n3,if_neg n4,if_neg n5,if_neg n6,if_neg n7,if_pos n8]
  rw[e];simp only[Az,IV,Item.row,n0,n1,n2,n3,n4,n5,n6,n7,AV n8]
 by_cases n9:nm=Ew
 .have e:b.E0 nm k=some 9:=by unfold BS.E0;rw[if_neg n0,if_neg n1,if_neg n2,if_neg n3,if_neg n4,if_neg n5,if_neg n6,if_neg n7,if_neg n8,if_pos n9]
  rw[e];simp only[Az,IV,Item.row,n0,n1,n2,n3,n4,n5,n6,n7,n8,AV n9]
 by_cases Zu:nm=A5
 .have e:b.E0 nm k=some (b.tm.getLast?.getD 7):=by unfold BS.E0;rw[if_neg n0,if_neg n1,if_neg n2,if_neg n3,if_neg n4,if_neg n5,if_neg n6,if_neg n7,if_neg n8,if_neg n9,if_pos Zu]
  rw[e];by_cases ht:b.tm=[]
  .have lt0:Aw (.len false) [t]=some (I 0):=by rw[lt,ht];rfl
   simp only[Az,IV,Item.row,n0,n1,n2,n3,n4,n5,n6,n7,n8,n9,AV Zu,l6,lt0,ht,List.getLast?_nil]
  .have hpos:=FX.2 ht;have e1:=AL.Bz (k:= .i64) w.t (show b.tm.length-1<b.tm.length by omega);have e2:b.tm.getLast?.getD 7=b.tm[b.tm.length-1]:=by rw[dS,Af (by omega)];rfl
   rw[Cc] at e1;simp only[Az,IV,Item.row,n0,n1,n2,n3,n4,n5,n6,n7,n8,n9,AV Zu,l6,lt,show(0:Int)<(b.tm.length:Int) by omega,Hm hpos (show b.tm.length<9223372036854775807 by omega),e1,e2]
 by_cases dZ:nm=Pu
 .have e:b.E0 nm k=(if k=0 then some 7 else some 4):=by unfold BS.E0;rw[if_neg n0,if_neg n1,if_neg n2,if_neg n3,if_neg n4,if_neg n5,if_neg n6,if_neg n7,if_neg n8,if_neg n9,if_neg Zu,if_pos dZ]
  rw[e];by_cases k0:k=0;·simp only[Az,Bi,IV,Item.row,n0,n1,n2,n3,n4,n5,n6,n7,n8,n9,Zu,AV dZ,k0]
  .simp only[Az,Bi,IV,Item.row,n0,n1,n2,n3,n4,n5,n6,n7,n8,n9,Zu,AV dZ,k0]
 by_cases pX:nm=lU
 .have e:b.E0 nm k=some 7:=by unfold BS.E0;rw[if_neg n0,if_neg n1,if_neg n2,if_neg n3,if_neg n4,if_neg n5,if_neg n6,if_neg n7,if_neg n8,if_neg n9,if_neg Zu,if_neg dZ,if_pos pX]
  rw[e];simp only[Az,IV,Item.row,n0,n1,n2,n3,n4,n5,n6,n7,n8,n9,Zu,dZ,AV pX]
 by_cases uC:nm=OQ
 .have e:b.E0 nm k=some 20:=by unfold BS.E0;rw[if_neg n0,if_neg n1,if_neg n2,if_neg n3,if_neg n4,if_neg n5,if_neg n6,if_neg n7,if_neg n8,if_neg n9,if_neg Zu,if_neg dZ,if_neg pX,if_pos uC]
  rw[e];simp only[Az,IV,Item.row,n0,n1,n2,n3,n4,n5,n6,n7,n8,n9,Zu,dZ,pX,AV uC]
 by_cases sn:nm=Dc
 .have e:b.E0 nm k=some (if b.head=0 then 3 else 6):=by unfold BS.E0;rw[if_neg n0,if_neg n1,if_neg n2,if_neg n3,if_neg n4,if_neg n5,if_neg n6,if_neg n7,if_neg n8,if_neg n9,if_neg Zu,if_neg dZ,if_neg pX,if_neg uC,if_pos sn]
  rw[e];by_cases hh:b.head=0;·simp only[Az,IV,Item.row,n0,n1,n2,n3,n4,n5,n6,n7,n8,n9,Zu,dZ,pX,uC,AV sn,l7,hh]
  .simp only[Az,IV,Item.row,n0,n1,n2,n3,n4,n5,n6,n7,n8,n9,Zu,dZ,pX,uC,AV sn,l7,hh]
 have e:b.E0 nm k=if k=0 then some 7 else none:=by unfold BS.E0;rw[if_neg n0,if_neg n1,if_neg n2,if_neg n3,if_neg n4,if_neg n5,if_neg n6,if_neg n7,if_neg n8,if_neg n9,if_neg Zu,if_neg dZ,if_neg pX,if_neg uC,if_neg sn]
 rw[e];by_cases k0:k=0;·simp only[Az,Bi,IV,Item.row,n0,n1,n2,n3,n4,n5,n6,n7,n8,n9,Zu,dZ,pX,uC,sn,k0]
 .simp only[Az,Bi,IV,Item.row,n0,n1,n2,n3,n4,n5,n6,n7,n8,n9,Zu,dZ,pX,uC,sn,k0]
theorem so(w:RX h bi a o c t G b)(rm:BQ b m):
  ∃h',BE cx 101 [Pt bi 0] h (.tuple []) h'/\RX h' bi a o c t G b.HO/\Df h (own bi G) h' (own bi G):=by
 have ho:=rm.AR;have ld:Bb h none (Pt bi 2)=some o:=w.ld 2;have lo:=AL.Cq w.o;have Qm:=w.l9;have hlc:=w.sN;have Ik:Ev cx 101 [Pt bi 0] h λr h'=>r= .tuple []/\RX h' bi a o c t G b.HO/\Df h (own bi G) h' (own bi G):=by
  unfold Ev;rw[jm,aEH];simp only[Az,ld,lo,CJ (show -9223372036854775808<=(b.AR.length:Int)-1 by omega) (show(b.AR.length:Int)-1<9223372036854775808 by omega)];have hst:∀v,Cv h 1 (Pt bi 4) (I v)=some (Am.put h bi 4 (I v)):=λv=>w.st (k:=4) rfl rfl;refine A9 (λn:Nat=>[I ((n:Int)-1)]) (λn h1=>n<=b.AR.length/\b.Kx b.AR.length=b.Kx n/\h1=h) (λn=>n) b.AR.length rfl ⟨Ac _,rfl,rfl⟩ ?_;rintro n h1 ⟨hn,ha,rfl⟩;cases n with
  |zero=>
   have e:b.HO={b with mode:=7}:=by unfold BS.HO;rw[ha];rfl
   simp only[Az,↓reduceIte,Bi,show¬(0:Int)<=((0:Nat):Int)-1 by omega,hst];exact⟨_,rfl,rfl,by rw[e];exact w.cZ 7,Bd⟩
  |succ n=>
   have hlt:n<b.AR.length:=by omega
   have i1:((n+1:Nat):Int)-1=(n:Int):=by omega
   have e1:=AL.Bz (k:= .i64) w.o hlt;have r3:=aH9 w rm (b.D4 n) (k:=n) (by omega);have e:b.Kx (n+1)=match b.Gn (b.D4 n) n with|some m=>m|none=>b.Kx n:=rfl
   rw[e] at ha;have Nw:=CJ (show -9223372036854775808<=(n:Int)-1 by omega) (show(n:Int)-1<9223372036854775808 by omega);have er1:∀(h0:n≠0\/b.Jj=false),b.D4 n=b.AR[n]:=λh0=>by unfold BS.D4;rw[if_neg (by rintro⟨h1,h2⟩;rcases h0 with h0|h0;exact h0 h1;rw[h0] at h2;exact absurd h2 (by decide)),AE,Af hlt];rfl
   have er2:n=0->b.Jj=true->b.D4 n=b.ctx:=λh0 hf=>by unfold BS.D4;rw[if_pos ⟨h0,hf⟩]
   have Hy:∀v,b.Gn (b.D4 n) n=some v->RX (Am.put h1 bi 4 (I v)) bi a o c t G b.HO:=λv hm=>by
    rw[hm] at ha;have e:b.HO={b with mode:=v}:=by unfold BS.HO;rw[ha]
    rw[e];exact w.cZ v
   have nxt:b.Gn (b.D4 n) n=none->b.Kx b.AR.length=b.Kx n:=λhm=>by rw[hm] at ha;exact ha
   generalize hx:b.AR[n]=x at*;by_cases h0:n=0
   .have Wx:((n:Int)=0)=True:=AV (by omega);rw[AD h0] at r3;cases hf:b.Jj with
    |true=>
     rw[er2 h0 hf] at r3 Hy nxt;rw[hf] at Qm;cases hm:b.Gn b.ctx n with
     |none=>rw[hm] at r3;simp only[Az,Nat.reduceLeDiff,↓reduceIte,EB,i1,show(0:Int)<=(n:Int) by omega,ld,e1,Wx,Qm,hlc,r3.call,Nw,IV];exact AF.next n rfl ⟨by omega,nxt hm,rfl⟩ (by omega)
     |some v=>rw[hm] at r3;simp only[Az,Nat.reduceLeDiff,↓reduceIte,EB,i1,show(0:Int)<=(n:Int) by omega,ld,e1,Wx,Qm,hlc,r3.call,hst,IV];exact⟨_,rfl,rfl,Hy v hm,Bd⟩
    |false=>
     rw[er1 (.inr hf)] at r3 Hy nxt;rw[hf] at Qm;cases hm:b.Gn x n with
     |none=>rw[hm] at r3;simp only[Az,Nat.reduceLeDiff,↓reduceIte,EB,i1,show(0:Int)<=(n:Int) by omega,ld,e1,Wx,Qm,r3.call,Nw,IV];exact AF.next n rfl ⟨by omega,nxt hm,rfl⟩ (by omega)
     |some v=>rw[hm] at r3;simp only[Az,Nat.reduceLeDiff,↓reduceIte,EB,i1,show(0:Int)<=(n:Int) by omega,ld,e1,Wx,Qm,r3.call,hst,IV];exact⟨_,rfl,rfl,Hy v hm,Bd⟩
   .have Wx:¬(n:Int)=0:=by omega
    rw[AA h0] at r3;rw[er1 (.inl h0)] at r3 Hy nxt;cases hm:b.Gn x n with
    |none=>rw[hm] at r3;simp only[Az,Nat.reduceLeDiff,↓reduceIte,EB,i1,show(0:Int)<=(n:Int) by omega,ld,e1,Wx,r3.call,Nw,IV];exact AF.next n rfl ⟨by omega,nxt hm,rfl⟩ (by omega)
    |some v=>rw[hm] at r3;simp only[Az,Nat.reduceLeDiff,↓reduceIte,EB,i1,show(0:Int)<=(n:Int) by omega,ld,e1,Wx,r3.call,hst,IV];exact⟨_,rfl,rfl,Hy v hm,Bd⟩
 obtain⟨r,h',hr,rfl,w',x'⟩:=Ik.ret;exact⟨h',hr,w',x'⟩
theorem aMG(w:RX h bi a o c t G b)(hc:BO b.A4 c)(rm:BQ b m):
  ∃h' o' c' t',BE cx 134 [Pt bi 0] h (.tuple []) h'/\RX h' bi a o' c' t' G b.C7/\BO b.C7.A4 c'/\Df h (own bi G) h' (own bi G):=by
 have aX:AS=140737488355328:=rfl;have ho:=rm.AR;have Rs:=rm.A4;have htm:=rm.tm;have hin:∀i∈b.AR,i.name.length<9223372036854775807:=λi hi=>by have:=rm.Wk i hi;omega
 have ld:Bb h none (Pt bi 2)=some o:=w.ld 2;have r1:=aBV (h:=h) w.o (by omega) A5;by_cases Fh:AK (Bp [A5]) b.AR<0;·refine⟨h,o,c,t,?_,by unfold BS.C7;rw[if_pos Fh];exact w,by unfold BS.C7;rw[if_pos Fh];exact hc,.refl⟩;rw[Ab,YY,ka];simp only[Az,Bi,ld,r1.call,Fh]
 obtain⟨u1,t1,r2,Nu⟩:=f165 (h:=h) w.o (by omega) hin [] true;have hst:Ef [] true=Cr:=by funext a;rfl
 rw[hst] at Nu;have w0:=w.HB (u:=t1);have s1:=w0.st (k:=2) (v0:=o) rfl (AL.cells Nu);have w1:=w0.Ia Nu;have x1:=w.CN.trans (Bd (bi:=bi) (G:=G) (h:=h++t1) (k:=2) (v:=u1));have l1:(Dr Cr CC b.AR).length<=b.AR.length:=OK;generalize put (h++t1) bi 2 u1=h1 at*;have uB:Bb h1 none (Pt bi 2)=some u1:=w1.ld 2;obtain⟨u2,t2,r3,Il⟩:=f85 (h:=h1) Nu (by omega) (CR (ws:=[A5])) (by decide);rw[<-M1] at Il;have w2':=w1.HB (u:=t2);have s2:=w2'.st (k:=2) (v0:=u1) rfl (AL.cells Il);have w2:=w2'.Ia Il;have x2:=(x1.trans w1.CN).trans (Bd (bi:=bi) (G:=G) (h:=h1++t2) (k:=2) (v:=u2));generalize put (h1++t2) bi 2 u2=h2 at*;have l32:=w2.l3;obtain⟨fs,Gr,hcs⟩:=hc;have GI:fs.length=b.A4.length:=by rw[<-Gr,Ai]
 obtain⟨u3,r4,qt⟩:=f84 (h:=h2) hcs (by omega);have s3:=w2.st (k:=3) (v0:=c) rfl (AL.cells qt);have w3:=w2.Kf (u:=u3) (l:=FD b.A4);have x3:=x2.trans (Bd (bi:=bi) (G:=G) (h:=h2) (k:=3) (v:=u3));have L3:BO (FD b.A4) u3:=⟨_,by rw[T8,Gr],qt⟩;generalize put h2 bi 3 u3=h3 at*;have lt:=AL.Cq w.t;have l6:=w3.l6;have e:b.C7=BS.HO {b with AR:=Dr CC (Bp [A5]) (Dr Cr CC b.AR),A4:=FD b.A4,tm:=b.tm.dropLast}:=by unfold BS.C7;rw[if_neg Fh]
 have sO:(Dr CC (Bp [A5]) (Dr Cr CC b.AR)).Sublist b.AR:=(EF (p:=CC) (q:=Bp [A5]) (l:=Dr Cr CC b.AR)).trans EF;by_cases h0:b.tm=[]
 .have w3':RX h3 bi a u2 u3 t G {b with AR:=Dr CC (Bp [A5]) (Dr Cr CC b.AR),A4:=FD b.A4,tm:=b.tm.dropLast}:=by
   have:b.tm.dropLast=b.tm:=by rw[h0];rfl
   rw[this];exact w3
  obtain⟨h4,r5,w4,x4⟩:=so w3' (rm.sub (b':={b with AR:=Dr CC (Bp [A5]) (Dr Cr CC b.AR),A4:=FD b.A4,tm:=b.tm.dropLast}) rfl sO (EX _ _) (by simp));refine⟨h4,u2,u3,t,?_,by rw[e];exact w4,by rw[e];exact L3,x3.trans x4⟩;have lt0:Aw (.len false) [t]=some (I 0):=by rw[lt,h0];rfl
  rw[Ab,YY,ka];simp only[Az,ld,r1.call,Fh,r2.call,s1,uB,dA,r3.call,s2,l32,r4.call,s3,l6,lt0,r5.call,IV]
 .have hpos:=FX.2 h0;obtain⟨u4,e4,hu4⟩:=AL.Lb w.t (k:= .i64) (n:=b.tm.length-1) (by omega);rw[<-List.dropLast_eq_take] at hu4;obtain⟨u5,e5,hu5⟩:=AL.Gm (b:=8) hu4 (by simp;omega);have s5:=w3.st (k:=6) (v0:=t) rfl (AL.cells hu5);have w4:=w3.jI hu5;obtain⟨h5,r6,w5,x5⟩:=so w4 (rm.sub (b':={b with AR:=Dr CC (Bp [A5]) (Dr Cr CC b.AR),A4:=FD b.A4,tm:=b.tm.dropLast}) rfl sO (EX _ _) (by simp));refine⟨h5,u2,u3,u5,?_,by rw[e];exact w5,by rw[e];exact L3,(x3.trans Bd).trans x5⟩;rw[Ab,YY,ka];simp only[Az,ld,r1.call,Fh,r2.call,s1,uB,dA,r3.call,s2,l32,r4.call,s3,l6,lt,show(0:Int)<(b.tm.length:Int) by omega,Hm hpos (show b.tm.length<9223372036854775807 by omega),e4,e5,s5,r6.call,IV]
theorem aMH(w:RX h bi a o c t G b)(hc:BO b.A4 c)(ok:DG b)(rm:BQ b (m+8*(4*(b.AR.length+8)+10)))(hnm:Nm b.a)(nm:As):
  ∃h' o' c' G',BE cx 132 [Pt bi 0,.str nm] h (.tuple []) h'/\RX h' bi a o' c' t G' (b.Hp nm)/\BO (b.Hp nm).A4 c'/\Df h (own bi G) h' (own bi G'):=by
 have ho:=rm.AR;have Rs:=rm.A4;have ld:Bb h none (Pt bi 2)=some o:=w.ld 2;have r1:=bw w rm;have em:Aw (.By 1) [.str nm]=some (.sl 1 ([nm].map CH)):=DE (ws:=[nm]) rfl (by simp);have r2:BE cx 214 [.agg (EU b.AR).row,.sl 1 ([nm].map CH)] h (.bool (Bp [nm] (EU b.AR))) h:=f167 (EU b.AR) (CR (ws:=[nm])) (by simp);have r3:=hc.ix (n:=0) (by omega) (EU b.AR).node h;have hpa:b.P9.A4=b.A4:=by unfold BS.P9;split<;>rfl
 have l3:=w.l3;by_cases h1:Bp [nm] (EU b.AR)=true/\EE (EU b.AR).node b.A4<0
 .obtain⟨u,t1,r4,hu⟩:=aGf (h:=h) w.o (by omega);have hcu:JH b.AR ((b.AR.length:Int)-1)=b.P9.AR:=by
   unfold BS.P9;split;·unfold JH;rw[Ay (by omega)]
   .unfold JH;congr 1;omega
  rw[hcu] at hu;have w1:=w.HB (u:=t1);have w2:=w1.Ia hu;have e:b.Hp nm=b.P9:=by unfold BS.Hp;rw[if_pos h1]
  have e2:({b with AR:=b.P9.AR}:BS)=b.P9:=by unfold BS.P9;split<;>rfl
  rw[e2] at w2;rw[e];refine⟨_,u,c,G,?_,w2,by rw[hpa];exact hc,w.CN.trans Bd⟩;rw[h1.1] at r2;rw[Ab,mM,aAK];simp only[Az,Bi,EB,r1.call,em,r2.call,l3,Bv,r3.call,h1.2,ld,r4.call,w1.st (k:=2) (v0:=o) rfl (AL.cells hu)]
 have e:b.Hp nm=BS.DK 8 b nm:=by unfold BS.Hp;rw[if_neg h1]
 rw[e];have Ik:Ev cx 132 [Pt bi 0,.str nm] h λr h'=>r= .tuple []/\∃o' c' G',RX h' bi a o' c' t G' (BS.DK 8 b nm)/\BO (BS.DK 8 b nm).A4 c'/\Df h (own bi G) h' (own bi G'):=by
  unfold Ev;rw[mM,aAK];have Hy:∀(Q:Post) (k:EL->List Aa->IT),(∀x vs h1,(x= .exit 0\/x= .ret)->(∃o' c' G',RX h1 bi a o' c' t G' (BS.DK 8 b nm)/\BO (BS.DK 8 b nm).A4 c'/\Df h (own bi G) h1 (own bi G'))->W cx (k x vs) Q h1)->
    W cx (.loop 3 [I 1] (λc17=> .op (.int .leq) [g c17 0,I 8] λv18=> .AH v18 (.call 220 [Pt bi 0,.str nm] λv19=> .op (.un .not) [v19] λv20=> .AH v20 (.ret .ret [g c17 0]) (.op (.int .add) [g c17 0,I 1] λv21=> .ret .normal [v21])) (.ret (.exit 0) [g c17 0])) k) Q h:=by
   intro Q k hk;refine A9 (λn:Nat=>[I ((9 -n:Nat):Int)]) (λn h1=>n<=8/\∃o1 c1 G1 b1,RX h1 bi a o1 c1 t G1 b1/\BO b1.A4 c1/\DG b1/\Nm b1.a/\BQ b1 (m+n*(4*(b.AR.length+8)+10))/\b1.AR.length<=b.AR.length+(8 -n)/\BS.DK 8 b nm=BS.DK n b1 nm/\Df h (own bi G) h1 (own bi G1)) (λn=>n) 8 rfl ⟨Ac _,o,c,G,b,w,hc,ok,hnm,rm,by omega,rfl,.refl⟩ ?_;rintro n h1 ⟨hn,o1,c1,G1,b1,w1,Ql,TA,nm1,jJ,TX,e1,x1⟩;cases n with
   |zero=>simp only[Az,Bi,show¬((9 -0:Nat):Int)<=8 by decide];exact hk _ _ _ (.inl rfl) ⟨o1,c1,G1,by rw[e1];exact w1,by rw[e1];exact Ql,x1⟩
   |succ n=>
    have hsp:(n+1)*(4*(b.AR.length+8)+10)=n*(4*(b.AR.length+8)+10)+(4*(b.AR.length+8)+10):=by rw[BA,Ey]
    rw[hsp] at jJ;have sW:BQ b1 (m+n*(4*(b.AR.length+8)+10)+4*b1.AR.length+10):=jJ.le (by omega);obtain⟨h2,o2,c2,G2,r5,w2,HV,x2⟩:=aH5 w1 Ql TA sW nm1 nm;obtain⟨S2,Xp⟩:=Nb sW nm;have a_:=(Vu (nm:=nm) TA).1;have nm2:=Nm.round (nm:=nm) nm1 sW;have hlt:((9 -(n+1):Nat):Int)<=8:=by omega
    have inc:Aw (.int .add) [I ((9 -(n+1):Nat):Int),I 1]=some (I ((9 -n:Nat):Int)):=by have:=BG (n:=9 -(n+1)) (by omega);rwa [show 9 -(n+1)+1=9 -n by omega] at this
    have er:BS.DK (n+1) b1 nm=if(b1.round nm).1 then BS.DK n (b1.round nm).2 nm else(b1.round nm).2:=rfl
    cases hr:(b1.round nm).1 with
    |true=>rw[hr] at r5 er;simp only[Az,Bi,hlt,r5.call,inc];exact AF.next n rfl ⟨by omega,o2,c2,G2,_,w2,HV,a_,nm2,S2,by omega,e1.trans er,x1.trans x2⟩ (by omega)
    |false=>rw[hr] at r5 er;simp only[Az,Bi,hlt,r5.call];exact hk _ _ _ (.inr rfl) ⟨o2,c2,G2,by rw[e1,er];exact w2,by rw[e1,er];exact HV,x1.trans x2⟩
  by_cases h2:Bp [nm] (EU b.AR)=true
  .have h3:¬EE (EU b.AR).node b.A4<0:=λh=>h1 ⟨h2,h⟩;rw[h2] at r2;simp only[Az,Bi,EB,r1.call,em,r2.call,l3,Bv,r3.call,h3];refine Hy _ _ ?_;rintro x vs h1 (rfl|rfl) ⟨o',c',G',a1,a2,a3⟩;·simp only[Az];exact⟨_,rfl,rfl,o',c',G',a1,a2,a3⟩
   .simp only[Az];exact⟨_,rfl,rfl,o',c',G',a1,a2,a3⟩
  .have h2:Bp [nm] (EU b.AR)=false:=by simpa using h2
   rw[h2] at r2;simp only[Az,r1.call,em,r2.call];refine Hy _ _ ?_;rintro x vs h1 (rfl|rfl) ⟨o',c',G',a1,a2,a3⟩;·simp only[Az];exact⟨_,rfl,rfl,o',c',G',a1,a2,a3⟩
   .simp only[Az];exact⟨_,rfl,rfl,o',c',G',a1,a2,a3⟩
 obtain⟨r,h',hr,rfl,o',c',G',w',J4,x'⟩:=Ik.ret;exact⟨h',o',c',G',hr,w',J4,x'⟩
end
end Go.Am
end
section
namespace Go.Am
open Go
set_option maxRecDepth 100000
theorem tI{h:Ae}{fs:List B3}{v:Aa}(hv:C0 fs v)(hne:fs≠[])(hl:fs.length<=1000000000):Jt h 3 48 .slnil v=some (h++[.cells (fs.map B3.row).flatten],.Cm h.length 0 fs.length 3):=by have hm:AS=140737488355328:=rfl;have:=J8 (h:=h) (s:= .slnil) (z:=3) (b:=48) (.inl rfl) hv (by simpa using hne) (by rw[Ai];omega);rwa [Ai] at this
theorem jV{h:Ae}{v:Aa}(hv:C0 [] v):Jt h 3 48 .slnil v=some (h,.slnil):=N9 (.inl rfl) hv
section
variable{h h':Ae}{bi a:Nat}{o c t:Aa}{G G' F:Nat->Prop}{b:BS}{x:Int}{m:Nat}
theorem aIa(w:RX h bi a o c t G b)(rm:BQ b m)(e:B3):BE cx 213 [Pt bi 0,.agg e.row] h (.bool (b.settled e.c)) h:=by
 have ho:=rm.AR;have ld:Bb h none (Pt bi 2)=some o:=w.ld 2;have r1:=WN (h:=h) w.o (by omega) e.c.node;unfold BS.settled;rw[Ab,mm,aFg,B3.row];by_cases h0:e.c.node=0;·simp only[Az,AV h0,ld,r1.call,true_or,Ds]
 .simp only[Az,Bi,h0,ld,r1.call,false_or]
structure Zv(h:Ae)(bi a:Nat)(t c:Aa)(G0:Nat->Prop)(b:BS)(fs:List B3)(id m k:Nat)(h1:Ae):Prop where
 le:k<=fs.length
 low:b.Ka<=k
 ex:∃(o:Aa) (G:Nat->Prop) (b1:BS) (GZ:List B3),RX h1 bi a o c t G b1/\DG b1/\Nm b1.a/\BQ b1 (m+4*(fs.length-k))/\h1[id]?=some (.cells (GZ.map B3.row).flatten)/\GZ.length=fs.length/\GZ.drop k=fs.drop k/\
  BS.Dv b={(BS.Iv (b.A4.drop k) b1).2 with A4:=(GZ.take k).map (·.c)++(BS.Iv (b.A4.drop k) b1).1}/\¬own bi G id/\Df h (own bi G0) h1 (own bi G)
theorem Zv.init(w:RX h bi a o c t G b)(ok:DG b)(hnm:Nm b.a)(rm:BQ b (m+4*b.A4.length)){fs:List B3}(Gr:fs.map (·.c)=b.A4):
  Zv h bi a t c G b fs h.length m b.Ka (h++[.cells (fs.map B3.row).flatten]):=by
 have GI:b.A4.length=fs.length:=by rw[<-Gr,Ai]
 have hk:=Rf (b:=b);have hne:h.length≠bi:=Nat.ne_of_gt w.lt;refine⟨by omega,Ac _,o,G,b,fs,w.HB (u:=[.cells (fs.map B3.row).flatten]),ok,hnm,rm.le (by omega),?_,rfl,rfl,?_,?_,w.CN⟩;·simp
 .unfold BS.Dv;simp only;rw[HS,Gr]
 .rintro(rfl|hg);·exact hne rfl
  .exact absurd (w.w.lt hg) (C8 _)
theorem Zv.step{fs:List B3}{id k:Nat}{h1:Ae}(Gr:fs.map (·.c)=b.A4)(Jm:∀e∈b.A4,e.name.length<=1000/\DL e.Ax)(hi:h.length<=id)(hlt:k<fs.length)(i:Zv h bi a t c G b fs id m k h1):
  ∃(h2:Ae) (n:Int),Bb h1 none (Pt id (k*3+1))=some (.str fs[k].c.name)/\Bb h1 none (Pt id (k*3+2))=some fs[k].v/\BE cx 123 [Pt bi 0,.agg [I 2,.str fs[k].c.name,ff,S [],ff,S [],ff,ff,fs[k].v,ff,S [],.int .i32 0]] h1 (I n) h2/\
   Cv h2 1 (Pt id (k*3)) (I n)=some (Am.put h2 id (k*3) (I n))/\Zv h bi a t c G b fs id m (k+1) (Am.put h2 id (k*3) (I n)):=by
 obtain⟨o1,G1,b1,GZ,w1,TA,nm1,jJ,Ql,TX,YM,sQ,LU,x1⟩:=i.ex;have Qf:k<GZ.length:=by omega
 have GI:b.A4.length=fs.length:=by rw[<-Gr,Ai]
 have bh:k<b.A4.length:=by omega
 have e1:GZ[k]=fs[k]:=by have:=Ce (λl=>l[0]?) YM;simp only[Cz,Bn] at this;rw[Af Qf,Af hlt] at this;exact EC this
 have eb:b.A4[k]=fs[k].c:=by simp only[<-Gr,CY]
 have hg:(GZ.map B3.row)[k]?=some fs[k].row:=by rw[Cp,Af Qf,e1];rfl
 have ld:∀j,j<3->Bb h1 none (Pt id (k*3+j))=fs[k].row[j]?:=λj hj=>by simp only[Bb,Ql,Et];exact Ke (M2 GZ) hj hg
 have Jm:=Jm fs[k].c (by rw[<-eb];exact AJ bh);have hr:M8 fs[k].c.name fs[k].v [I 2,.str fs[k].c.name,ff,S [],ff,S [],ff,ff,fs[k].v,ff,S [],.int .i32 0]:=⟨I 2,ff,S [],ff,S [],ff,ff,ff,S [],.int .i32 0,rfl⟩;obtain⟨h2,o2,G2,r2,w2,x2⟩:=si (m:=m+4*(fs.length-(k+1))) w1 TA (jJ.le (by omega)) nm1 hr fs[k].ok Jm.2 Jm.1;have qS:id<h1.length:=(Ah.1 Ql).1;have HV:h2[id]?=some (.cells (GZ.map B3.row).flatten):=by rw[x2.old id qS LU];exact Ql
 have Rq:¬own bi G2 id:=λhg=>by
  rcases x2.own id hg with hg|hg
  .exact LU hg
  .omega
 have at2:At h2 id (k*3) (I fs[k].c.node):=⟨_,HV,by have:=Ke (k:=0) (M2 GZ) (by decide) hg;rw[Bn] at this;rw[this];rfl⟩
 let e':B3:=⟨{fs[k].c with node:=b1.a.len+1},fs[k].v,fs[k].ok⟩
 have hrow:(GZ.map B3.row).flatten.set (k*3) (I (b1.a.len+1))=((GZ.set k e').map B3.row).flatten:=by have:=Mt (Au:=GZ.map B3.row) (i:=k) (k:=0) (v:= I (b1.a.len+1)) (M2 GZ) (by simpa using Qf) (by decide);rw[Bn] at this;rw[Fk,BY,if_pos (by rw[Fe (M2 GZ),Ai];omega)];rw[AB] at this;rw[show e'.row=((GZ.map B3.row)[k]'(by simpa using Qf)).set 0 (I (b1.a.len+1)) by rw[CY,e1];rfl];exact this
 refine⟨h2,b1.a.len+1,ld 1 (by decide),ld 2 (by decide),r2,at2.store rfl,⟨hlt,by have:=i.low;omega,o2,G2,_,GZ.set k e',w2.CP λj hj=>B4 λe=>Rq (e▸hj),Qa TA,nm1.L2 Jm.1,Lh (m:=m+4*(fs.length-(k+1))) (jJ.le (by omega)) Jm.2 Jm.1,?_,by rw[Bj];exact TX,?_,?_,Rq,⟨by rw[IB];exact(x1.trans x2).len,λj hj hn=>(B4 (by omega)).trans ((x1.trans x2).old j hj hn),(x1.trans x2).own⟩⟩⟩;·rw[Hn HV,AN (by have:=x2.len;omega),hrow]
 .rw[List.drop_set_of_lt (tN k)];have:=Ce (λl=>l.drop 1) YM;simpa[E7] using this
 .rw[sQ,AG bh,eb,BS.Iv];simp only
  congr 1
  rw[Av (by rw[Bj];exact Qf),List.getElem_set_self,BI,aIj (Ac k),AB];rfl
theorem aMI(w:RX h bi a o c t G b)(hc:BO b.A4 c)(ok:DG b)(rm:BQ b (m+4*b.A4.length))(hnm:Nm b.a):
  ∃h' o' c' G',BE cx 130 [Pt bi 0] h (.tuple []) h'/\RX h' bi a o' c' t G' b.Dv/\BO b.Dv.A4 c'/\Df h (own bi G) h' (own bi G'):=by
 have ho:=rm.AR;have Rs:=rm.A4;obtain⟨fs,Gr,hcs⟩:=hc;have GI:b.A4.length=fs.length:=by rw[<-Gr,Ai]
 have Ik:Ev cx 130 [Pt bi 0] h λr h'=>r= .tuple []/\∃o' c' G',RX h' bi a o' c' t G' b.Dv/\BO b.Dv.A4 c'/\Df h (own bi G) h' (own bi G'):=by
  unfold Ev;have l3:=w.l3;have lc:=AL.Cq hcs;rw[jz,aEP];simp only[Az,l3,lc];refine Ej (i:=0) (λn:Nat=>[I (n:Int)]) (λn h1=>n<=fs.length/\AK b.settled b.A4=AK b.settled (b.A4.take n)/\h1=h) (λn=>n) (λn h1=>n=b.Ka/\h1=h) fs.length rfl ⟨Ac _,by rw[<-GI,Bu],rfl⟩ ?_ ?_
  .rintro n h1 ⟨hn,ha,rfl⟩;cases n with
   |zero=>simp only[Az,Bi,show¬(0:Int)<((0:Nat):Int) by decide];refine .Hy 0 rfl ⟨?_,rfl⟩;unfold BS.Ka;rw[ha];rfl
   |succ n=>
    have hlt:n<b.A4.length:=by omega
    have Ra:n<fs.length:=by omega
    rw[Gb hlt] at ha;have i1:=Hm (n:=n+1) (show 0<n+1 by omega) (show n+1<9223372036854775807 by omega);rw[GH] at i1;have e1:=AL.Bz (k:= .i64) hcs Ra;have en:fs[n].c=b.A4[n]:=by simp only[<-Gr,CY]
    have r1:=aIa w rm fs[n];rw[en] at r1;have ZG:fs[n].row.length=3:=rfl;have ht3:fs[n].row.take 3=fs[n].row:=rfl;simp only[Az,↓reduceIte,Bi,show(0:Int)<((n+1:Nat):Int) by omega,l3,i1,e1,ZG,ht3,Ac,r1.call];cases hs:b.settled b.A4[n] with
    |true=>rw[hs,if_pos rfl] at ha;simp only[Az,Bi];exact .Hy (n+1) rfl ⟨by unfold BS.Ka;rw[ha];omega,rfl⟩
    |false=>rw[hs,if_neg (by decide)] at ha;simp only[Az,Bi];exact .next n rfl ⟨by omega,ha,rfl⟩ (by omega)
  .rintro n h1 ⟨rfl,eh⟩;rw[eh];by_cases hne:fs=[]
   .subst hne;have ha:b.A4=[]:=Gr.symm;have hK:b.Ka=0:=by have:=Rf (b:=b);rw[ha] at this;exact Nat.le_zero.1 this
    have hb:b.Dv=b:=by unfold BS.Dv;rw[ha];simp only[List.drop_nil,BS.Iv,List.take_nil,BH];rw[<-ha]
    have g0:=jV (h:=h) hcs;have s1:=w.st (k:=3) (v:= .slnil) (v0:=c) rfl rfl;have w1:RX (put h bi 3 .slnil) bi a o .slnil t G b:=w.Kf (l:=b.A4);have e1:=Ok w1.pB (pG (l:=[]) (.inr ⟨rfl,rfl⟩)) rfl;have hz:(b.Ka:Int)=((0:Nat):Int):=by rw[hK]
    simp only[Az,↓reduceIte,l3,g0];refine Ej (i:=2) (λn:Nat=>[I (n:Int)]) (λn h1=>n=0/\h1=h) (λn=>n) (λn h1=>n=0/\h1=h) 0 (by rw[hz]) ⟨rfl,rfl⟩ ?_ ?_;·rintro n h1 ⟨rfl,rfl⟩;simp only[Az,Nat.reduceLeDiff,↓reduceIte,AI,Bi,show Aw (.len false) [.slnil]=some (I 0) from rfl,show¬((0:Nat):Int)<0 by decide];exact .Hy 0 rfl ⟨rfl,rfl⟩
    .rintro n h1 ⟨rfl,rfl⟩;simp only[Az,↓reduceIte,s1,e1];refine⟨_,rfl,rfl,o,.slnil,G,?_,⟨[],by rw[hb,ha];rfl,.inr ⟨rfl,rfl⟩⟩,Bd.trans Bd⟩;rw[hb];exact w1.Kf (l:=b.A4)
   .have i0:=Zv.init (m:=m) w ok hnm rm Gr;have g1:=tI (h:=h) hcs hne (by omega);have lm:Aw (.len false) [.Cm h.length 0 fs.length 3]=some (I (fs.length:Int)):=rfl;simp only[Az,↓reduceIte,l3,g1];refine Ej (i:=2) (λn:Nat=>[I (n:Int)]) (λk h1=>Zv h bi a t c G b fs h.length m k h1) (λk=>fs.length-k) (λk h1=>k=fs.length/\Zv h bi a t c G b fs h.length m k h1) b.Ka rfl i0 ?_ ?_
    .intro k h1 i;have DW:=i.le;rcases AT k fs.length with hlt|D2
     .obtain⟨h2,n,s1,s2,s3,s4,s5⟩:=Zv.step Gr rm.Dl (Ac _) hlt i;have e1:Aw (.Fm 3) [.Cm h.length 0 fs.length 3,I (k:Int)]=some (Pt h.length (k*3)):=EZ hlt;have sS:fs[k].v.cells=[fs[k].v]:=AL.cells fs[k].ok;simp only[Az,Nat.reduceLeDiff,↓reduceIte,AI,Bi,lm,show(k:Int)<(fs.length:Int) by omega,e1,s1,s2,sS,s3.call,s4,BG (show k<9223372036854775807 by omega)];exact .next (k+1) rfl s5 (by omega)
     .simp only[Az,Nat.reduceLeDiff,↓reduceIte,AI,Bi,lm,show¬(k:Int)<(fs.length:Int) by omega];exact .Hy k rfl ⟨by omega,i⟩
    .rintro k h1 ⟨rfl,i⟩;obtain⟨o1,G1,b1,GZ,w1,TA,nm1,jJ,Ql,TX,YM,sQ,LU,x1⟩:=i.ex;have hnb:h.length≠bi:=λe=>LU (.inl e);have s1:=w1.st (k:=3) (v:= .Cm h.length 0 fs.length 3) (v0:=c) rfl rfl;have w2:=w1.Kf (u:= .Cm h.length 0 fs.length 3) (l:=b1.A4);have HV:(put h1 bi 3 (.Cm h.length 0 fs.length 3))[h.length]?=_:=(B4 hnb).trans Ql;have hf:=JF (M2 GZ) HV;rw[Ai,TX] at hf;have e1:=Ok w2.pB hf (by rw[Aj hnb]);have w3:RX ((put h1 bi 3 (.Cm h.length 0 fs.length 3)).set h.length .CG) bi a o1 _ t G1 {b1 with A4:=b1.A4}:=w2.CP λj hj=>Aj λe=>LU (by rw[e];exact hj);simp only[Az,↓reduceIte,s1,e1];have hb:b.Dv={b1 with A4:=GZ.map (·.c)}:=by rw[sQ,A3 (by omega),Ay (by omega)];simp only[BS.Iv,BB]
     refine⟨_,rfl,rfl,o1,_,G1,by rw[hb];exact w3.Kf,⟨GZ,by rw[hb],.mk⟩,?_⟩;have x2:=x1.trans (Bd (bi:=bi) (G:=G1) (k:=3) (v:= .Cm h.length 0 fs.length 3));refine Df.trans ⟨by rw[Bj];exact x2.len,λj hj hn=>?_,x2.own⟩ Bd;rw[Aj (by omega)];exact x2.old j hj hn
 obtain⟨r,h',hr,rfl,o',c',G',w',J4,x'⟩:=Ik.ret;exact⟨h',o',c',G',hr,w',J4,x'⟩
end
section
variable{h h':Ae}{bi a:Nat}{o c t:Aa}{G G' F:Nat->Prop}{b:BS}{x:Int}{m j:Nat}{q:dI}
variable{nm:As}{av:Aa}{l:List AW}{r:List Aa}{sp p:Int}
set_option maxHeartbeats 4000000 in
theorem aMJ(w:RX h bi a o c t G b)(hc:BO b.A4 c)(ok:DG b)(sz:Sz b (j+1))(hnm:Nm b.a)(hq:bk q)(hv:Bx q.Ax av):
  ∃h' o' c' t' G',BE cx 56 [Pt bi 0,.agg (Kz q av)] h (.agg (VV b q).2.row) h'/\RX h' bi a o' c' t' G' (VV b q).1/\BO (VV b q).1.A4 c'/\Df h (own bi G) h' (own bi G'):=by
 unfold VV Kz;by_cases k1:q.k=1;·rw[if_pos k1];dsimp only;obtain⟨r,jP,r1,hr,Du⟩:=TE (q:=q) hv hq.Ax.1 h;rw[Kz] at r1;obtain⟨h',o',G',r2,w',x'⟩:=si (m:=5000000*j) w ok sz.VY hnm hr Du hq.Ax hq.name;refine⟨h',o',c,t,G',?_,w',by rw[FF];exact hc,x'⟩;rw[Ab,E4,S0];simp only[Az,Nat.reduceLeDiff,↓reduceIte,AI,Bi,AV k1,r1.call,r2.call];try rfl
 rw[if_neg k1];by_cases k2:q.k=2;·rw[if_pos k2];dsimp only;obtain⟨r,jP,r1,hr,Du⟩:=TE (q:=q) hv hq.Ax.1 h;rw[Kz] at r1;obtain⟨h',o',G',r2,w',x'⟩:=aHX (m:=5000000*j) w ok sz.VY hnm hr Du hq.Ax hq.name q.AX;refine⟨h',o',c,t,G',?_,w',by rw[FF];exact hc,x'⟩;rw[Ab,E4,S0];simp only[Az,Nat.reduceLeDiff,↓reduceIte,AI,Bi,k1,AV k2,r1.call,r2.call];try rfl
 rw[if_neg k2];by_cases k3:q.k=3;·rw[if_pos k3];dsimp only;obtain⟨r,jP,r1,hr,Du⟩:=TE (q:=q) hv hq.Ax.1 h;rw[Kz] at r1;obtain⟨h',o',c',G',r2,w',J4,x'⟩:=aMB (m:=5000000*j) w hc ok sz.VY hnm hr Du hq.Ax hq.name;refine⟨h',o',c',t,G',?_,w',J4,x'⟩;rw[Ab,E4,S0];simp only[Az,Nat.reduceLeDiff,↓reduceIte,AI,Bi,k1,k2,AV k3,r1.call,r2.call];try rfl
 rw[if_neg k3];by_cases k4:q.k=4;·rw[if_pos k4];dsimp only;obtain⟨h',G',r2,w',x'⟩:=aMC (m:=5000000*j) w ok sz.VY hnm q.r;refine⟨h',o,c,t,G',?_,w',hc,x'⟩;rw[Ab,E4,S0];simp only[Az,↓reduceIte,AI,Bi,k1,k2,k3,AV k4,r2.call];try rfl
 rw[if_neg k4];by_cases k5:q.k=5;·rw[if_pos k5];dsimp only;obtain⟨h',G',r2,w',x'⟩:=aMD (m:=5000000*j) w ok sz.VY hnm q.s (by have:=hq.s;omega) q.a;refine⟨h',o,c,t,G',?_,w',hc,x'⟩;rw[Ab,E4,S0];simp only[Az,↓reduceIte,AI,Bi,k1,k2,k3,k4,AV k5,r2.call];try rfl
 rw[if_neg k5];by_cases k6:q.k=6;·rw[if_pos k6];dsimp only;obtain⟨r,jP,r1,hr,Du⟩:=TE (q:=q) hv hq.Ax.1 h;rw[Kz] at r1;obtain⟨h',o',G',r2,w',x'⟩:=aMz (m:=5000000*j) w ok sz.VY hnm hr Du hq.Ax hq.name q.n;refine⟨h',o',c,t,G',?_,w',by show BO (b.Ex q.name q.Ax 1).A4 c;rw[FF];exact hc,x'⟩;rw[Ab,E4,S0];simp only[Az,↓reduceIte,AI,Bi,k1,k2,k3,k4,k5,AV k6,r1.call,r2.call];try rfl
 rw[if_neg k6];by_cases k7:q.k=7;·rw[if_pos k7];dsimp only;obtain⟨h',o',r2,w',x'⟩:=aMy w sz.rm;refine⟨h',o',c,t,G,?_,w',by have e:b.IK.A4=b.A4:=(by unfold BS.IK;split<;>rfl);rw[e];exact hc,x'⟩;rw[Ab,E4,S0];simp only[Az,↓reduceIte,AI,Bi,k1,k2,k3,k4,k5,k6,AV k7,r2.call];try rfl
 rw[if_neg k7];by_cases k8:q.k=8;·rw[if_pos k8];dsimp only;obtain⟨h',o',c',G',r2,w',J4,x'⟩:=aMI (m:=5000000*j) w hc ok (sz.rm.le (by have:=sz.A4;omega)) hnm;refine⟨h',o',c',t,G',?_,w',J4,x'⟩;rw[Ab,E4,S0];simp only[Az,↓reduceIte,AI,Bi,k1,k2,k3,k4,k5,k6,k7,AV k8,r2.call];try rfl
 rw[if_neg k8];by_cases k9:q.k=9;·rw[if_pos k9];dsimp only;obtain⟨h',o',r2,w',x'⟩:=aHY w sz.rm q.name;refine⟨h',o',c,t,G,?_,w',by have e:(b.C1 q.name).A4=b.A4:=(by unfold BS.C1;split;split<;>rfl;rfl);rw[e];exact hc,x'⟩;rw[Ab,E4,S0];simp only[Az,↓reduceIte,AI,Bi,k1,k2,k3,k4,k5,k6,k7,k8,AV k9,r2.call];try rfl
 rw[if_neg k9];by_cases NA:q.k=10;·rw[if_pos NA];dsimp only;obtain⟨h',o',c',G',r2,w',J4,x'⟩:=aMH (m:=5000000*j) w hc ok (sz.rm.le (by have:=sz.AR;omega)) hnm q.name;refine⟨h',o',c',t,G',?_,w',J4,x'⟩;rw[Ab,E4,S0];simp only[Az,↓reduceIte,AI,Bi,k1,k2,k3,k4,k5,k6,k7,k8,k9,AV NA,r2.call];try rfl
 rw[if_neg NA];by_cases On:q.k=11;·rw[if_pos On];dsimp only;obtain⟨h',r2,w',x'⟩:=so w sz.rm;refine⟨h',o,c,t,G,?_,w',hc,x'⟩;rw[Ab,E4,S0];simp only[Az,↓reduceIte,AI,Bi,k1,k2,k3,k4,k5,k6,k7,k8,k9,NA,AV On,r2.call];try rfl
 rw[if_neg On];by_cases O3:q.k=12;·rw[if_pos O3];dsimp only;obtain⟨r,jP,r1,hr,Du⟩:=TE (q:=q) hv hq.Ax.1 h;rw[Kz] at r1;obtain⟨h',G',r2,w',x'⟩:=aMx (m:=5000000*j) w ok sz.VY hr Du hq.Ax q.a;refine⟨h',o,c,t,G',?_,w',by have e:(b.GF q.Ax q.a).A4=b.A4:=(by unfold BS.GF;split<;>rfl);rw[e];exact hc,x'⟩;rw[Ab,E4,S0];simp only[Az,↓reduceIte,AI,Bi,k1,k2,k3,k4,k5,k6,k7,k8,k9,NA,On,AV O3,r1.call,r2.call];try rfl
 rw[if_neg O3];by_cases Qg:q.k=13;·rw[if_pos Qg];dsimp only;obtain⟨h',o',c',t',r2,w',J4,x'⟩:=aMG w hc sz.rm;refine⟨h',o',c',t',G,?_,w',J4,x'⟩;rw[Ab,E4,S0];simp only[Az,↓reduceIte,AI,Bi,k1,k2,k3,k4,k5,k6,k7,k8,k9,NA,On,O3,AV Qg,r2.call];try rfl
 rw[if_neg Qg];by_cases Rj:q.k=14;·rw[if_pos Rj];dsimp only;obtain⟨h',r2,w',x'⟩:=aMw w;refine⟨h',o,c,t,G,?_,w',hc,x'⟩;rw[Ab,E4,S0];simp only[Az,↓reduceIte,AI,Bi,k1,k2,k3,k4,k5,k6,k7,k8,k9,NA,On,O3,Qg,AV Rj,r2.call];try rfl
 rw[if_neg Rj];by_cases Sl:q.k=15;·rw[if_pos Sl];dsimp only;have w':RX (put h bi 15 (.bool q.b)) bi a o c t G {b with Ei:=q.b}:=w.put rfl rfl w.o w.t;refine⟨put h bi 15 (.bool q.b),o,c,t,G,?_,w',hc,Bd⟩;rw[Ab,E4,S0];simp only[Az,↓reduceIte,AI,Bi,k1,k2,k3,k4,k5,k6,k7,k8,k9,NA,On,O3,Qg,Rj,AV Sl,w.st (k:=15) (v:= .bool q.b) rfl rfl];try rfl
 rw[if_neg Sl];by_cases TF:q.k=16;·rw[if_pos TF];dsimp only;have htm:=sz.rm.tm;have aX:AS=140737488355328:=rfl;obtain⟨u,e1,hu⟩:=AL.Gm (b:=8) w.t (by omega);have e2:=AL.Ja (b:=8) (a:=q.n) hu (by omega);have em:Aw (.By 1) [I q.n]=some (.sl 1 [Cc q.n]):=rfl;have Il:Dh (b.tm++[q.n]) (.sl 1 ((b.tm++[q.n]).map Cc)):= .mk;have w':=w.jI Il;refine⟨put h bi 6 (.sl 1 ((b.tm++[q.n]).map Cc)),o,c,_,G,?_,w',hc,Bd⟩;rw[Ab,E4,S0];simp only[Az,↓reduceIte,AI,Bi,k1,k2,k3,k4,k5,k6,k7,k8,k9,NA,On,O3,Qg,Rj,Sl,AV TF,w.l6,e1,em,e2,w.st (k:=6) (v0:=t) rfl (AL.cells Il)];try rfl
 rw[if_neg TF];by_cases VZ:q.k=17
 .rw[if_pos VZ];dsimp only;have Rs:=sz.rm.A4;obtain⟨u,r2,J4,huc⟩:=hc.wi (by omega) (e:=Cd.zero) (v:= .slnil) (.inr ⟨rfl,rfl⟩) (by decide) (b.A4.length:Int) h;rw[S5 (Ac _),Bu,Fs] at J4;have w':=w.Kf (u:=u) (l:=b.A4++[Cd.zero]);have lc:Aw (.len false) [c]=some (I (b.A4.length:Int)):=by obtain⟨fs,Gr,UC⟩:=hc;rw[AL.Cq UC,<-Gr,Ai]
  have r2':BE cx 136 [c,.agg [I 0,S [],.slnil],I (b.A4.length:Int)] h u h:=r2;refine⟨put h bi 3 u,o,u,t,G,?_,w',J4,Bd⟩;rw[Ab,E4,S0];simp only[Az,↓reduceIte,AI,Bi,k1,k2,k3,k4,k5,k6,k7,k8,k9,NA,On,O3,Qg,Rj,Sl,TF,AV VZ,w.l3,lc,r2'.call,w.st (k:=3) (v0:=c) rfl huc];try rfl
 rw[if_neg VZ];by_cases WR:q.k=18;·rw[if_pos WR];dsimp only;obtain⟨h',o',r2,w',x'⟩:=aMA w sz.rm;refine⟨h',o',c,t,G,?_,w',by have e:b.P9.A4=b.A4:=(by unfold BS.P9;split<;>rfl);rw[e];exact hc,x'⟩;rw[Ab,E4,S0];simp only[Az,↓reduceIte,AI,Bi,EB,k1,k2,k3,k4,k5,k6,k7,k8,k9,NA,On,O3,Qg,Rj,Sl,TF,VZ,AV WR,r2.call];try rfl
 rw[if_neg WR];by_cases Zq:q.k=19;·rw[if_pos Zq];dsimp only;have w':RX (put h bi 7 (I q.a)) bi a o c t G {b with head:=q.a}:=w.put rfl rfl w.o w.t;refine⟨put h bi 7 (I q.a),o,c,t,G,?_,w',hc,Bd⟩;rw[Ab,E4,S0];simp only[Az,↓reduceIte,AI,Bi,k1,k2,k3,k4,k5,k6,k7,k8,k9,NA,On,O3,Qg,Rj,Sl,TF,VZ,WR,AV Zq,w.st (k:=7) (v:= I q.a) rfl rfl];try rfl
 rw[if_neg Zq];by_cases dL:q.k=20;·rw[if_pos dL];dsimp only;have w':=w.cZ q.n;refine⟨put h bi 4 (I q.n),o,c,t,G,?_,w',hc,Bd⟩;rw[Ab,E4,S0];simp only[Az,↓reduceIte,AI,Bi,k1,k2,k3,k4,k5,k6,k7,k8,k9,NA,On,O3,Qg,Rj,Sl,TF,VZ,WR,Zq,AV dL,w.st (k:=4) (v:= I q.n) rfl rfl];try rfl
 rw[if_neg dL];by_cases jQ:q.k=21;·rw[if_pos jQ];dsimp only;have Rs:=sz.rm.A4;obtain⟨fs,Gr,UC⟩:=hc;obtain⟨u,r2,hu⟩:=f84 (h:=h) UC (by rw[<-Gr,Ai] at Rs;omega);have w':=w.Kf (u:=u) (l:=FD b.A4);have J4:BO (FD b.A4) u:=⟨_,by rw[T8,Gr],hu⟩;refine⟨put h bi 3 u,o,u,t,G,?_,w',J4,Bd⟩;rw[Ab,E4,S0];simp only[Az,↓reduceIte,AI,Bi,k1,k2,k3,k4,k5,k6,k7,k8,k9,NA,On,O3,Qg,Rj,Sl,TF,VZ,WR,Zq,dL,AV jQ,w.l3,r2.call,w.st (k:=3) (v0:=c) rfl (AL.cells hu)];try rfl
 rw[if_neg jQ];by_cases sY:q.k=22;·rw[if_pos sY];dsimp only;have ho:=sz.rm.AR;have ld:Bb h none (Pt bi 2)=some o:=w.ld 2;have em:Aw (.By 1) [.str q.name]=some (.sl 1 ([q.name].map CH)):=DE (ws:=[q.name]) rfl (by simp);obtain⟨u,t1,r2,hu⟩:=f85 (h:=h) w.o (by omega) (CR (ws:=[q.name])) (by simp);rw[<-M1] at hu;have w1:=w.HB (u:=t1);have w':=w1.Ia hu;refine⟨put (h++t1) bi 2 u,u,c,t,G,?_,w',hc,w.CN.trans Bd⟩;rw[Ab,E4,S0];simp only[Az,↓reduceIte,AI,Bi,k1,k2,k3,k4,k5,k6,k7,k8,k9,NA,On,O3,Qg,Rj,Sl,TF,VZ,WR,Zq,dL,jQ,AV sY,ld,em,r2.call,w1.st (k:=2) (v0:=o) rfl (AL.cells hu)];try rfl
 rw[if_neg sY];by_cases bl:q.k=23;·rw[if_pos bl];dsimp only;have w':RX (put h bi 8 (I q.a)) bi a o c t G {b with Kv:=q.a}:=w.put rfl rfl w.o w.t;refine⟨put h bi 8 (I q.a),o,c,t,G,?_,w',hc,Bd⟩;rw[Ab,E4,S0];simp only[Az,↓reduceIte,AI,Bi,k1,k2,k3,k4,k5,k6,k7,k8,k9,NA,On,O3,Qg,Rj,Sl,TF,VZ,WR,Zq,dL,jQ,sY,AV bl,w.st (k:=8) (v:= I q.a) rfl rfl];try rfl
 rw[if_neg bl];by_cases rq:q.k=24;·rw[if_pos rq];dsimp only;obtain⟨r,jP,r1,hr,Du⟩:=TE (q:=q) hv hq.Ax.1 h;rw[Kz] at r1;obtain⟨h',G',r2,w',x'⟩:=sg (m:=5000000*j) w ok sz.VY hnm hr Du hq.Ax hq.name q.a q.AX;refine⟨h',o,c,t,G',?_,w',by have e:(b.D9 q.name q.Ax q.AX q.a).A4=b.A4:=(by unfold BS.D9;split<;>rfl);rw[e];exact hc,x'⟩;rw[Ab,E4,S0];simp only[Az,↓reduceIte,AI,Bi,EB,k1,k2,k3,k4,k5,k6,k7,k8,k9,NA,On,O3,Qg,Rj,Sl,TF,VZ,WR,Zq,dL,jQ,sY,bl,AV rq,r1.call,r2.call];try rfl
 rw[if_neg rq];refine⟨h,o,c,t,G,?_,w,hc,.refl⟩;rw[Ab,E4,S0];simp only[Az,↓reduceIte,AI,Bi,k1,k2,k3,k4,k5,k6,k7,k8,k9,NA,On,O3,Qg,Rj,Sl,TF,VZ,WR,Zq,dL,jQ,sY,bl,rq];try rfl
end
section
variable{h h':Ae}{bi a:Nat}{o c t:Aa}{G G' F:Nat->Prop}{b:BS}{x:Int}{m j:Nat}{q:dI}
variable{nm:As}{av:Aa}{l:List AW}{r:List Aa}{sp p:Int}
theorem jW(h:Ae):TV h []=some (h++[.CG,.cells RN.z.row,.cells [I 0],.cells [.Cm (h.length+1) 0 1 13,.Cm (h.length+2) 0 1 1]],.ptr (some (h.length+3,0))):=by unfold TV;simp only[AB,CB,BH];rfl
theorem aMK(h:Ae):BE cx 36 [] h (.ptr (some (h.length+3,0))) (h++[.CG,.cells RN.z.row,.cells [I 0],.cells [.Cm (h.length+1) 0 1 13,.Cm (h.length+2) 0 1 1]]):=by have e1:Ep (.PD TV) h []=some (h++[.CG,.cells RN.z.row,.cells [I 0],.cells [.Cm (h.length+1) 0 1 13,.Cm (h.length+2) 0 1 1]],.ptr (some (h.length+3,0))):=jW h;rw[Ab,show B5 cx 36 []=TW [] from rfl,TW];simp only[Az,e1]
theorem sq(h:Ae):RA (h++[.CG,.cells RN.z.row,.cells [I 0],.cells [.Cm (h.length+1) 0 1 13,.Cm (h.length+2) 0 1 1]]) (h.length+3) (h.length+1) (h.length+2) [] ⟨[],[]⟩:=by
 refine⟨rfl,rfl,?_,?_,?_,by omega,by omega,by omega⟩;·rw[Bg (by omega),show h.length+3 -h.length=3 by omega];rfl
 .rw[Bg (by omega),show h.length+1 -h.length=1 by omega];rfl
 .rw[Bg (by omega),show h.length+2 -h.length=2 by omega];rfl
theorem aIb(h:Ae)(q:Bool):∃h1 h2 h' a bi G,BE cx 36 [] h (Pt a 0) h1/\BE cx 37 [Pt a 0,.bool q] h1 (I 1) h2/\BE cx 39 [Pt a 0,I 1] h2 (Pt bi 0) h'/\RX h' bi a .slnil .slnil .slnil G (CV q)/\Df h (λ_=>False) h' (own bi G):=by
 obtain⟨h2,n2,i2,jB,r2,w2,x2⟩:=aHO (sq h) (by show(0:Int)<=1000000000;decide) q;have w2:RA h2 (h.length+3) n2 i2 jB (ZK q):=w2;have hx:(ZK q).has 1:=⟨Fq 1,Fq 1⟩;have hk:((ZK q).nd 1).kind=1:=by rw[show(ZK q).nd 1=(CV q).a.nd 1 from rfl,LI,if_pos rfl]
 have r3:=pQ w2 hx hk;have DW:h.length+4<=h2.length:=by have:=x2.len;simpa using this
 refine⟨_,h2,h2++[.cells (EI (h.length+3) (CV q) .slnil .slnil .slnil)],h.length+3,h2.length,Iz (h.length+3) n2 i2,aMK h,r2,?_,⟨by simp,.inr ⟨rfl,rfl⟩,.inr ⟨rfl,rfl⟩,⟨n2,i2,jB,w2.CP λj hj=>Ad (w2.lt hj),rfl⟩,λhj=>absurd (w2.lt hj) (C8 _)⟩,⟨?_,λj hj _=>?_,λj hj=> .inr ?_⟩⟩;·rw[Ab,aAj,t39];simp only[Az,Nat.reduceLeDiff,↓reduceIte,AI,Bi,r3.call,ne_eq];rfl
 .simp;omega
 .rw[Ad (by omega),x2.old j (by simp;omega) (by unfold Iz;omega),Ad hj]
 .rcases hj with rfl|hj
  .omega
  .rcases x2.own j hj with hj|hj
   .unfold Iz at hj;omega
   .simp at hj;omega
theorem RX.bn(w:RX h bi a o c t G b)(i:Item):∃h',Cv h 4 (Pt bi 10) (.agg i.row)=some h'/\RX h' bi a o c t G {b with ctx:=i}/\Df h (own bi G) h' (own bi G):=by refine⟨h.set bi (.cells (EI a {b with ctx:=i} o c t)),?_,⟨AN w.lt,w.o,w.t,w.w.CP λj hj=>Aj λe=>w.nb (by rw[e];exact hj),w.nb⟩,⟨by rw[Bj];exact Ac _,λj _ hn=>Aj λe=>hn (.inl e.symm),λ_ h=> .inl h⟩⟩;simp only[Cv,w.hb];rfl
theorem aML(h:Ae)(sp:Int)(nm:As)(hv:Bx l av)(hl:DL l)(hn:nm.length<=1000)(q f q':Bool):∃h1 h2 h' a bi o t G,BE cx 36 [] h (Pt a 0) h1/\BE cx 37 [Pt a 0,.bool q] h1 (I 1) h2/\BE cx 38 [Pt a 0,I 1,.agg [I sp,.str nm,av,.bool q',.bool f]] h2 (Pt bi 0) h'/\RX h' bi a o .slnil t G (Rk sp nm l q f)/\Df h (λ_=>False) h' (own bi G):=by
 obtain⟨h1,h2,h3,a,bi,G,r1,r2,r3,w,x⟩:=aIb h q;have ok0:=Nc q;have Nx:(CV q).a.has 1:=⟨Fq 1,Fq 1⟩;have Uv:((CV q).a.nd 1).kind=1:=by rw[LI,if_pos rfl]
 have hdf:(CV q).Im 1=1:=by unfold BS.Im;rw[LI,if_pos rfl];rfl
 have uw:(CV q).D9 Dc [] 1 1={CV q with a:=(CV q).a.elem 1 1 Dc []}:=by unfold BS.D9;rw[if_pos IP,hdf];rfl
 have hit:(CV q).FE Dc [] 1=⟨2,1,Dc,false⟩:=by unfold BS.FE;rw[if_pos IP];rfl
 obtain⟨h4,G4,r4,w4,x4⟩:=w.step (A':=(CV q).a.elem 1 1 Dc []) (R:=λh'=>BE cx 98 [Pt a 0,I 1,I 1,.str Dc,.slnil] h3 (.tuple [I ((CV q).a.len+1),I 0]) h') (λn i ps wa=>xn (l:=[]) wa (by show(1:Int)+3<=1000000000;decide) Nx Uv IP (.inr ⟨rfl,rfl⟩) (by decide) (λy hy=>(nomatch hy)));rw[<-uw] at w4;obtain⟨tZ,f4,le4⟩:=Mp (nm:=Dc) (at_:=[]) (p:=1) (Nc q) IP;have rm4:=H7 (m:=1000) (nm:=Dc) (l:=[]) (sp:=1) (p:=1) ((LJ q).rm.le (by omega)) ⟨by decide,λa ha=>(nomatch ha)⟩;obtain⟨h5,G5,r5,w5,x5⟩:=pU w4 tZ rm4 1 ((CV q).FE Dc [] 1).node 0;have ho:((CV q).D9 Dc [] 1 1).AR=[]:=by rw[uw];rfl
 have hu6:BM (((CV q).D9 Dc [] 1 1).AR++[(CV q).FE Dc [] 1]) (.sl 4 [((CV q).FE Dc [] 1).row]):=by rw[ho];exact .mk
 have s6:=w5.st (k:=2) (v:= .sl 4 [((CV q).FE Dc [] 1).row]) (v0:= .slnil) rfl rfl;have w6:=w5.Ia hu6;have s7:Cv (put h5 bi 2 (.sl 4 [((CV q).FE Dc [] 1).row])) 1 (Pt bi 9) tt=some (put (put h5 bi 2 (.sl 4 [((CV q).FE Dc [] 1).row])) bi 9 tt):=w6.st (k:=9) (v:=tt) (v0:= .bool ((CV q).D9 Dc [] 1 1).Jj) rfl rfl;have w7:RX (put (put h5 bi 2 (.sl 4 [((CV q).FE Dc [] 1).row])) bi 9 tt) bi a _ .slnil .slnil G5 _:=w6.put (k:=9) (v:=tt) (b':={{{(CV q).D9 Dc [] 1 1 with a:=((CV q).D9 Dc [] 1 1).a.D0 ((CV q).FE Dc [] 1).node 1 0} with AR:=((CV q).D9 Dc [] 1 1).AR++[(CV q).FE Dc [] 1]} with Jj:=true}) rfl rfl hu6 w6.t;have x7:Df h (λ_=>False) (put (put h5 bi 2 (.sl 4 [((CV q).FE Dc [] 1).row])) bi 9 tt) (own bi G5):=((((x.trans x4).trans x5).trans Bd).trans Bd);have VP:((CV q).FE Dc [] 1).node=(CV q).a.len+1:=by rw[hit];rfl
 rw[VP] at r5;have aIc:((CV q).FE Dc [] 1).row=[I ((CV q).a.len+1),I 1,S Dc,ff]:=by rw[hit];rfl
 rw[aIc] at s6 s7 w7 x7;generalize put h5 bi 2 (.sl 4 [[I ((CV q).a.len+1),I 1,S Dc,ff]])=h6 at*;generalize put h6 bi 9 tt=h7 at*;have r8:=aF5 (h:=h7) hv (λa ha=>by have:=(hl.2 a ha).2;have:AS=140737488355328:=rfl;omega) (by have:=hl.1;omega) sp nm (by omega);obtain⟨h8,s8,w8,x8⟩:=w7.bn ⟨0,sp,nm,EH sp nm l⟩;have xe:RX h8 bi a _ .slnil .slnil G5 (Ih sp nm l q):=w8;have xc:=x7.trans x8;clear w8;have bo:Cv h7 4 (Pt bi 10) (.agg [I 0,I sp,.str nm,.bool (EH sp nm l)])=some h8:=s8;have aCt:(Ih sp nm l q).ctx=⟨0,sp,nm,EH sp nm l⟩:=rfl;obtain⟨aMk,sa⟩:=V0 sp nm l q;have key:∃h9 t9,RX h9 bi a (.sl 4 [[I ((CV q).a.len+1),I 1,S Dc,ff]]) .slnil t9 G5 (Ki sp nm l q)/\Df h8 (own bi G5) h9 (own bi G5)/\((sp=1/\nm=A5)->Cv h8 1 (Pt bi 6) (.sl 1 [[I 18]])=some h9)/\(¬(sp=1/\nm=A5)->h9=h8):=by
  by_cases hT:sp=1/\nm=A5;·have hu:Dh [18] (.sl 1 [[I 18]]):= .mk;refine⟨put h8 bi 6 (.sl 1 [[I 18]]),.sl 1 [[I 18]],?_,Bd,λ_=>xe.st (k:=6) (v0:= .slnil) rfl rfl,λh=>absurd hT h⟩;unfold Ki;rw[if_pos (by rw[OT,aCt];exact AD hT)];exact xe.jI hu
  .refine⟨h8,.slnil,?_,.refl,λh=>absurd h hT,λ_=>rfl⟩;unfold Ki;rw[if_neg (by rw[OT,aCt];exact λh=>hT (of_decide_eq_true h))];exact xe
 obtain⟨h9,t9,w9,x9,k1,k2⟩:=key;obtain⟨VK,pJ,Sk,pL⟩:=so w9 sa.rm;have em:Aw (.By 1) [I 18]=some (.sl 1 [[I 18]]):=rfl;have sm:Aw (.By 4) [.agg [I ((CV q).a.len+1),I 1,S Dc,ff]]=some (.sl 4 [[I ((CV q).a.len+1),I 1,S Dc,ff]]):=rfl;have xx:Df h (λ_=>False) VK (own bi G5):=(xc.trans x9).trans pL;have s11:=Sk.st (k:=8) (v:=I (-1)) rfl rfl;have hw:Dc=aSR:=rfl;have Hy:∃h',RX h' bi a (.sl 4 [[I ((CV q).a.len+1),I 1,S Dc,ff]]) .slnil t9 G5 (Rk sp nm l q f)/\Df h (λ_=>False) h' (own bi G5)/\(f=true->h'=put VK bi 8 (I (-1)))/\(f=false->h'=VK):=by
  cases f with
  |true=>exact⟨_,by unfold Rk;rw[if_pos rfl];exact Sk.put (k:=8) rfl rfl Sk.o Sk.t,xx.trans Bd,λ_=>rfl,λh=>absurd h (by decide)⟩
  |false=>exact⟨VK,Sk,xx,λh=>absurd h (by decide),λ_=>rfl⟩
 obtain⟨h',w',x',e1,e2⟩:=Hy;refine⟨h1,h2,h',a,bi,_,t9,G5,r1,r2,?_,w',x'⟩;rw[Ab,aAi,t38];by_cases hsp:sp=1
 .by_cases ud:nm=A5
  .have xf:=k1 ⟨hsp,ud⟩;cases f with
   |true=>rw[e1 rfl];simp only[Az,Nat.reduceLeDiff,↓reduceIte,AI,Bi,IV,r3.call,r4.call,r5.call,sm,s6,s7,r8.call,bo,AV hsp,AV ud,em,xf,pJ.call,s11]
   |false=>rw[e2 rfl];simp only[Az,Nat.reduceLeDiff,↓reduceIte,AI,Bi,IV,r3.call,r4.call,r5.call,sm,s6,s7,r8.call,bo,AV hsp,AV ud,em,xf,pJ.call]
  .have xg:=k2 λh=>ud h.2;subst xg;cases f with
   |true=>rw[e1 rfl];simp only[Az,Nat.reduceLeDiff,↓reduceIte,AI,Bi,IV,r3.call,r4.call,r5.call,sm,s6,s7,r8.call,bo,AV hsp,ud,pJ.call,s11]
   |false=>rw[e2 rfl];simp only[Az,Nat.reduceLeDiff,↓reduceIte,AI,Bi,IV,r3.call,r4.call,r5.call,sm,s6,s7,r8.call,bo,AV hsp,ud,pJ.call]
 .have xg:=k2 λh=>hsp h.1;subst xg;cases f with
  |true=>rw[e1 rfl];simp only[Az,Nat.reduceLeDiff,↓reduceIte,AI,Bi,IV,r3.call,r4.call,r5.call,sm,s6,s7,r8.call,bo,hsp,pJ.call,s11]
  |false=>rw[e2 rfl];simp only[Az,Nat.reduceLeDiff,↓reduceIte,AI,Bi,IV,r3.call,r4.call,r5.call,sm,s6,s7,r8.call,bo,hsp,pJ.call]
theorem aMN(h:Ae)(s:DU)(hv:Bx s.Ax av)(hl:DL s.Ax)(hn:s.name.length<=1000):∃h' bi a o c t G,BE cx 9 [.agg (O4 s av)] h (Pt bi 0) h'/\RX h' bi a o c t G s.b/\BO s.b.A4 c/\Df h (λ_=>False) h' (own bi G):=by
 have fV:(Ih s.AX s.name s.Ax s.Cb).A4=[]:=by unfold Ih;simp only;unfold BS.D9;rw[if_pos IP];rfl
 have Wr:av.cells=[av]:=AL.cells hv;cases hf:s.Jj with
 |true=>
  obtain⟨h1,h2,h',a,bi,o,t,G,r1,r2,r3,w,x⟩:=aML h s.AX s.name hv hl hn s.Cb s.Kv s.Cb;refine⟨h',bi,a,o,.slnil,t,G,?_,by unfold DU.b;rw[if_pos hf];exact w,?_,x⟩;·rw[Ab,vj,t9,O4,hf];simp only[Az,r1.call,r2.call,r3.call]
  .have e:s.b.A4=[]:=by unfold DU.b Rk Ki;rw[if_pos hf];split<;>split<;>exact fV
   rw[e];exact⟨[],rfl,.inr ⟨rfl,rfl⟩⟩
 |false=>
  obtain⟨h1,h2,h',a,bi,G,r1,r2,r3,w,x⟩:=aIb h s.Cb;have e:s.b=CV s.Cb:=by unfold DU.b;rw[if_neg (by rw[hf];decide)]
  refine⟨h',bi,a,.slnil,.slnil,.slnil,G,?_,by rw[e];exact w,by rw[e];exact⟨[],rfl,.inr ⟨rfl,rfl⟩⟩,x⟩;rw[Ab,vj,t9,O4,hf];simp only[Az,r1.call,r2.call,r3.call]
end
end Go.Am
end
