/- Lemmas -/
import Derived.Test.YtefjamneieebhaaGreatDoorS29
set_option linter.unusedVariables false
set_option linter.unusedSimpArgs false
section
namespace Go.Am
open Go
set_option maxRecDepth 100000
section
variable{h h':Ad}{bi a:Nat}{o c t:Aa}{G G' F:Nat->Prop}{b:BS}{x:Int}{m:Nat}
variable{nm:Ap}{av:Aa}{l:List AU}{r:List Aa}{sp p:Int}
theorem aHL(w:RX h bi a o c t G b)(ok:DG b)(rm:BQ b (m+4))(hnm:Nm b.a)(hr:Nj nm av r)(hv:Bw l av)(hl:DA l)(hn:nm.length<=1000)(sp:Int):
  ∃h' o' G',BI cx 86 [Pt bi 0,.agg r,I sp] h (I (b.Ow sp)) h'/\RX h' bi a o' c t G' (b.Ex nm l sp)/\De h (own bi G) h' (own bi G'):=by
 have bF:AS=140737488355328:=rfl;have ho:=rm.AO;have r0:∀{Q:Post} {h:Ad} {kk:Aa->IT},W cx (.Bc 186 [I sp] kk) Q h↔W cx (kk (.bool (decide (BS.Hn sp)))) Q h:=(pY _).Bc rfl rfl;have Fu:=hr;obtain⟨c0,c2,c3,c4,c5,c6,c7,c9,Tv,U7,rfl⟩:=hr;by_cases hs:BS.Hn sp;rotate_left
 .refine⟨h,o,G,?_,by unfold BS.Ex;rw[if_neg hs];exact w,.refl⟩;have e:b.Ow sp=0:=by unfold BS.Ow;rw[if_neg hs]
  rw[e,Ab,zT,t86];simp only[AB,Bi,r0,AA hs]
 have r1:=dW w ok rm hnm 0;obtain⟨h1,G1,r2,w1,x1⟩:=sg (m:=m+1) w ok (rm.le (by omega)) hnm Fu hv hl hn (b.place 0).1 sp;have TG:=(Mw (nm:=nm) (at_:=l) (p:=(b.place 0).1) ok hs).1;have jR:=H7 (m:=m+1) (nm:=nm) (sp:=sp) (p:=(b.place 0).1) (rm.le (by omega)) hl;have VV:(b.FA nm l sp).node=b.a.len+1:=by unfold BS.FA;rw[if_pos hs]
 have MH:(b.D8 nm l sp (b.place 0).1).AO=b.AO:=by unfold BS.D8;rw[if_pos hs]
 obtain⟨h2,G2,r3,w2,x2⟩:=qB w1 TG jR (b.place 0).1 (b.FA nm l sp).node (b.place 0).2;have ld:A6 h2 none (Pt bi 2)=some o:=w2.ld 2;obtain⟨u,e1,hu⟩:=AM.Gj (b:=40) w2.o (by simp only[MH];omega);have e2:=AM.Jb (f:=Item.row) (b:=40) (a:=b.FA nm l sp) hu (by simp only[MH];omega);have Il:BN (({b.D8 nm l sp (b.place 0).1 with a:=(b.D8 nm l sp (b.place 0).1).a.DZ (b.FA nm l sp).node (b.place 0).1 (b.place 0).2}:BS).AO++[b.FA nm l sp]) _:=AM.mk;have w3:=w2.Ia Il;have e:b.Ow sp=(b.FA nm l sp).node:=by unfold BS.Ow;rw[if_pos hs,VV]
 refine⟨_,_,G2,?_,by unfold BS.Ex;rw[if_pos hs];simp only;rw[<-VV];exact w3,(x1.trans x2).trans Be⟩;have em:Aw (.Bx 4) [.agg (b.FA nm l sp).row]=some (.sl 4 [(b.FA nm l sp).row]):=K9;have XZ:=λ(y:Item)=>@Item.Co y;rw[e,Ab,zT,t86];simp only[AB,Bi,EB,r0,Az hs,r1.call,r2.call,XZ,r3.call,ld,e1,em,e2,w2.st (k:=2) (v0:=o) rfl (AM.cells Il)]
theorem si(w:RX h bi a o c t G b)(ok:DG b)(rm:BQ b (m+4))(hnm:Nm b.a)(hr:Nj nm av r)(hv:Bw l av)(hl:DA l)(hn:nm.length<=1000):
  ∃h' o' G',BI cx 85 [Pt bi 0,.agg r] h (I (b.a.len+1)) h'/\RX h' bi a o' c t G' (b.Ex nm l 1)/\De h (own bi G) h' (own bi G'):=by
 obtain⟨h',o',G',r1,w',x'⟩:=aHL w ok rm hnm hr hv hl hn 1;refine⟨h',o',G',?_,w',x'⟩;have hh:b.Ow 1=b.a.len+1:=by unfold BS.Ow;rw[if_pos IQ]
 rw[hh] at r1;obtain⟨c0,c2,c3,c4,c5,c6,c7,c9,Tv,U7,rfl⟩:=hr;rw[Ab,aAv,t85];simp only[AB,r1.call]
theorem aMz(w:RX h bi a o c t G b):∃h',BI cx 97 [Pt bi 0] h (.tuple []) h'/\RX h' bi a o c t G {b with stop:=true}/\De h (own bi G) h' (own bi G):=by refine⟨_,?_,w.put (k:=19) (v:= .bool true) rfl rfl w.o w.t,Be⟩;rw[Ab,aAB,t97];simp only[AB,w.st (k:=19) (v:=tt) rfl rfl]
end
section
variable{h h':Ad}{bi a:Nat}{o c t:Aa}{G G' F:Nat->Prop}{b:BS}{x:Int}{m:Nat}
variable{nm:Ap}{av:Aa}{l:List AU}{r:List Aa}{sp p:Int}
theorem aMA(w:RX h bi a o c t G b)(ok:DG b)(rm:BQ b (m+1000))(hr:Nj nm av r)(hv:Bw l av)(hl:DA l)(x:Int):
  ∃h' G',BI cx 95 [Pt bi 0,.agg r,I x] h (.tuple []) h'/\RX h' bi a o c t G' (b.GB l x)/\De h (own bi G) h' (own bi G'):=by
 have bF:AS=140737488355328:=rfl;obtain⟨c0,c2,c3,c4,c5,c6,c7,c9,Tv,U7,rfl⟩:=hr;by_cases hk:(b.a.nd x).kind=4;rotate_left;·refine⟨h,G,?_,by unfold BS.GB;rw[if_neg hk];exact w,.refl⟩;rw[Ab,zW,t95];simp only[AB,↓reduceIte,Bi,(Ln w x).call,hk,ne_eq]
 have hx:b.a.has x:=by
  by_cases hp:b.a.has x;·exact hp
  .rw[GI hp] at hk;simp at hk
 have hal:=rm.at_ x;have fD:=hl.1;obtain⟨n,i,ps,wa,_⟩:=w.w;obtain⟨u0,e0,hu0⟩:=AM.Gj (b:=40) (wa.ba hx) (by omega);have Ik:Ev cx 95 [Pt bi 0,.agg [c0,.str nm,c2,c3,c4,c5,c6,c7,av,c9,Tv,U7],I x] h λr h'=>r= .tuple []/\∃G',RX h' bi a o c t G' (b.GB l x)/\De h (own bi G) h' (own bi G'):=by
  unfold Ev;have hvl:=AM.Cp hv;rw[zW,t95];simp only[AB,↓reduceIte,Bi,(Ln w x).call,AW hk,ne_eq,w.l0,wa.nodes,wa.addr hx,wa.f6 hx,e0];refine Bb (λs:Aa×Nat=>[s.1,I (s.2:Int)]) (λs h1=>s.2<=l.length/\Bw ((b.a.nd x).Ax++BS.plain (l.take s.2)) s.1/\h1=h) (λs=>l.length-s.2) (u0,0) rfl ⟨AR _,by simp only[L5,BS.plain,DP,BC];exact hu0,rfl⟩ ?_;rintro⟨u,k⟩ h1 ⟨Wt,hu,rfl⟩;simp only at Wt hu;rcases AT k l.length with hlt|D1
  .have e1:=AM.Bz (k:= .i64) hv hlt;rw[AU.row] at e1;have em:Aw (.Bx 3) [.agg [I 0,.str l[k].name,.str l[k].value]]=some (.sl 3 [[I 0,.str l[k].name,.str l[k].value]]):=rfl;have a1:=AM.Jb (f:=AU.row) (b:=40) (a:=⟨0,l[k].name,l[k].value⟩) hu (by rw[As,BS.plain,Ai,Al];omega);rw[AU.XU] at a1;have hs:(b.a.nd x).Ax++BS.plain (l.take (k+1))=((b.a.nd x).Ax++BS.plain (l.take k))++[⟨0,l[k].name,l[k].value⟩]:=by rw[Av hlt,BS.plain,BH,<-AD];rfl
   simp only[AB,Nat.reduceLeDiff,↓reduceIte,AK,Bi,hvl,show(k:Int)<(l.length:Int) by omega,e1,aaS,em,a1,BF (show k<9223372036854775807 by omega)];exact AF.next (_,k+1) rfl ⟨hlt,by rw[hs,AD];exact .mk,rfl⟩ (by simp only;omega)
  .have OH:k=l.length:=by omega
   subst OH;rw[Bu] at hu;have hsp:∀y∈(b.a.nd x).Ax++BS.plain l,BS.Hn y.AZ:=by
    intro y hy;rcases Ao.1 hy with hy|hy
    .exact(ok.ok.Q8 x hx).dw y hy
    .obtain⟨z,_,rfl⟩:=Bk.1 hy;exact⟨by simp only;omega,by simp only;omega⟩
   obtain⟨h2,G2,r1,w2,x2⟩:=w.step (A':=b.a.Iu x ((b.a.nd x).Ax++BS.plain l)) (R:=λh2=>BI cx 198 [Pt a 0,I x,u] h1 (I 0) h2) λn i ps wa=>by obtain⟨h',Iz,f1,f2,f3⟩:=aHG wa hx hk hu (by rw[As,BS.plain,Ai];omega) hsp;exact⟨h',n,i,Iz,f1,f2,f3⟩
   have e:b.GB l x={b with a:=b.a.Iu x ((b.a.nd x).Ax++BS.plain l)}:=by unfold BS.GB;rw[if_pos hk]
   simp only[AB,Nat.reduceLeDiff,↓reduceIte,AK,Bi,hvl,show¬(l.length:Int)<(l.length:Int) by omega,w.l0,r1.call];exact⟨_,rfl,rfl,G2,by rw[e];exact w2,x2⟩
 obtain⟨r,h',hr,rfl,G',w',x'⟩:=Ik.ret;exact⟨h',G',hr,w',x'⟩
end
section
variable{h h':Ad}{bi a:Nat}{o c t:Aa}{G G' F:Nat->Prop}{b:BS}{x:Int}{m:Nat}
theorem aMB(w:RX h bi a o c t G b)(rm:BQ b m):
  ∃h' o',BI cx 91 [Pt bi 0] h (.tuple []) h'/\RX h' bi a o' c t G b.IL/\De h (own bi G) h' (own bi G):=by
 have ho:=rm.AO;have hnm:∀i∈b.AO,i.name.length<9223372036854775807:=λi hi=>by have:=rm.Wn i hi;omega
 have em:Aw (.Bx 1) [S [112]]=some (.sl 1 ([wP].map CH)):=DE (ws:=[wP]) rfl (by decide);have ld:A6 h none (Pt bi 2)=some o:=w.ld 2;have r1:=f164 (h:=h) w.o (by omega) hnm 3 (CQ (ws:=[wP])) (by decide);by_cases hs:I2 (Bp [wP]) (II 3) b.AO.reverse=true;rotate_left
 .have TV:I2 (Bp [wP]) (II 3) b.AO.reverse=false:=by simpa using hs
  rw[TV] at r1;refine⟨h,o,?_,by unfold BS.IL;rw[if_neg hs];exact w,.refl⟩;rw[Ab,zV,t91];simp only[AB,ld,em,r1.call]
 .rw[hs] at r1;obtain⟨u1,t1,r2,NG⟩:=f165 (h:=h) w.o (by omega) hnm wP false;have w1:=w.HA (u:=t1);have w2:=w1.Ia NG;have hst:Ee wP false=DY wP:=by funext a;rfl
  have l1:(Dr (Ee wP false) CC b.AO).length<=b.AO.length:=OU;have sj:A6 (put (h++t1) bi 2 u1) none (Pt bi 2)=some u1:=w2.ld 2;obtain⟨u2,t2,r3,Il⟩:=f85 (h:=put (h++t1) bi 2 u1) NG (by omega) (CQ (ws:=[wP])) (by decide);have w3:=w2.HA (u:=t2);rw[<-Nb] at Il;have w4:=w3.Ia Il;refine⟨_,u2,?_,by unfold BS.IL;rw[if_pos hs,<-hst];exact w4,((w.CN.trans Be).trans w2.CN).trans Be⟩;rw[Ab,zV,t91];simp only[AB,ld,em,r1.call,r2.call,w1.st (k:=2) (v0:=o) rfl (AM.cells NG),sj,r3.call,w3.st (k:=2) (v0:=u1) rfl (AM.cells Il)]
variable{nm:Ap}{av:Aa}{l:List AU}{r:List Aa}
theorem aMC(w:RX h bi a o c t G b)(ok:DG b)(rm:BQ b (m+4))(hnm:Nm b.a)(hr:Nj nm av r)(hv:Bw l av)(hl:DA l)(hn:nm.length<=1000)(st:Int):
  ∃h' o' G',BI cx 90 [Pt bi 0,.agg r,I st] h (.tuple []) h'/\RX h' bi a o' c t G' (b.OY nm l st)/\De h (own bi G) h' (own bi G'):=by
 obtain⟨h1,o1,G1,r1,w1,x1⟩:=si w ok rm hnm hr hv hl hn;obtain⟨c0,c2,c3,c4,c5,c6,c7,c9,Tv,U7,rfl⟩:=hr;have w2:RX (put h1 bi 18 (I st)) bi a o1 c t G1 {b.Ex nm l 1 with sw:=st}:=w1.put rfl rfl w1.o w1.t;have w3:RX (put (put h1 bi 18 (I st)) bi 5 (I (b.Ex nm l 1).mode)) bi a o1 c t G1 {{b.Ex nm l 1 with sw:=st} with Q9:=(b.Ex nm l 1).mode}:=w2.put rfl rfl w2.o w2.t;have w4:=w3.dH 8;refine⟨_,o1,G1,?_,w4,((x1.trans Be).trans Be).trans Be⟩;have s2:=w1.st (k:=18) (v:= I st) (v0:= I (b.Ex nm l 1).sw) rfl rfl;have s3:=w2.st (k:=5) (v:= I (b.Ex nm l 1).mode) (v0:= I (b.Ex nm l 1).Q9) rfl rfl;have s4:=w3.st (k:=4) (v:=I 8) (v0:= I (b.Ex nm l 1).mode) rfl rfl;have l4:A6 (put h1 bi 18 (I st)) none (Pt bi 4)=some (I (b.Ex nm l 1).mode):=w2.l4;rw[Ab,aAx,t90];simp only[AB,r1.call,s2,l4,s3,s4]
theorem aMD(w:RX h bi a o c t G b)(rm:BQ b m):∃h' o',BI cx 99 [Pt bi 0] h (.agg b.iL.row) h'/\RX h' bi a o' c t G b.Qd/\De h (own bi G) h' (own bi G):=by
 have ho:=rm.AO;have ld:A6 h none (Pt bi 2)=some o:=w.ld 2;have lo:=AM.Cp w.o;unfold BS.Qd BS.iL;by_cases h2:b.AO.length<2;·refine⟨h,o,?_,by rw[if_pos h2];exact w,.refl⟩;rw[if_pos h2,Ab,zX,t99];simp only[AB,↓reduceIte,AK,Bi,ld,lo,show(b.AO.length:Int)<2 by omega];rfl
 .obtain⟨u,t1,r1,hu⟩:=aF6 (h:=h) w.o (by omega);have hc:JJ b.AO ((b.AO.length:Int)-1)=b.AO.take (b.AO.length-1):=by unfold JJ;congr 1;omega
  rw[hc] at hu;have w1:=w.HA (u:=t1);have w2:=w1.Ia hu;refine⟨_,u,?_,by rw[if_neg h2];exact w2,w.CN.trans Be⟩;rw[if_neg h2,Ab,zX,t99];simp only[AB,↓reduceIte,AK,Bi,EB,ld,lo,show¬(b.AO.length:Int)<2 by omega,(dV w rm).call,r1.call,w1.st (k:=2) (v0:=o) rfl (AM.cells hu)]
end
section
variable{h h':Ad}{bi a:Nat}{o c t:Aa}{G G' F:Nat->Prop}{b:BS}{x:Int}{m:Nat}
theorem aHM(w:RX h bi a o c t G b)(rm:BQ b m)(nm:Ap):
  ∃h' o',BI cx 93 [Pt bi 0,.str nm] h (.tuple []) h'/\RX h' bi a o' c t G (b.C0 nm)/\De h (own bi G) h' (own bi G):=by
 have ho:=rm.AO;have hnm:∀i∈b.AO,i.name.length<9223372036854775807:=λi hi=>by have:=rm.Wn i hi;omega
 have ld:A6 h none (Pt bi 2)=some o:=w.ld 2;have lo:=AM.Cp w.o;have Ik:Ev cx 93 [Pt bi 0,.str nm] h λr h'=>r= .tuple []/\∃o',RX h' bi a o' c t G (b.C0 nm)/\De h (own bi G) h' (own bi G):=by
  unfold Ev;rw[aAz,t93];simp only[AB,ld,lo,CJ (show -9223372036854775808<=(b.AO.length:Int)-1 by omega) (show(b.AO.length:Int)-1<9223372036854775808 by omega)];refine Bb (λn:Nat=>[I ((n:Int)-1)]) (λn h1=>n<=b.AO.length/\(b.AO.reverse.find? λi=>Bp [nm] i||F9 i)=((b.AO.take n).reverse.find? λi=>Bp [nm] i||F9 i)/\h1=h) (λn=>n) b.AO.length rfl ⟨Ac _,by rw[Bu],rfl⟩ ?_;rintro n h1 ⟨hn,ha,rfl⟩;cases n with
  |zero=>
   have e:b.C0 nm=b:=by unfold BS.C0;rw[ha];rfl
   simp only[AB,↓reduceIte,Bi,show¬(0:Int)<=((0:Nat):Int)-1 by omega];exact⟨_,rfl,rfl,o,by rw[e];exact w,.refl⟩
  |succ n=>
   have hlt:n<b.AO.length:=by omega
   have i1:((n+1:Nat):Int)-1=(n:Int):=by omega
   have e1:=AM.Bz (k:= .i64) w.o hlt;have hin:=hnm _ (AI hlt);have em:Aw (.Bx 1) [.str nm]=some (.sl 1 ([nm].map CH)):=DE (ws:=[nm]) rfl (by simp);rw[Rj hlt,I1] at ha;generalize hi:b.AO[n]=i at*;have r2:BI cx 40 [.agg i.row,.sl 1 ([nm].map CH)] h1 (.bool (Bp [nm] i)) h1:=f167 i (CQ (ws:=[nm])) (by simp);have sub:=CJ (show -9223372036854775808<=(n:Int)-1 by omega) (show(n:Int)-1<9223372036854775808 by omega);cases h2:Bp [nm] i with
   |true=>
    rw[h2] at r2 ha;obtain⟨u1,t1,r3,NG⟩:=f165 (h:=h1) w.o (by omega) hnm nm false;have w1:=w.HA (u:=t1);have w2:=w1.Ia NG;have hst:Ee nm false=DY nm:=by funext a;rfl
    have l1:(Dr (Ee nm false) CC b.AO).length<=b.AO.length:=OU;have sj:A6 (put (h1++t1) bi 2 u1) none (Pt bi 2)=some u1:=w2.ld 2;obtain⟨u2,t2,r4,Il⟩:=aF7 (h:=put (h1++t1) bi 2 u1) NG (by omega) i.node;have w3:=w2.HA (u:=t2);have w4:=w3.Ia Il;have e:b.C0 nm={b with AO:=Ga i.node (Dr (DY nm) CC b.AO)}:=by unfold BS.C0;rw[ha];simp only[h2,dk,BK]
    simp only[AB,Nat.reduceLeDiff,↓reduceIte,Bi,EB,i1,show(0:Int)<=(n:Int) by omega,ld,e1,em,r2.call,r3.call,w1.st (k:=2) (v0:=o) rfl (AM.cells NG),sj,r4.call,w3.st (k:=2) (v0:=u1) rfl (AM.cells Il)];exact⟨_,rfl,rfl,u2,by rw[e,<-hst];exact w4,((w.CN.trans Be).trans w2.CN).trans Be⟩
   |false=>
    rw[h2] at r2 ha;have r3:∀{Q:Post} {h:Ad} {kk:Aa->IT},W cx (.Bc 196 [I i.AZ,.str i.name] kk) Q h↔W cx (kk (.bool (DX i.AZ i.name))) Q h:=(f169 i.AZ i.name hin).Bc rfl rfl;cases h3:F9 i with
    |true=>
     have h3':DX i.AZ i.name=true:=h3;rw[h3] at ha;have e:b.C0 nm=b:=by unfold BS.C0;rw[ha];simp[h2]
     simp only[AB,Nat.reduceLeDiff,↓reduceIte,Bi,EB,i1,show(0:Int)<=(n:Int) by omega,ld,e1,em,r2.call,r3,h3'];exact⟨_,rfl,rfl,o,by rw[e];exact w,.refl⟩
    |false=>have h3':DX i.AZ i.name=false:=h3;rw[h3] at ha;simp only[AB,Nat.reduceLeDiff,↓reduceIte,Bi,EB,i1,show(0:Int)<=(n:Int) by omega,ld,e1,em,r2.call,r3,h3',sub];exact AF.next n rfl ⟨by omega,ha,rfl⟩ (by omega)
 obtain⟨r,h',hr,rfl,o',w',x'⟩:=Ik.ret;exact⟨h',o',hr,w',x'⟩
variable{nm:Ap}{av:Aa}{l:List AU}{r:List Aa}
theorem aME(w:RX h bi a o c t G b)(hc:BO b.A4 c)(ok:DG b)(rm:BQ b (m+5))(hnm:Nm b.a)(hr:Nj nm av r)(hv:Bw l av)(hl:DA l)(hn:nm.length<=1000):
  ∃h' o' c' G',BI cx 87 [Pt bi 0,.agg r] h (I (b.a.len+1)) h'/\RX h' bi a o' c' t G' (b.Jd nm l)/\BO (b.Jd nm l).A4 c'/\De h (own bi G) h' (own bi G'):=by
 obtain⟨h1,o1,G1,r1,w1,x1⟩:=si (m:=m+1) w ok (rm.le (by omega)) hnm hr hv hl hn;obtain⟨fs,efs,hf⟩:=hc;have ha:=rm.A4;have GG:fs.length=b.A4.length:=by rw[<-efs,Ai]
 obtain⟨u,e',Pb,r2,hu⟩:=aLk (h:=h1) (l:=fs) hf (by omega) (pP efs λx hx=>((rm.Dk x hx).2).1) (e:=⟨⟨b.a.len+1,nm,l⟩,av,hv⟩) (by unfold WQ;have:=hl.1;simp only;omega);refine⟨_,o1,u,G1,?_,w1.Kf (u:=u),?_,x1.trans Be⟩;·obtain⟨c0,c2,c3,c4,c5,c6,c7,c9,Tv,U7,rfl⟩:=hr;have r2':BI cx 187 [c,.agg [I (b.a.len+1),.str nm,av]] h1 u h1:=r2;have Xd:av.cells=[av]:=AM.cells hv;rw[Ab,aAw,t87];simp only[AB,Nat.reduceLeDiff,↓reduceIte,AK,Bi,r1.call,w1.l3,Xd,r2'.call,w1.st (k:=3) (v0:=c) rfl (AM.cells hu)]
 .refine⟨_,?_,hu⟩;rw[dE Pb,efs];unfold BS.Jd;simp only;rw[FC]
end
theorem Zz{n:Nat}(d:Nat)(hd:0<d)(h:n<2147483648)(e:Aw (.int .quo) [I (n:Int),I (d:Int)]=some (I (IntKind.i64.wrap ((n:Int).tdiv (d:Int))))):Aw (.int .quo) [I (n:Int),I (d:Int)]=some (I ((n/d:Nat):Int)):=by
 have h2:(n:Int).tdiv (d:Int)=((n/d:Nat):Int):=by rw[Int.tdiv_eq_ediv_of_nonneg (by omega)];rfl
 have h3:n/d<=n:=Nat.div_le_self n d;rw[e,h2];generalize n/d=k at*;rw[wrap_i64 (by omega) (by omega)]
theorem sk{n:Nat}(d:Nat)(hd:0<d)(h:n<2147483648)(e:Aw (.int .rem) [I (n:Int),I (d:Int)]=some (I ((n:Int).tmod (d:Int)))):Aw (.int .rem) [I (n:Int),I (d:Int)]=some (I ((n%d:Nat):Int)):=by
 have h2:(n:Int).tmod (d:Int)=((n%d:Nat):Int):=by rw[Int.tmod_eq_emod_of_nonneg (by omega)];rfl
 have h3:n%d<=n:=Nat.mod_le n d;rw[e,h2]
theorem Wc{n:Nat}(h:n<2147483648):Aw (.int .quo) [I (n:Int),I 64]=some (I ((n/64:Nat):Int)):=Zz 64 (by decide) h rfl
theorem Wd{n:Nat}(h:n<2147483648):Aw (.int .quo) [I (n:Int),I 4096]=some (I ((n/4096:Nat):Int)):=Zz 4096 (by decide) h rfl
theorem ZA{n:Nat}(h:n<2147483648):Aw (.int .quo) [I (n:Int),I 262144]=some (I ((n/262144:Nat):Int)):=Zz 262144 (by decide) h rfl
theorem MD{n:Nat}(h:n<2147483648):Aw (.int .rem) [I (n:Int),I 64]=some (I ((n%64:Nat):Int)):=sk 64 (by decide) h rfl
theorem Rs{n:Nat}(c:Nat)(h:c+n<2147483648):Aw (.int .add) [I (c:Int),I (n:Int)]=some (I ((c+n:Nat):Int)):=by rw[OT (by omega) (by omega)];congr 2
theorem KP{n:Nat}(h:n<64):Aw (.int .add) [I 128,I (n:Int)]=some (I ((128+n:Nat):Int)):=Rs 128 (by omega)
theorem tN{n:Nat}(h:n<64):Aw (.int .add) [I 192,I (n:Int)]=some (I ((192+n:Nat):Int)):=Rs 192 (by omega)
theorem tO{n:Nat}(h:n<64):Aw (.int .add) [I 224,I (n:Int)]=some (I ((224+n:Nat):Int)):=Rs 224 (by omega)
theorem tP{n:Nat}(h:n<64):Aw (.int .add) [I 240,I (n:Int)]=some (I ((240+n:Nat):Int)):=Rs 240 (by omega)
theorem PJ{n:Nat}(h:n<256):Aw (.conv .u8) [I (n:Int)]=some (.int .u8 (n:Int)):=by rw[So];congr 3;omega
def OB(r:Int):Prop:=(0<=r/\r<=55295)\/(57344<=r/\r<=1114111)
instance(r:Int):Decidable (OB r):=by unfold OB;infer_instance
theorem aHN(r:Int):JG cx 188 [.int .i32 r] (.bool (decide (OB r))):=by rw[LZ,mq,aFc];by_cases h1:0<=r<;>by_cases h2:r<=55295<;>by_cases h3:57344<=r<;>by_cases h4:r<=1114111<;>simp[h1,h2,h3,h4,OB]
theorem aHO(r:Int)(hr:OB r)(h:Ad):BI cx 189 [.int .i32 r] h (.sl 1 (BZ (GP r))) h:=by
 have one:∀{k1:Nat} (h1:k1<256),Aw (.Bx 1) [.int .u8 (k1:Int)]=some (.sl 1 (BZ [UInt8.ofNat k1])):=by intro k1 h1;simp only[BZ,Bl,DP,XS h1];rfl
 have Z6:∀{k1 k2:Nat} (h1:k1<256) (h2:k2<256),Aw (.Bx 1) [.int .u8 (k1:Int),.int .u8 (k2:Int)]=some (.sl 1 (BZ [UInt8.ofNat k1,UInt8.ofNat k2])):=by intro k1 k2 h1 h2;simp only[BZ,Bl,DP,XS h1,XS h2];rfl
 have SF:∀{k1 k2 k3:Nat} (h1:k1<256) (h2:k2<256) (h3:k3<256),Aw (.Bx 1) [.int .u8 (k1:Int),.int .u8 (k2:Int),.int .u8 (k3:Int)]=some (.sl 1 (BZ [UInt8.ofNat k1,UInt8.ofNat k2,UInt8.ofNat k3])):=by intro k1 k2 k3 h1 h2 h3;simp only[BZ,Bl,DP,XS h1,XS h2,XS h3];rfl
 have four:∀{k1 k2 k3 k4:Nat} (h1:k1<256) (h2:k2<256) (h3:k3<256) (h4:k4<256),Aw (.Bx 1) [.int .u8 (k1:Int),.int .u8 (k2:Int),.int .u8 (k3:Int),.int .u8 (k4:Int)]=some (.sl 1 (BZ [UInt8.ofNat k1,UInt8.ofNat k2,UInt8.ofNat k3,UInt8.ofNat k4])):=by intro k1 k2 k3 k4 h1 h2 h3 h4;simp only[BZ,Bl,DP,XS h1,XS h2,XS h3,XS h4];rfl
 have Fu:=hr;unfold OB at hr;obtain⟨n,rfl⟩:=O6 (show 0<=r by omega);have hn:n<=1114111:=by omega
 have cv:Aw (.conv .i64) [.int .i32 (n:Int)]=some (I (n:Int)):=by rw[T4,wrap_i64 (by omega) (by omega)]
 rw[Ab,mr,aFd];by_cases c1:n<128
 .have e:GP (n:Int)=[UInt8.ofNat n]:=by unfold GP;rw[if_pos (by omega)];rfl
  rw[e];simp only[AB,Bi,cv,show(n:Int)<128 by omega,PJ (show n<256 by omega),one (show n<256 by omega)]
 by_cases c2:n<2048
 .have e:GP (n:Int)=[UInt8.ofNat (192+n/64),UInt8.ofNat (128+n%64)]:=by unfold GP;rw[if_neg (by omega),if_pos (by omega)];rfl
  rw[e];simp only[AB,Bi,cv,show¬(n:Int)<128 by omega,show(n:Int)<2048 by omega,Wc (show n<2147483648 by omega),tN (show n/64<64 by omega),PJ (show 192+n/64<256 by omega),MD (show n<2147483648 by omega),KP (show n%64<64 by omega),PJ (show 128+n%64<256 by omega),Z6 (show 192+n/64<256 by omega) (show 128+n%64<256 by omega)]
 by_cases c3:n<65536
 .have e:GP (n:Int)=[UInt8.ofNat (224+n/4096),UInt8.ofNat (128+n/64%64),UInt8.ofNat (128+n%64)]:=by unfold GP;rw[if_neg (by omega),if_neg (by omega),if_pos (by omega)];rfl
  rw[e];simp only[AB,Bi,cv,show¬(n:Int)<128 by omega,show¬(n:Int)<2048 by omega,show(n:Int)<65536 by omega,Wd (show n<2147483648 by omega),tO (show n/4096<64 by omega),PJ (show 224+n/4096<256 by omega),Wc (show n<2147483648 by omega),MD (show n/64<2147483648 by omega),KP (show n/64%64<64 by omega),PJ (show 128+n/64%64<256 by omega),MD (show n<2147483648 by omega),KP (show n%64<64 by omega),PJ (show 128+n%64<256 by omega),SF (show 224+n/4096<256 by omega) (show 128+n/64%64<256 by omega) (show 128+n%64<256 by omega)]
 .have e:GP (n:Int)=[UInt8.ofNat (240+n/262144),UInt8.ofNat (128+n/4096%64),UInt8.ofNat (128+n/64%64),UInt8.ofNat (128+n%64)]:=by unfold GP;rw[if_neg (by omega),if_neg (by omega),if_neg (by omega),if_pos (by omega)];rfl
  rw[e];simp only[AB,Bi,cv,show¬(n:Int)<128 by omega,show¬(n:Int)<2048 by omega,show¬(n:Int)<65536 by omega,ZA (show n<2147483648 by omega),tP (show n/262144<64 by omega),PJ (show 240+n/262144<256 by omega),Wd (show n<2147483648 by omega),MD (show n/4096<2147483648 by omega),KP (show n/4096%64<64 by omega),PJ (show 128+n/4096%64<256 by omega),Wc (show n<2147483648 by omega),MD (show n/64<2147483648 by omega),KP (show n/64%64<64 by omega),PJ (show 128+n/64%64<256 by omega),MD (show n<2147483648 by omega),KP (show n%64<64 by omega),PJ (show 128+n%64<256 by omega),four (show 240+n/262144<256 by omega) (show 128+n/4096%64<256 by omega) (show 128+n/64%64<256 by omega) (show 128+n%64<256 by omega)]
theorem tQ(r:Int):GP (if OB r then r else 65533)=GP r:=by
 by_cases h:OB r;·rw[if_pos h]
 .rw[if_neg h];unfold OB at h;have:GP r=[239,191,189]:=by unfold GP;rw[if_neg (by omega),if_neg (by omega),if_neg (by omega),if_neg (by omega)]
  have h2:GP 65533=[239,191,189]:=by unfold GP;rw[if_neg (by omega),if_neg (by omega),if_pos (by omega)];decide+kernel
  rw[this,h2]
theorem dd(r:Int):OB (if OB r then r else 65533):=by
 by_cases h:OB r;·rw[if_pos h];exact h
 .rw[if_neg h];decide
section
variable{h h':Ad}{bi a:Nat}{o c t:Aa}{G G' F:Nat->Prop}{b:BS}{x:Int}{m:Nat}
variable{nm:Ap}{av:Aa}{l:List AU}{r:List Aa}{sp p:Int}
theorem RX.leaf{k d:Int}{s:Ap}(w:RX h bi a o c t G b)(ok:DG b)(rm:BQ b (m+1))(hk:k=5\/k=6)(hd:b.a.has d/\(b.a.nd d).kind=1)(hs:s.length<=100000)(p bf:Int):
  ∃h4 h' G',BI cx 191 [Pt a 0,I d,.agg [I k,I 0,.slnil,I 0,I 0,S [],.slnil,.str s,S [],S [],ff,I 0,I 0]] h (.tuple [I (b.a.len+1),I 0]) h4/\BI cx 131 [Pt bi 0,I p,I (b.a.len+1),I bf] h4 (.tuple []) h'/\RX h' bi a o c t G' {b with a:=(b.a.add {kind:=k,Cy:=d,data:=s}).DZ (b.a.len+1) p bf}/\De h (own bi G) h' (own bi G'):=by
 obtain⟨h4,G4,r4,w5,x5⟩:=w.step (A':=b.a.add {kind:=k,Cy:=d,data:=s}) (R:=λh'=>BI cx 191 [Pt a 0,I d,.agg [I k,I 0,.slnil,I 0,I 0,S [],.slnil,.str s,S [],S [],ff,I 0,I 0]] h (.tuple [I (b.a.len+1),I 0]) h') (λn i ps wa=>by obtain⟨h',n',i',Iz,r,wp,xp⟩:=aHB wa (show b.a.len<=1000000000 by have:=rm.n;unfold Ar.len;omega) hd.1 hd.2 k s;exact⟨h',n',i',Iz,r,wp,xp⟩)
 obtain⟨S_,rm5⟩:=Zq (m:=m) (k:=k) (s:=s) ok rm hk hd hs;obtain⟨h',G',r6,w6,x6⟩:=qB w5 S_ rm5 p (b.a.len+1) bf;exact⟨h4,h',G',r4,r6,w6,x5.trans x6⟩
theorem aMF(w:RX h bi a o c t G b)(ok:DG b)(rm:BQ b (m+5))(hnm:Nm b.a)(r:Int):
  ∃h' G',BI cx 88 [Pt bi 0,.int .i32 r] h (.tuple []) h'/\RX h' bi a o c t G' (b.iK r)/\De h (own bi G) h' (own bi G'):=by
 have r1:=dW w ok rm hnm 0;obtain⟨hp,hbf⟩:=Vx ok (t:=0) (.inl rfl);unfold BS.iK;generalize(b.place 0).1=p at*;generalize(b.place 0).2=bf at*;have r2:=Ln w p;unfold BS.Ku;by_cases hk:(b.a.nd p).kind=4\/(b.a.nd p).kind=2;rotate_left;·refine⟨h,G,?_,by rw[if_neg hk];exact w,.refl⟩;have k4:¬(b.a.nd p).kind=4:=λe=>hk (.inl e);have k2:¬(b.a.nd p).kind=2:=λe=>hk (.inr e);rw[Ab,YY,t88];simp only[AB,Bi,r1.call,r2.call,ne_eq,k4,k2,AP]
 rw[if_pos hk];obtain⟨i,hi,sS,Tw,hpv⟩:=dG (l:=(b.a.nd p).AY) (bf:=bf) (λh=>by have:=hbf h;have h2:=(ok.ok.E6 bf this.1 (by rw[this.2];have:=hp.1;omega)).2;rwa [this.2] at h2);rw[hpv];have OH:(b.a.nd p).AY.length<=1000000000:=rm.Wo.AY ok.ok p;obtain⟨n,i',ps,wa,eG⟩:=w.w;obtain⟨kv,r3,pK⟩:=cz (x:=p) wa OH;have hvl:=AM.Cp pK;have ri:=aHI (h:=h) pK OH bf;have rd:=qA w p;rw[if_pos hp] at rd;have r0:∀{Q:Post} {h:Ad} {kk:Aa->IT},W cx (.Bc 188 [.int .i32 r] kk) Q h↔W cx (kk (.bool (decide (OB r)))) Q h:=(aHN r).Bc rfl rfl;obtain⟨r',Fu⟩:∃r',r'=if OB r then r else 65533:=⟨_,rfl⟩
 have TV:=dd r;have lA:=tQ r;rw[<-Fu] at TV lA;have rb:=aHO r' TV h;rw[lA] at rb;have ZI:=VY r;generalize hs:GP r=s at*;have f3:Kl h (.sl 1 (BZ s))=some (h,.sl 1 (BZ s)):=rfl;have b3:Aw .Th [.sl 1 (BZ s)]=some (.str s):=by simp[Aw,Ui,P6]
 have Zr:=ok.ok.Cy p hp;obtain⟨h4,h5,G5,r4,r5,w5,x5⟩:=w.leaf (m:=m) (k:=5) (s:=s) ok (rm.le (by omega)) (.inl rfl) Zr (by omega) p bf;by_cases hz:i=0
 .subst hz;simp only[↓reduceIte];refine⟨h5,G5,?_,w5,x5⟩;rw[Ab,YY,t88];rcases hk with hk|hk<;>by_cases Ph:OB r<;>by_cases h0:bf=0
  all_goals first|rw[if_pos Ph] at Fu|rw[if_neg Ph] at Fu
  all_goals subst Fu
  all_goals first
   |(rw[<-sS h0] at hvl;simp only[AB,Nat.reduceLeDiff,↓reduceIte,AK,Bi,r1.call,r2.call,ne_eq,hk,show¬(2:Int)=4 by decide,AP,r0,Az Ph,rb.call,f3,b3,w.l0,r3.call,hvl,AW h0,show¬(0:Int)<((0:Nat):Int) by decide,rd.call,By,r4.call,r5.call];done)
   |(rw[<-sS h0] at hvl;simp only[AB,Nat.reduceLeDiff,↓reduceIte,AK,Bi,r1.call,r2.call,ne_eq,hk,show¬(2:Int)=4 by decide,AP,r0,AA Ph,rb.call,f3,b3,w.l0,r3.call,hvl,AW h0,show¬(0:Int)<((0:Nat):Int) by decide,rd.call,By,r4.call,r5.call];done)
   |(rw[Tw h0] at ri;simp only[AB,Nat.reduceLeDiff,↓reduceIte,AK,Bi,r1.call,r2.call,ne_eq,hk,show¬(2:Int)=4 by decide,AP,r0,Az Ph,rb.call,f3,b3,w.l0,r3.call,hvl,h0,ri.call,show¬(0:Int)<((0:Nat):Int) by decide,rd.call,By,r4.call,r5.call];done)
   |(rw[Tw h0] at ri;simp only[AB,Nat.reduceLeDiff,↓reduceIte,AK,Bi,r1.call,r2.call,ne_eq,hk,show¬(2:Int)=4 by decide,AP,r0,AA Ph,rb.call,f3,b3,w.l0,r3.call,hvl,h0,ri.call,show¬(0:Int)<((0:Nat):Int) by decide,rd.call,By,r4.call,r5.call];done)
 .obtain⟨j,rfl⟩:∃j,i=j+1:=⟨i-1,by omega⟩;have hj:j<(b.a.nd p).AY.length:=by omega
  rw[if_neg hz,GF,Ae hj];simp only
  have ht:=ok.ok.LF p hp _ (AI hj);have e1:=AM.Bz (k:= .i64) pK hj;rw[Cb] at e1;have sb:Aw (.int .sub) [I ((j+1:Nat):Int),I 1]=some (I (j:Int)):=by have:=Hl (n:=j+1) (by omega) (by omega);simpa using this
  have xk:(0:Int)<((j+1:Nat):Int):=by omega
  generalize hte:(b.a.nd p).AY[j]=te at*;have rk:=Ln w te;by_cases k5:(b.a.nd te).kind=5
  .rw[if_pos k5];have fW:=rm.data te;obtain⟨h8,s8,w8,x8,_⟩:=wa.wr ht.1 (k:=7) (by decide) (v:= .str ((b.a.nd te).data++s)) rfl (p:=⟨{b.a.nd te with data:=(b.a.nd te).data++s},(pR ps te).kv,(pR ps te).av,wa.LF ht.1,wa.ba ht.1⟩) (by simp only[RN.row];rw[(wa.pn ht.1).2];rfl);obtain⟨w9,x9⟩:=w.pM (G':=IA a n i') ⟨n,i',_,w8,rfl⟩ (by rw[eG];exact x8);refine⟨h8,_,?_,w9,x9⟩;have ad:=Zp (s:=(b.a.nd te).data) (u:=s) (by omega);rw[Ab,YY,t88];rcases hk with hk|hk<;>by_cases Ph:OB r<;>by_cases h0:bf=0
   all_goals first|rw[if_pos Ph] at Fu|rw[if_neg Ph] at Fu
   all_goals subst Fu
   all_goals first
    |(rw[<-sS h0] at hvl;simp only[AB,Nat.reduceLeDiff,↓reduceIte,AK,Bi,r1.call,r2.call,ne_eq,hk,show¬(2:Int)=4 by decide,AP,r0,Az Ph,rb.call,f3,b3,w.l0,r3.call,hvl,AW h0,xk,sb,e1,rk.call,AW k5,wa.nodes,wa.addr ht.1,wa.f7 ht.1,ad,s8];done)
    |(rw[<-sS h0] at hvl;simp only[AB,Nat.reduceLeDiff,↓reduceIte,AK,Bi,r1.call,r2.call,ne_eq,hk,show¬(2:Int)=4 by decide,AP,r0,AA Ph,rb.call,f3,b3,w.l0,r3.call,hvl,AW h0,xk,sb,e1,rk.call,AW k5,wa.nodes,wa.addr ht.1,wa.f7 ht.1,ad,s8];done)
    |(rw[Tw h0] at ri;simp only[AB,Nat.reduceLeDiff,↓reduceIte,AK,Bi,r1.call,r2.call,ne_eq,hk,show¬(2:Int)=4 by decide,AP,r0,Az Ph,rb.call,f3,b3,w.l0,r3.call,hvl,h0,ri.call,xk,sb,e1,rk.call,AW k5,wa.nodes,wa.addr ht.1,wa.f7 ht.1,ad,s8];done)
    |(rw[Tw h0] at ri;simp only[AB,Nat.reduceLeDiff,↓reduceIte,AK,Bi,r1.call,r2.call,ne_eq,hk,show¬(2:Int)=4 by decide,AP,r0,AA Ph,rb.call,f3,b3,w.l0,r3.call,hvl,h0,ri.call,xk,sb,e1,rk.call,AW k5,wa.nodes,wa.addr ht.1,wa.f7 ht.1,ad,s8];done)
  .rw[if_neg k5];refine⟨h5,G5,?_,w5,x5⟩;rw[Ab,YY,t88];rcases hk with hk|hk<;>by_cases Ph:OB r<;>by_cases h0:bf=0
   all_goals first|rw[if_pos Ph] at Fu|rw[if_neg Ph] at Fu
   all_goals subst Fu
   all_goals first
    |(rw[<-sS h0] at hvl;simp only[AB,Nat.reduceLeDiff,↓reduceIte,AK,Bi,r1.call,r2.call,ne_eq,hk,show¬(2:Int)=4 by decide,AP,r0,Az Ph,rb.call,f3,b3,w.l0,r3.call,hvl,AW h0,xk,sb,e1,rk.call,k5,rd.call,By,r4.call,r5.call];done)
    |(rw[<-sS h0] at hvl;simp only[AB,Nat.reduceLeDiff,↓reduceIte,AK,Bi,r1.call,r2.call,ne_eq,hk,show¬(2:Int)=4 by decide,AP,r0,AA Ph,rb.call,f3,b3,w.l0,r3.call,hvl,AW h0,xk,sb,e1,rk.call,k5,rd.call,By,r4.call,r5.call];done)
    |(rw[Tw h0] at ri;simp only[AB,Nat.reduceLeDiff,↓reduceIte,AK,Bi,r1.call,r2.call,ne_eq,hk,show¬(2:Int)=4 by decide,AP,r0,Az Ph,rb.call,f3,b3,w.l0,r3.call,hvl,h0,ri.call,xk,sb,e1,rk.call,k5,rd.call,By,r4.call,r5.call];done)
    |(rw[Tw h0] at ri;simp only[AB,Nat.reduceLeDiff,↓reduceIte,AK,Bi,r1.call,r2.call,ne_eq,hk,show¬(2:Int)=4 by decide,AP,r0,AA Ph,rb.call,f3,b3,w.l0,r3.call,hvl,h0,ri.call,xk,sb,e1,rk.call,k5,rd.call,By,r4.call,r5.call];done)
theorem RX.Lh{s:Ap}{p bf x:Int}(hstart:(¬x=0/\p=x/\bf=0)\/(x=0/\BI cx 15 [Pt bi 0,I 0] h (.tuple [I p,I bf]) h))(w:RX h bi a o c t G b)(ok:DG b)(rm:BQ b (m+1))(hs:s.length<=100000):
  ∃h' G',BI cx 89 [Pt bi 0,.str s,I x] h (.tuple []) h'/\RX h' bi a o c t G' {b with a:=BS.Eo b.a s p bf}/\De h (own bi G) h' (own bi G'):=by
 have r2:=Ln w p;unfold BS.Eo;by_cases hk:J9 (b.a.nd p).kind
 .rw[if_pos hk];have hp:b.a.has p:=by
   by_cases hp:b.a.has p;·exact hp
   .rw[GI hp] at hk;unfold J9 at hk;simp at hk
  have Zr:=ok.ok.Cy p hp;have rd:=qA w p;rw[if_pos hp] at rd;obtain⟨h4,h5,G5,r4,r5,w5,x5⟩:=w.leaf (m:=m) (k:=6) (s:=s) ok rm (.inr rfl) Zr hs p bf;refine⟨h5,G5,?_,w5,x5⟩;rw[Ab,zU,t89];rcases hstart with⟨hx,rfl,rfl⟩|⟨hx,r1⟩
  .rcases hk with hk|hk|hk<;>simp only[AB,Nat.reduceLeDiff,↓reduceIte,AK,Bi,AP,r2.call,ne_eq,hk,show¬(2:Int)=1 by decide,show¬(4:Int)=1 by decide,show¬(4:Int)=2 by decide,w.l0,rd.call,By,r4.call,r5.call,hx]
  .rcases hk with hk|hk|hk<;>simp only[AB,Nat.reduceLeDiff,↓reduceIte,AK,Bi,AP,r2.call,ne_eq,hk,show¬(2:Int)=1 by decide,show¬(4:Int)=1 by decide,show¬(4:Int)=2 by decide,w.l0,rd.call,By,r4.call,r5.call,AW hx,r1.call]
 .rw[if_neg hk];refine⟨h,G,?_,w,.refl⟩;unfold J9 at hk;have k1:¬(b.a.nd p).kind=1:=by omega
  have k2:¬(b.a.nd p).kind=2:=by omega
  have k4:¬(b.a.nd p).kind=4:=by omega
  rw[Ab,zU,t89];rcases hstart with⟨hx,rfl,rfl⟩|⟨hx,r1⟩
  .simp only[AB,Nat.reduceLeDiff,↓reduceIte,AK,Bi,AP,r2.call,ne_eq,k1,k2,k4,hx]
  .simp only[AB,Nat.reduceLeDiff,↓reduceIte,AK,Bi,AP,r2.call,ne_eq,k1,k2,k4,AW hx,r1.call]
theorem aMG(w:RX h bi a o c t G b)(ok:DG b)(rm:BQ b (m+1))(hnm:Nm b.a)(s:Ap)(hs:s.length<=100000)(x:Int):
  ∃h' G',BI cx 89 [Pt bi 0,.str s,I x] h (.tuple []) h'/\RX h' bi a o c t G' (b.JY s x)/\De h (own bi G) h' (own bi G'):=by
 unfold BS.JY;by_cases h0:x=0;·rw[if_pos h0];exact RX.Lh (p:=(b.place 0).1) (bf:=(b.place 0).2) (.inr ⟨h0,dW w ok rm hnm 0⟩) w ok rm hs
 .rw[if_neg h0];exact RX.Lh (p:=x) (bf:=0) (.inl ⟨h0,rfl,rfl⟩) w ok rm hs
end
def dX(n:Int)(l:List Cc):List Cc:=if 0<=EE n l then A7 l (EE n l).toNat else l
theorem dY{α:Type}{l:List α}{k:Nat}{x:α}(hk:k<l.length):(A7 l k).take k++x::(A7 l k).drop k=l.set k x:=by
 have h1:(l.take k).length=k:=by rw[Al];omega
 unfold A7;rw[KI h1,NR h1,BW,if_pos hk]
theorem Td{p n:Nat}(h:p<=n):Ck (p:Int) n=p:=by unfold Ck;omega
section
variable{h h':Ad}{bi a:Nat}{o c t:Aa}{G G' F:Nat->Prop}{b:BS}{x:Int}{m:Nat}
variable{nm:Ap}{av:Aa}{l:List AU}{r:List Aa}{sp p:Int}
theorem BO.ix{cl:List Cc}{n:Nat}(hc:BO cl c)(hb:cl.length<=900000000)(x:Int)(h:Ad):BI cx 41 [c,I x] h (I (EE x cl)) h:=by obtain⟨fs,Gn,hv⟩:=hc;have:=aLe (h:=h) hv (by rw[<-Gn,Ai] at hb;omega) x;rwa [VW,Gn] at this
theorem BO.wo{cl:List Cc}(hc:BO cl c)(hb:cl.length<=900000000){k:Nat}(hk:k<cl.length)(h:Ad):∃u,BI cx 218 [c,I (k:Int)] h u h/\BO (A7 cl k) u/\u.cells=[u]:=by
 obtain⟨fs,Gn,hv⟩:=hc;have hl:cl.length=fs.length:=by rw[<-Gn,Ai]
 obtain⟨u,r,hu⟩:=aGd (h:=h) hv (by omega) (k:=k) (by omega);exact⟨u,r,⟨A7 fs k,by unfold A7;rw[BH,HS,NP,Gn],hu⟩,AM.cells hu⟩
theorem BO.wi{cl:List Cc}(hc:BO cl c)(hb:cl.length<=900000000){e:Cc}{v:Aa}(hv:Bw e.Ax v)(he:e.Ax.length<=1000000000)(i:Int)(h:Ad):∃u,BI cx 98 [c,.agg [I e.node,.str e.name,v],I i] h u h/\BO (cl.take (Ck i cl.length)++e::cl.drop (Ck i cl.length)) u/\u.cells=[u]:=by
 obtain⟨fs,Gn,UI⟩:=hc;have hl:cl.length=fs.length:=by rw[<-Gn,Ai]
 obtain⟨u,e',Pb,r,hu⟩:=f82 (h:=h) UI (by omega) (e:=⟨e,v,hv⟩) he i;refine⟨u,r,⟨_,?_,hu⟩,AM.cells hu⟩;rw[BH,Bl,HS,NP,Gn,Pb,hl]
theorem de(w:RX h bi a o c t G b)(hc:BO b.A4 c)(hb:b.A4.length<=900000000)(x:Int):
  ∃h' c',BI cx 126 [Pt bi 0,I x] h (.tuple []) h'/\RX h' bi a o c' t G {b with A4:=dX x b.A4}/\BO (dX x b.A4) c'/\De h (own bi G) h' (own bi G):=by
 have r1:=hc.ix (n:=0) hb x h;unfold dX;by_cases h0:0<=EE x b.A4;·obtain⟨q,hq,e,_⟩:=GD h0;obtain⟨u,r2,hu,huc⟩:=hc.wo hb hq h;rw[if_pos h0];rw[e] at r1⊢;rw[AQ];refine⟨_,u,?_,w.Kf,hu,Be⟩;rw[Ab,mT,aAO];simp only[AB,Bi,w.l3,r1.call,show(0:Int)<=(q:Int) by omega,r2.call,w.st (k:=3) (v0:=c) rfl huc]
 .rw[if_neg h0];refine⟨h,c,?_,w,hc,.refl⟩;rw[Ab,mT,aAO];simp only[AB,Bi,w.l3,r1.call,h0]
structure tR(h:Ad)(bi a:Nat)(t:Aa)(G0:Nat->Prop)(fe blk anc:Int)(k N m:Nat)(s0:BS×Int×Nat)(n:Nat)(h1:Ad)(o c:Aa)(G:Nat->Prop)(s:BS×Int×Nat):Prop where
 le:n<=N
 w:RX h1 bi a o c t G s.1
 hc:BO s.1.A4 c
 ok:DG s.1
 rm:BQ s.1 (m+4*n)
 nm:Nm s.1.a
 last:s.1.a.has s.2.1
 x:De h (own bi G0) h1 (own bi G)
 wh:s.2.2<=1000000000
 len:k+n+1<=s.1.AO.length
 eq:BS.Jl blk anc (k+1+N) k N s0=BS.Jl blk anc (k+1+N) k n s
 TZ:0<=EE fe s.1.A4
 AO:s.1.AO.take (k+n+1)=s0.1.AO.take (k+n+1)
 feh:s.1.a.has fe
theorem tR.step{h1 h2:Ad}{o1 c1 o2 c2:Aa}{G1 G2:Nat->Prop}{fe blk anc:Int}{k N n:Nat}{s0 s s':BS×Int×Nat}(i:tR h bi a t G fe blk anc k N m s0 (n+1) h1 o1 c1 G1 s)(e:s'=BS.EL blk anc (k+1+N) (k+(n+1)) s.1 s.2.1 s.2.2)
  (w:RX h2 bi a o2 c2 t G2 s'.1) (hc:BO s'.1.A4 c2) (x:De h1 (own bi G1) h2 (own bi G2)) (mk:s'.2.2<=1000000000) (TZ:0<=EE fe s'.1.A4):
  tR h bi a t G fe blk anc k N m s0 n h2 o2 c2 G2 s':=by
 obtain⟨ok',last',le'⟩:=VA (blk:=blk) (anc:=anc) (far:=k+1+N) (i:=k+(n+1)) (m:=s.2.2) i.ok i.last;have hl:=i.len;obtain⟨op1,op2⟩:=XY (blk:=blk) (anc:=anc) (far:=k+1+N) (i:=k+(n+1)) (l:=s.2.1) (mk:=s.2.2) (b:=s.1) (by omega);have rm':=Nl (blk:=blk) (anc:=anc) (far:=k+1+N) (i:=k+(n+1)) (l:=s.2.1) (mk:=s.2.2) (m:=m+4*n) (i.rm.le (by omega));have nm':=Nm.EL (blk:=blk) (anc:=anc) (far:=k+1+N) (i:=k+(n+1)) (l:=s.2.1) (mk:=s.2.2) i.nm i.rm;have eq':BS.Jl blk anc (k+1+N) k (n+1) s=BS.Jl blk anc (k+1+N) k n (BS.EL blk anc (k+1+N) (k+(n+1)) s.1 s.2.1 s.2.2):=rfl;have eq0:=i.eq.trans eq';have MH:=i.AO;rw[<-e] at ok' last' le' op1 op2 rm' nm' eq0;refine⟨by have:=i.le;omega,w,hc,ok',rm',nm',last',i.x.trans x,mk,by omega,eq0,TZ,?_,le'.has _ i.feh⟩;have:=Cd (λl=>l.take (k+(n+1))) MH;simp only[GR] at this;rw[show k+n+1=k+(n+1) by omega,op1];rwa [Cm (by omega)] at this
theorem aHP{anc fe:Int}{k N f:Nat}(w:RX h bi a o c t G b)(hc:BO b.A4 c)(ok:DG b)(rm:BQ b (m+4*N))(hnm:Nm b.a)(hN:k+1+N<b.AO.length)(hf:f<=1000000000){fb:Item}(sQ:b.AO[k+1+N]=fb)(OH:AJ (Bm fe) b.AO=(k:Int))(TZ:0<=EE fe b.A4)(feh:b.a.has fe):
  ∃h' o' c' G' s',BI cx 130 [Pt bi 0,I (f:Int),I (k:Int),I ((k+1+N:Nat):Int),I anc] h (.tuple [I s'.2.1,I (s'.2.2:Int)]) h'/\s'=BS.Jl fb.node anc (k+1+N) k N (b,fb.node,f)/\tR h bi a t G fe fb.node anc k N m (b,fb.node,f) 0 h' o' c' G' s':=by
 have ho:=rm.AO;have bF:AS=140737488355328:=rfl;have bj:b.a.has fb.node:=(ok.op fb (by rw[<-sQ];exact AI _)).1;have Ik:Ev cx 130 [Pt bi 0,I (f:Int),I (k:Int),I ((k+1+N:Nat):Int),I anc] h λr h'=>∃o' c' G' s',r= .tuple [I s'.2.1,I (s'.2.2:Int)]/\s'=BS.Jl fb.node anc (k+1+N) k N (b,fb.node,f)/\tR h bi a t G fe fb.node anc k N m (b,fb.node,f) 0 h' o' c' G' s':=by
  unfold Ev;have ld:A6 h none (Pt bi 2)=some o:=w.ld 2;have e0:=AM.Bz (k:= .i64) w.o hN;rw[sQ,Item.row] at e0;have i1:=CJ (a:=((k+1+N:Nat):Int)) (b:=1) (by omega) (by omega);rw[show((k+1+N:Nat):Int)-1=((k+N:Nat):Int) by omega] at i1;rw[ku,aEV];simp only[AB,ld,e0,i1];refine Bb (λz:Nat×Int×Nat=>[I z.2.1,I (z.2.2:Int),I ((k+z.1:Nat):Int)]) (λz h1=>∃o c G1 b1,tR h bi a t G fe fb.node anc k N m (b,fb.node,f) z.1 h1 o c G1 (b1,z.2)) (λz=>z.1) (N,fb.node,f) rfl ⟨o,c,G,b,⟨Ac _,w,hc,ok,rm,hnm,bj,.refl,hf,by simp only;omega,rfl,TZ,rfl,feh⟩⟩ ?_;rintro⟨n,last,mk⟩ h1 ⟨o1,c1,G1,b1,i⟩;simp only at i;cases n with
  |zero=>simp only[AB,↓reduceIte,Bi,show¬(k:Int)<(k:Int) by omega];exact⟨_,rfl,o1,c1,G1,(b1,last,mk),rfl,i.eq.symm,i⟩
  |succ n=>
   have hnN:=i.le;have hlen:=i.len;simp only at hlen;have XZ:k+(n+1)<b1.AO.length:=by omega
   have hwo:=i.rm.AO;have hwa:=i.rm.A4;have ym:=i.rm.tm;simp only at hwo hwa;have wb:RX h1 bi a o1 c1 t G1 b1:=i.w;have hcb:BO b1.A4 c1:=i.hc;have uo:mk<=1000000000:=i.wh;have uQ:A6 h1 none (Pt bi 2)=some o1:=wb.ld 2;have e1:=AM.Bz (k:= .i64) wb.o XZ;have Uf:b1.AO.getD (k+(n+1)) Item.zero=b1.AO[k+(n+1)]:=by rw[AE,Ae XZ];rfl
   have hxf:b1.AO[k+(n+1)].node≠fe:=by have h2:=Cd (λl=>l[k+(n+1)]?) i.AO;simp only[Cf] at h2;rw[if_pos (by omega),if_pos (by omega),Ae XZ,Ae (by omega)] at h2;obtain⟨_,_,h3⟩:=HQ OH;have h4:=h3 (k+(n+1)) (by omega) (by omega);rw[C8 h2];intro h5;unfold Bm at h4;rw[h5] at h4;simp at h4
   generalize hxe:b1.AO[k+(n+1)]=x at*;obtain⟨q,hq,sU,hq0,hq2,hq3⟩:=GD i.TZ;simp only at hq sU;have r2:=hcb.ix (n:=0) (by omega) x.node h1;have uN:(k:Int)<((k+(n+1):Nat):Int):=by omega
   have dec:Aw (.int .sub) [I ((k+(n+1):Nat):Int),I 1]=some (I ((k+n:Nat):Int)):=by have:=Hl (n:=k+(n+1)) (by omega) (by omega);rwa [show k+(n+1)-1=k+n by omega] at this
   have inc:Aw (.int .add) [I ((k+(n+1):Nat):Int),I 1]=some (I ((k+(n+1)+1:Nat):Int)):=BF (by omega);have dif:Aw (.int .sub) [I ((k+1+N:Nat):Int),I ((k+(n+1):Nat):Int)]=some (I ((N-n:Nat):Int)):=by rw[CJ (by omega) (by omega)];congr 2;omega
   have aRF:x.row.length=4:=rfl;have cutO:∀{h2:Ad} {o2 c2:Aa} {G2:Nat->Prop} {b2:BS},RX h2 bi a o2 c2 t G2 b2->b2.AO=b1.AO->∃u1 u2 u3 u4,A6 h2 none (Pt bi 2)=some o2/\Aw (.Hq 4 false false true) [o2,I ((k+(n+1):Nat):Int)]=some u1/\Aw (.append 4 40) [.slnil,u1]=some u2/\Aw (.Hq 4 false true false) [o2,I ((k+(n+1)+1:Nat):Int)]=some u3/\Aw (.append 4 40) [u2,u3]=some u4/\Cv h2 1 (Pt bi 2) u4=some (Am.put h2 bi 2 u4)/\RX (Am.put h2 bi 2 u4) bi a u4 c2 t G2 {b2 with AO:=A7 b1.AO (k+(n+1))}:=by
    intro h2 o2 c2 G2 b2 w2 e2;have Wh:BN b1.AO o2:=by rw[<-e2];exact w2.o
    obtain⟨u1,p1,q1⟩:=AM.K8 Wh (k:= .i64) (n:=k+(n+1)) (by omega);obtain⟨u2,p2,q2⟩:=AM.Gj (b:=40) q1 (by rw[Al];omega);obtain⟨u3,p3,q3⟩:=AM.QZ Wh (k:= .i64) (n:=k+(n+1)+1) (by omega);obtain⟨u4,p4,q4⟩:=AM.YI (b:=40) q2 q3 (by rw[Al,A8];omega);exact⟨u1,u2,u3,u4,w2.ld 2,p1,p2,p3,p4,w2.st (k:=2) (v0:=o2) rfl (AM.cells q4),w2.Ia q4⟩
   by_cases he:EE x.node b1.A4<0
   .obtain⟨u1,u2,u3,u4,_,p1,p2,p3,p4,s4,w4⟩:=cutO wb rfl;have es:({b1 with AO:=A7 b1.AO (k+(n+1))},last,mk)=BS.EL fb.node anc (k+1+N) (k+(n+1)) b1 last mk:=by unfold BS.EL;simp only[Uf];rw[if_pos he]
    have i2:=i.step es w4 hcb Be uo i.TZ;by_cases L8:(3:Int)<((N-n:Nat):Int);·simp only[AB,Nat.reduceLeDiff,↓reduceIte,AK,Bi,EB,uN,uQ,e1,wb.l3,r2.call,AP,dif,L8,show¬(0:Int)<=EE x.node b1.A4 by omega,he,p1,p2,inc,p3,p4,s4,dec];exact AF.next (n,last,mk) rfl ⟨_,_,_,_,i2⟩ (by simp only;omega)
    .simp only[AB,Nat.reduceLeDiff,↓reduceIte,AK,Bi,EB,uN,uQ,e1,wb.l3,r2.call,AP,dif,L8,he,p1,p2,inc,p3,p4,s4,dec];exact AF.next (n,last,mk) rfl ⟨_,_,_,_,i2⟩ (by simp only;omega)
   .obtain⟨p,hp,ep,Mo,WW,hp3⟩:=GD (L6.1 he);have D1:(0:Int)<=(p:Int):=by omega
    rw[ep] at r2;have ept:(EE x.node b1.A4).toNat=p:=by rw[ep,AQ]
    have yv:b1.A4[p].node≠fe:=by rw[WW];exact hxf
    by_cases L8:(3:Int)<((N-n:Nat):Int)
    .obtain⟨c2,r3,HH,aHQ⟩:=hcb.wo (by omega) hp h1;have w2:=wb.Kf (u:=c2) (l:=A7 b1.A4 p);obtain⟨u1,u2,u3,u4,sj,p1,p2,p3,p4,s4,w4⟩:=cutO w2 rfl;have es:({b1 with A4:=A7 b1.A4 p,AO:=A7 b1.AO (k+(n+1))},last,if p<mk then mk-1 else mk)=BS.EL fb.node anc (k+1+N) (k+(n+1)) b1 last mk:=by unfold BS.EL;simp only[Uf];rw[if_neg he,if_pos (show k+(n+1)+3<k+1+N by omega),ept]
     have i2:=i.step es w4 HH (Be.trans Be) (by simp only;split<;>omega) (by simp only;rw[XX i.TZ hp yv];have:=i.TZ;unfold down;split<;>omega);have s3:=wb.st (k:=3) (v0:=c1) rfl aHQ;by_cases hpm:(p:Int)<(mk:Int);·have dm:=Hl (n:=mk) (by omega) (by omega);rw[if_pos (show p<mk by omega)] at i2;simp only[AB,Nat.reduceLeDiff,↓reduceIte,AK,Bi,EB,uN,uQ,e1,wb.l3,r2.call,AP,dif,L8,D1,r3.call,s3,hpm,dm,show(-1:Int)<0 by decide,sj,p1,p2,inc,p3,p4,s4,dec];exact AF.next (n,last,mk-1) rfl ⟨_,_,_,_,i2⟩ (by simp only;omega)
     .rw[if_neg (show¬p<mk by omega)] at i2;simp only[AB,Nat.reduceLeDiff,↓reduceIte,AK,Bi,EB,uN,uQ,e1,wb.l3,r2.call,AP,dif,L8,D1,r3.call,s3,hpm,show(-1:Int)<0 by decide,sj,p1,p2,inc,p3,p4,s4,dec];exact AF.next (n,last,mk) rfl ⟨_,_,_,_,i2⟩ (by simp only;omega)
    .obtain⟨fs,Gn,hv⟩:=hcb;have GG:b1.A4.length=fs.length:=by rw[<-Gn,Ai]
     have aCg:p<fs.length:=by omega
     have efp:fs[p].c=b1.A4[p]:=by simp only[<-Gn,CX]
     have e2:=AM.Bz (k:= .i64) hv aCg;have tE:fs[p].v.cells=[fs[p].v]:=AM.cells fs[p].ok;have hr:Nj fs[p].c.name fs[p].v [I 2,.str fs[p].c.name,ff,S [],ff,S [],ff,ff,fs[p].v,ff,S [],.int .i32 0]:=⟨I 2,ff,S [],ff,S [],ff,ff,ff,S [],.int .i32 0,rfl⟩;have Jn:=i.rm.Dk _ (AI hp);rw[<-efp] at Jn;obtain⟨h2,G2,r4,w2,x2⟩:=sg (m:=m+4*n) wb i.ok (i.rm.le (by omega)) i.nm hr fs[p].ok Jn.2 Jn.1 anc 1;obtain⟨bt,fr,le2⟩:=Mw (nm:=fs[p].c.name) (at_:=fs[p].c.Ax) (p:=anc) i.ok IQ;have S9:=H7 (m:=m+4*n+1) (nm:=fs[p].c.name) (l:=fs[p].c.Ax) (sp:=1) (p:=anc) (i.rm.le (by omega)) Jn.2;have MH:(b1.D8 fs[p].c.name fs[p].c.Ax 1 anc).AO=b1.AO:=by unfold BS.D8;rw[if_pos IQ]
     have Ry:(b1.D8 fs[p].c.name fs[p].c.Ax 1 anc).A4=b1.A4:=by unfold BS.D8;rw[if_pos IQ]
     have es0:BS.EL fb.node anc (k+1+N) (k+(n+1)) b1 last mk=({b1.D8 fs[p].c.name fs[p].c.Ax 1 anc with a:=(b1.D8 fs[p].c.name fs[p].c.Ax 1 anc).a.Fe (b1.FA fs[p].c.name fs[p].c.Ax 1).node last 0,AO:=(b1.D8 fs[p].c.name fs[p].c.Ax 1 anc).AO.set (k+(n+1)) (b1.FA fs[p].c.name fs[p].c.Ax 1),A4:=(b1.D8 fs[p].c.name fs[p].c.Ax 1 anc).A4.set p {fs[p].c with node:=(b1.FA fs[p].c.name fs[p].c.Ax 1).node}},(b1.FA fs[p].c.name fs[p].c.Ax 1).node,if last=fb.node then p+1 else mk):=by unfold BS.EL;simp only[Uf];rw[if_neg he,if_neg (by omega),ept,AE,Ae hp,Ib,<-efp]
     have uB:=Mx i.ok fr;have hna:=O1 i.ok fr;have hnf:(b1.FA fs[p].c.name fs[p].c.Ax 1).node≠fe:=λe2=>fr.new (by rw[e2];exact i.feh);have aCh:(b1.FA fs[p].c.name fs[p].c.Ax 1).name.length<=1000:=Mz Jn.1;simp only at uB hna;generalize b1.FA fs[p].c.name fs[p].c.Ax 1=nw at*;generalize b1.D8 fs[p].c.name fs[p].c.Ax 1 anc=b2 at*;have sj:A6 h2 none (Pt bi 2)=some o1:=w2.ld 2;have Wh:BN b1.AO o1:=wb.o;obtain⟨u1,p1,q1⟩:=AM.K8 Wh (k:= .i64) (n:=k+(n+1)) (by omega);obtain⟨u2,p2,q2⟩:=AM.Gj (b:=40) q1 (by rw[Al];omega);have p3:=AM.Jb (a:=nw) (b:=40) q2 (by rw[Al];omega);obtain⟨u4,p4,q4⟩:=AM.QZ Wh (k:= .i64) (n:=k+(n+1)+1) (by omega);obtain⟨u5,p5,q5⟩:=AM.YI (f:=Item.row) (l:=b1.AO.take (k+(n+1))++[nw]) (b:=40) .mk q4 (by rw[As,Al,A8,Br];omega);have es5:b1.AO.take (k+(n+1))++[nw]++b1.AO.drop (k+(n+1)+1)=b2.AO.set (k+(n+1)) nw:=by rw[MH,BW,if_pos XZ,AD];rfl
     rw[es5] at q5;have sm:Aw (.Bx 4) [.agg nw.row]=some (.sl 4 [nw.row]):=K9;have s5:=w2.st (k:=2) (v0:=o1) rfl (AM.cells q5);have w3:=w2.Ia q5;have x3:=x2.trans (Be (k:=2) (v:=u5));generalize put h2 bi 2 u5=h3 at*;have l33:=w3.l3;have C_:BO b1.A4 c1:=⟨fs,Gn,hv⟩;obtain⟨c2,r6,HH,aHQ⟩:=C_.wo (by omega) hp h3;obtain⟨c3,r7,aHR,aMH⟩:=HH.wi (by rw[Gm hp];omega) (e:={fs[p].c with node:=nw.node}) fs[p].ok (by have:=Jn.2.1;simp only;omega) (p:Int) h3;rw[Td (by rw[Gm hp];omega),dY hp] at aHR;have s6:=w3.st (k:=3) (v0:=c1) rfl aMH;have w4:=w3.Kf (u:=c3) (l:=b2.A4.set p {fs[p].c with node:=nw.node});have hc4:BO (b2.A4.set p {fs[p].c with node:=nw.node}) c3:=by rw[Ry];exact aHR
     have x4:=x3.trans (Be (k:=3) (v:=c3));generalize put h3 bi 3 c3=h4 at*;have wk:=bt.iS (i:=nw) (k:=k+(n+1)) ⟨fr.has,fr.kind,fr.AZ,fr.name⟩ (by rw[MH];exact uB);have uL:=wk.iT (e:={fs[p].c with node:=nw.node}) (k:=p) ⟨fr.has,fr.kind⟩ (by simp only[Ry];exact hna);have rm4:BQ {b2 with AO:=b2.AO.set (k+(n+1)) nw,A4:=b2.A4.set p {fs[p].c with node:=nw.node}} (m+4*n+1):=by
      refine⟨S9.n,S9.at_,S9.data,by simp only[Bj];exact S9.AO,by simp only[Bj];exact S9.A4,S9.tm,λe he=>?_,λi hi=>?_⟩
      .rcases Dh he with he|rfl
       .exact S9.Dk e he
       .exact Jn
      .rcases Dh hi with hi|rfl
       .exact S9.Wn i hi
       .exact aCh
     obtain⟨er,h6,G6,r8,w6,x6⟩:=w4.Zy uL rm4 nw.node last 0;have i2:=i.step es0.symm w6 hc4 (x4.trans x6) (by simp only;split<;>omega) (by simp only;rw[Ry,dL i.TZ hp yv hnf];exact i.TZ);have l40:=w4.l0;have incp:=BF (show p<9223372036854775807 by omega);rw[B3.row] at e2;by_cases Qr:last=fb.node;·rw[if_pos Qr] at i2;simp only[AB,Nat.reduceLeDiff,↓reduceIte,AK,Bi,EB,uN,uQ,e1,wb.l3,r2.call,AP,dif,L8,show¬(p:Int)<0 by omega,e2,tE,r4.call,sj,p1,p2,sm,p3,inc,p4,p5,s5,l33,r6.call,r7.call,s6,AW Qr,incp,l40,r8.call,dec];exact AF.next (n,nw.node,p+1) rfl ⟨_,_,_,_,i2⟩ (by simp only;omega)
     .rw[if_neg Qr] at i2;simp only[AB,Nat.reduceLeDiff,↓reduceIte,AK,Bi,EB,uN,uQ,e1,wb.l3,r2.call,AP,dif,L8,show¬(p:Int)<0 by omega,e2,tE,r4.call,sj,p1,p2,sm,p3,inc,p4,p5,s5,l33,r6.call,r7.call,s6,Qr,l40,r8.call,dec];exact AF.next (n,nw.node,mk) rfl ⟨_,_,_,_,i2⟩ (by simp only;omega)
 obtain⟨r,h',hr,o',c',G',s',rfl,e',i'⟩:=Ik.ret;exact⟨h',o',c',G',s',hr,e',i'⟩
end
theorem Te{nm:Ap}:∀{r:List Cc} {j:Nat},Ov nm r=(j:Int)->∃hj:j<r.reverse.length,r.reverse[j].node≠0
 |[],j,e=>by rw[Ov] at e;omega
 |x::r,j,e=>by
  rw[Ov] at e;split at e;·omega
  .rename_i h0;split at e
   .have ej:j=r.reverse.length:=by rw[Ws];omega
    subst ej;exact⟨by simp,by simpa using h0⟩
   .obtain⟨hj,h1⟩:=Te e;refine⟨by simp at hj⊢;omega,?_⟩;simp only[FN];rw[Jj hj];exact h1
theorem kE{nm:Ap}{l:List Cc}{f:Nat}(e:FI nm l=(f:Int)):∃hf:f<l.length,l[f].node≠0:=by unfold FI at e;obtain⟨hj,h⟩:=Te e;simp only[GU] at hj h;exact⟨hj,h⟩
theorem We{l:List Cc}{n:Int}{q:Nat}(e:EE n l=(q:Int)):dX n l=A7 l q:=by unfold dX;rw[e,if_pos (by omega),AQ]
section
variable{h h':Ad}{bi a:Nat}{o c t:Aa}{G G' F:Nat->Prop}{b:BS}{x:Int}{m:Nat}
variable{nm:Ap}{av:Aa}{l:List AU}{r:List Aa}{sp p:Int}
theorem BO.aHS{cl:List Cc}(hc:BO cl c)(hb:cl.length<=900000000)(nm:Ap)(h:Ad):BI cx 124 [c,.str nm] h (I (FI nm cl)) h:=by obtain⟨fs,Gn,hv⟩:=hc;have:=aLc (h:=h) hv (by rw[<-Gn,Ai] at hb;omega) nm;rwa [pO,Gn] at this
set_option maxHeartbeats 1000000 in
theorem aHT(w:RX h bi a o c t G b)(hc:BO b.A4 c)(ok:DG b)(rm:BQ b (m+4*b.AO.length+10))(hnm:Nm b.a)(nm:Ap):
  ∃h' o' c' G',BI cx 43 [Pt bi 0,.str nm] h (.bool (b.round nm).1) h'/\RX h' bi a o' c' t G' (b.round nm).2/\BO (b.round nm).2.A4 c'/\De h (own bi G) h' (own bi G'):=by
 have ho:=rm.AO;have Ry:=rm.A4;have hin:∀i∈b.AO,i.name.length<9223372036854775807:=λi hi=>by have:=rm.Wn i hi;omega
 have l3:=w.l3;have ld:A6 h none (Pt bi 2)=some o:=w.ld 2;have r1:=hc.aHS (by omega) nm h;by_cases hf:FI nm b.A4<0
 .obtain⟨h2,o2,r2,w2,x2⟩:=aHM w rm nm;have e:b.round nm=(false,b.C0 nm):=by unfold BS.round;simp only;rw[if_pos hf]
  have ea:(b.C0 nm).A4=b.A4:=by
   unfold BS.C0;split;·split<;>rfl
   .rfl
  rw[e];refine⟨h2,o2,c,G,?_,w2,by rw[ea];exact hc,x2⟩;rw[Ab,Sj,t43];simp only[AB,Bi,l3,r1.call,hf,r2.call]
 obtain⟨f,GG,ef⟩:=Rn (L6.1 hf);obtain⟨_,qw⟩:=kE ef;have eK:¬(f:Int)<0:=by omega
 rw[ef] at r1;have JU:=hc;obtain⟨fs,Gn,hv⟩:=JU;have aL7:b.A4.length=fs.length:=by rw[<-Gn,Ai]
 have efp:fs[f].c=b.A4[f]:=by simp only[<-Gn,CX]
 have e1:=AM.Bz (k:= .i64) hv (show f<fs.length by omega);have VZ:=pU ok.sC GG qw;have Jn:=rm.Dk _ (AI GG);have Uf:b.A4.getD f Cc.zero=b.A4[f]:=by rw[AE,Ae GG];rfl
 rw[<-efp] at VZ Jn Uf qw;generalize hfe:fs[f]=fe at*;have tE:fe.v.cells=[fe.v]:=AM.cells fe.ok;rw[B3.row] at e1;have r2:=WU (h:=h) w.o (by omega) fe.c.node;by_cases hk:AJ (Bm fe.c.node) b.AO<0
 .obtain⟨h2,c2,r3,w2,HH,x2⟩:=de w hc (by omega) fe.c.node;rw[We VZ] at w2 HH;have e:b.round nm=(false,{b with A4:=A7 b.A4 f}):=by unfold BS.round;simp only;rw[if_neg hf,ef,AQ,Uf,if_pos hk]
  rw[e];refine⟨h2,o,c2,G,?_,w2,HH,x2⟩;rw[Ab,Sj,t43];simp only[AB,Nat.reduceLeDiff,↓reduceIte,Bi,l3,r1.call,eK,e1,ld,r2.call,hk,r3.call]
 obtain⟨k,ek⟩:∃k:Nat,AJ (Bm fe.c.node) b.AO=(k:Int):=⟨_,(Nr (L6.1 hk)).symm⟩;obtain⟨OH,hkq,_⟩:=HQ ek;have cY:¬(k:Int)<0:=by omega
 rw[ek] at r2;have r3:=aK4 (h:=h) w.o (by omega) hin 1 fe.c.node;by_cases Ph:I2 (Bm fe.c.node) (II 1) b.AO.reverse=false
 .have e:b.round nm=(false,b):=by unfold BS.round;simp only;rw[if_neg hf,ef,AQ,Uf,if_neg hk,if_pos (.inr Ph)]
  rw[e];refine⟨h,o,c,G,?_,w,hc,.refl⟩;rw[Ph] at r3;rw[Ab,Sj,t43];simp only[AB,Nat.reduceLeDiff,↓reduceIte,Bi,l3,r1.call,eK,e1,ld,r2.call,cY,AP,r3.call]
 have aCm:I2 (Bm fe.c.node) (II 1) b.AO.reverse=true:=by simpa using Ph
 rw[aCm] at r3;by_cases hkz:k=0
 .have e:b.round nm=(false,b):=by unfold BS.round;simp only;rw[if_neg hf,ef,AQ,Uf,if_neg hk,if_pos (.inl (by rw[ek,hkz];rfl))]
  rw[e];refine⟨h,o,c,G,?_,w,hc,.refl⟩;rw[Ab,Sj,t43];simp only[AB,Nat.reduceLeDiff,↓reduceIte,Bi,l3,r1.call,eK,e1,ld,r2.call,cY,AP,r3.call,AW (show(k:Int)=0 by omega)]
 have dO:¬(k:Int)=0:=by omega
 have r4:=aK5 (h:=h) w.o (by omega) hin fe.c.node;have ze:¬(AJ (Bm fe.c.node) b.AO=0\/I2 (Bm fe.c.node) (II 1) b.AO.reverse=false):=by rw[ek];rintro(h|h);exact dO h;exact Ph h
 by_cases hfa:Dz fe.c.node b.AO<0
 .have e:b.round nm=(false,{b with AO:=Ga fe.c.node b.AO,A4:=A7 b.A4 f}):=by unfold BS.round;simp only;rw[if_neg hf,ef,AQ,Uf,if_neg hk,if_neg ze,if_pos hfa]
  obtain⟨u,t1,r5,hu⟩:=aF7 (h:=h) w.o (by omega) fe.c.node;have w1:=w.HA (u:=t1);have w2:=w1.Ia hu;obtain⟨h3,c3,r6,w3,L8,x3⟩:=de w2 hc (by simp only;omega) fe.c.node;simp only at w3 L8;rw[We VZ] at w3 L8;rw[e];refine⟨h3,u,c3,G,?_,w3,L8,(w.CN.trans Be).trans x3⟩;rw[Ab,Sj,t43];simp only[AB,Nat.reduceLeDiff,↓reduceIte,Bi,l3,r1.call,eK,e1,ld,r2.call,cY,AP,r3.call,dO,r4.call,hfa,r5.call,w1.st (k:=2) (v0:=o) rfl (AM.cells hu),r6.call]
 obtain⟨N,hN,eN⟩:∃N:Nat,k+1+N<b.AO.length/\Dz fe.c.node b.AO=((k+1+N:Nat):Int):=by
  have jT:=hfa;rw[HL,if_neg hk,ek,AQ] at jT⊢;unfold Em at jT⊢;split at jT;·rename_i j hj;have:=(Hz.1 hj).1;rw[A8] at this;exact⟨j,by omega,by omega⟩
  .omega
 have e2:=AM.Bz (k:= .i64) w.o hN;have e3:=AM.Bz (k:= .i64) w.o (show k-1<b.AO.length by omega);obtain⟨fb,sQ⟩:∃fb,fb=b.AO[k+1+N]:=⟨_,rfl⟩;obtain⟨an,qe⟩:∃an,an=b.AO[k-1]'(by omega):=⟨_,rfl⟩;rw[<-sQ,Item.row] at e2;rw[<-qe,Item.row] at e3;have wV:b.AO.getD (k+1+N) Item.zero=fb:=by rw[AE,Ae hN,sQ];rfl
 have A_:b.AO.getD (k-1) Item.zero=an:=by rw[AE,Ae (by omega),qe];rfl
 have e:b.round nm=(true,BS.FM fe.c fb.node an.node (BS.Jl fb.node an.node (k+1+N) k N (b,fb.node,f))):=by
  unfold BS.round;simp only
  rw[if_neg hf,ef,AQ,Uf,if_neg hk,if_neg ze,if_neg hfa,ek,eN,AQ,AQ,wV,A_,show k+1+N-1 -k=N by omega]
 have tF:=ok.op fb (by rw[sQ];exact AI _);have aCn:b.AO[k].node=fe.c.node:=by simpa[Bm] using hkq
 have qv:b.a.has fe.c.node:=by rw[<-aCn];exact(ok.op _ (AI _)).1
 have Tw:=Hl (n:=k) (by omega) (by omega);have le0:=(T6 (blk:=fb.node) (anc:=an.node) (far:=k+1+N) (k:=k) (c:=N) (s:=(b,fb.node,f)) ok tF.1).2.2;obtain⟨h5,o5,c5,G5,s',r7,es,i⟩:=aHP (m:=m+10) (anc:=an.node) (fe:=fe.c.node) (f:=f) w hc ok (rm.le (by omega)) hnm hN (by omega) sQ.symm ek (by rw[VZ];omega) qv;rw[<-es] at le0 e;obtain⟨q,hq,sU,hq0,hq2,hq3⟩:=GD i.TZ;have uo:=i.wh;have r8:=dW i.w i.ok i.rm i.nm an.node;obtain⟨h7,G7,r9,w7,x7⟩:=qB i.w i.ok i.rm (s'.1.place an.node).1 s'.2.1 (s'.1.place an.node).2;have le7:Le s'.1.a (s'.1.a.DZ s'.2.1 (s'.1.place an.node).1 (s'.1.place an.node).2):=H6;have ok7:=i.ok.Jm (Nf (n:=s'.2.1) (p:=(s'.1.place an.node).1) (b:=(s'.1.place an.node).2) i.ok.ok) le7;have rm7:=i.rm.Jm (I0 (x:=s'.2.1) (p:=(s'.1.place an.node).1) (bf:=(s'.1.place an.node).2));have nm7:Nm (s'.1.a.DZ s'.2.1 (s'.1.place an.node).1 (s'.1.place an.node).2):=i.nm.DZ;obtain⟨b2,MJ⟩:∃b2,b2={s'.1 with a:=s'.1.a.DZ s'.2.1 (s'.1.place an.node).1 (s'.1.place an.node).2}:=⟨_,rfl⟩;have Wh:b2.AO=s'.1.AO:=by rw[MJ]
 have HH:b2.A4=s'.1.A4:=by rw[MJ]
 have le2:Le s'.1.a b2.a:=by rw[MJ];exact le7
 have nm2:Nm b2.a:=by rw[MJ];exact nm7
 rw[<-MJ] at w7 ok7 rm7;have hr:Nj fe.c.name fe.v [I 2,.str fe.c.name,ff,S [],ff,S [],ff,ff,fe.v,ff,S [],.int .i32 0]:=⟨I 2,ff,S [],ff,S [],ff,ff,ff,S [],.int .i32 0,rfl⟩;obtain⟨h8,G8,wm,w8,x8⟩:=sg (m:=m+7) w7 ok7 (rm7.le (by omega)) nm2 hr fe.ok Jn.2 Jn.1 fb.node 1;obtain⟨dz,fr,le8⟩:=Mw (nm:=fe.c.name) (at_:=fe.c.Ax) (p:=fb.node) ok7 IQ;have qx:=H7 (m:=m+7) (nm:=fe.c.name) (l:=fe.c.Ax) (sp:=1) (p:=fb.node) (rm7.le (by omega)) Jn.2;obtain⟨nw,hnw⟩:∃nw,nw=b2.FA fe.c.name fe.c.Ax 1:=⟨_,rfl⟩;obtain⟨b3,uH⟩:∃b3,b3=b2.D8 fe.c.name fe.c.Ax 1 fb.node:=⟨_,rfl⟩;have ho3:b3.AO=s'.1.AO:=by rw[uH,<-Wh];unfold BS.D8;rw[if_pos IQ]
 have L8:b3.A4=s'.1.A4:=by rw[uH,<-HH];unfold BS.D8;rw[if_pos IQ]
 rw[<-hnw] at wm fr;rw[<-uH] at w8 dz fr le8 qx;have aHe:(b3.a.nd fb.node).AY.length<=1000000000:=qx.Wo.AY dz.ok fb.node;obtain⟨kv,r12,pK⟩:∃v,BI cx 132 [Pt a 0,I fb.node] h8 v h8/\Dg (b3.a.nd fb.node).AY v:=by obtain⟨n,i,ps,wa,_⟩:=w8.w;exact cz wa aHe
 have XZ:=λ(y:Item)=>@Item.Co y;have Ik:Ev cx 43 [Pt bi 0,.str nm] h λr h'=>r= .bool true/\∃o' c' G',RX h' bi a o' c' t G' (BS.FM fe.c fb.node an.node s')/\BO (BS.FM fe.c fb.node an.node s').A4 c'/\De h (own bi G) h' (own bi G'):=by
  unfold Ev;rw[Sj,t43];simp only[AB,Nat.reduceLeDiff,↓reduceIte,Bi,EB,l3,r1.call,eK,e1,ld,r2.call,cY,AP,r3.call,dO,r4.call,eN,show¬((k+1+N:Nat):Int)<0 by omega,e2,Tw,e3];simp only[AB,Nat.reduceLeDiff,↓reduceIte,AK,Bi,r7.call,r8.call,r9.call,tE];simp only[AB,↓reduceIte,Bi,EB,wm.call,XZ,w8.l0,r12.call];have wq:De h (own bi G) h8 (own bi G8):=(i.x.trans x7).trans x8;have hvl:=AM.Cp pK;refine Ei (i:=0) (λj:Nat=>[I (j:Int)]) (λj h9=>j<=(b3.a.nd fb.node).AY.length/\∃G9,RX h9 bi a o5 c5 t G9 {b3 with a:=BS.Ci b3.a nw.node ((b3.a.nd fb.node).AY.take j)}/\DG {b3 with a:=BS.Ci b3.a nw.node ((b3.a.nd fb.node).AY.take j)}/\BQ {b3 with a:=BS.Ci b3.a nw.node ((b3.a.nd fb.node).AY.take j)} (m+7)/\De h8 (own bi G8) h9 (own bi G9)) (λj=>(b3.a.nd fb.node).AY.length-j)
   (λj h9=>j=(b3.a.nd fb.node).AY.length/\∃G9,RX h9 bi a o5 c5 t G9 {b3 with a:=BS.Ci b3.a nw.node ((b3.a.nd fb.node).AY.take j)}/\DG {b3 with a:=BS.Ci b3.a nw.node ((b3.a.nd fb.node).AY.take j)}/\BQ {b3 with a:=BS.Ci b3.a nw.node ((b3.a.nd fb.node).AY.take j)} (m+7)/\De h8 (own bi G8) h9 (own bi G9)) 0 rfl ⟨AR _,G8,w8,dz,qx,.refl⟩ ?_ ?_
  .rintro j h9 ⟨hj,G9,w9,jU,pV,x9⟩;rcases AT j (b3.a.nd fb.node).AY.length with hlt|D1
   .have e9:=AM.Bz (k:= .i64) pK hlt;obtain⟨er,VQ,G10,cq,Ss,pW⟩:=w9.Zy jU pV nw.node (b3.a.nd fb.node).AY[j] 0;have hs:BS.Ci b3.a nw.node ((b3.a.nd fb.node).AY.take (j+1))=(BS.Ci b3.a nw.node ((b3.a.nd fb.node).AY.take j)).Fe nw.node (b3.a.nd fb.node).AY[j] 0:=by rw[Av hlt,PI]
    rw[Cb] at e9;simp only[AB,Bi,hvl,show(j:Int)<((b3.a.nd fb.node).AY.length:Int) by omega,w9.l0,e9,cq.call,BF (show j<9223372036854775807 by omega)];refine .next (j+1) rfl ⟨hlt,G10,by rw[hs];exact Ss,?_,?_,x9.trans pW⟩ (by omega)
    .have:=jU.Jm (OX (p:=nw.node) (n:=(b3.a.nd fb.node).AY[j]) (b:=0) jU.ok) Nd;rw[hs];exact this
    .have:=pV.Jm (IZ (p:=nw.node) (x:=(b3.a.nd fb.node).AY[j]) (bf:=0));rw[hs];exact this
   .simp only[AB,Bi,hvl,show¬(j:Int)<((b3.a.nd fb.node).AY.length:Int) by omega];exact .Hv j rfl ⟨by omega,G9,w9,jU,pV,x9⟩
  .rintro j h9 ⟨rfl,G9,w9,jU,pV,x9⟩;rw[Bu] at w9 jU pV;obtain⟨er,VQ,G10,cq,Ss,pW⟩:=w9.Zy jU pV fb.node nw.node 0;have qy:BO ({b3 with a:=(BS.Ci b3.a nw.node (b3.a.nd fb.node).AY).Fe fb.node nw.node 0}:BS).A4 c5:=by simp only;rw[L8];exact i.hc
   have hqa:=i.rm.A4;have wZ:EE fe.c.node b3.A4=(q:Int):=by rw[L8];exact sU
   have qz:=qy.ix (n:=0) (by simp only;rw[L8];omega) fe.c.node VQ;simp only at qz;rw[wZ] at qz;obtain⟨ZL,U7,r15,q_,tG,x11⟩:=de Ss qy (by simp only;rw[L8];omega) fe.c.node;simp only at q_ tG;rw[We wZ] at q_ tG;obtain⟨Sr,TJ⟩:∃Sr:Nat,Sr=if q<s'.2.2 then s'.2.2 -1 else s'.2.2:=⟨_,rfl⟩
   have fW:(A7 b3.A4 q).length=b3.A4.length-1:=Gm (by rw[L8];exact hq);have hal:b3.A4.length=s'.1.A4.length:=by rw[L8]
   obtain⟨u1,wv,rj,hcc12⟩:=tG.wi (by omega) (e:={fe.c with node:=nw.node}) fe.ok (by have:=Jn.2.1;simp only;omega) (Sr:Int) ZL;have l11:=q_.l3;have s12:=q_.st (k:=3) (v0:=U7) rfl hcc12;have w12:=q_.Kf (u:=u1) (l:=(A7 b3.A4 q).take (Ck Sr (A7 b3.A4 q).length)++{fe.c with node:=nw.node}::(A7 b3.A4 q).drop (Ck Sr (A7 b3.A4 q).length));have x12:=x11.trans (Be (bi:=bi) (G:=G10) (h:=ZL) (k:=3) (v:=u1));generalize put ZL bi 3 u1=h12 at*;have hob:=i.rm.AO;have uE:b3.AO.length=s'.1.AO.length:=by rw[ho3]
   have aHU:A6 h12 none (Pt bi 2)=some o5:=w12.ld 2;obtain⟨u2,t2,r17,Il⟩:=aLa (h:=h12) w12.o (by simp only;omega) fe.c.node;simp only at Il;have w13:=w12.HA (u:=t2);have s13:=w13.st (k:=2) (v0:=o5) rfl (AM.cells Il);have w14:=w13.Ia Il;have x14:=(x12.trans w12.CN).trans (Be (bi:=bi) (G:=G10) (h:=h12++t2) (k:=2) (v:=u2));generalize put (h12++t2) bi 2 u2=h14 at*;have eI:(CF fe.c.node b3.AO).length<=s'.1.AO.length:=by rw[<-ho3];exact Kb.length_le
   have aHV:A6 h14 none (Pt bi 2)=some u2:=w14.ld 2;have r18:=WU (h:=h14) Il (by omega) fb.node;have hli: -1<=AJ (Bm fb.node) (CF fe.c.node b3.AO)/\AJ (Bm fb.node) (CF fe.c.node b3.AO)<=(CF fe.c.node b3.AO).length:=by rcases CP (q:=Bm fb.node) (l:=CF fe.c.node b3.AO) with⟨h,_⟩|⟨n,h1,h2,_⟩<;>omega
   have add:=OT (a:=AJ (Bm fb.node) (CF fe.c.node b3.AO)) (b:=1) (by omega) (by omega);obtain⟨u3,r19,qp⟩:=f254 (h:=h14) Il (by omega) nw (AJ (Bm fb.node) (CF fe.c.node b3.AO)+1);have s15:=w14.st (k:=2) (v0:=u2) rfl (AM.cells qp);have w15:=w14.Ia qp;have x15:=x14.trans (Be (bi:=bi) (G:=G10) (h:=h14) (k:=2) (v:=u3));have hE:BS.FM fe.c fb.node an.node s'={b3 with a:=(BS.Ci b3.a nw.node (b3.a.nd fb.node).AY).Fe fb.node nw.node 0,A4:=(A7 b3.A4 q).take (Ck Sr (A7 b3.A4 q).length)++{fe.c with node:=nw.node}::(A7 b3.A4 q).drop (Ck Sr (A7 b3.A4 q).length),AO:=(CF fe.c.node b3.AO).take (En (AJ (Bm fb.node) (CF fe.c.node b3.AO)+1) (CF fe.c.node b3.AO).length)++nw::(CF fe.c.node b3.AO).drop (En (AJ (Bm fb.node) (CF fe.c.node b3.AO)+1) (CF fe.c.node b3.AO).length)}:=by
    unfold BS.FM;simp only
    rw[<-MJ,<-uH,<-hnw,wZ,AQ,<-TJ]
   have l10a:=Ss.l3;by_cases hqm:(q:Int)<(s'.2.2:Int);·have dm:=Hl (n:=s'.2.2) (by omega) (by omega);rw[if_pos (show q<s'.2.2 by omega)] at TJ;rw[<-TJ] at dm;simp only[AB,Nat.reduceLeDiff,↓reduceIte,AK,Bi,EB,w9.l0,cq.call,l10a,qz.call,hqm,AP,dm,r15.call,l11,tE];simp only[AB,wv.call,s12,aHU,r17.call,s13,aHV,r18.call,By,add,r19.call,s15];rw[hE];exact⟨_,rfl,rfl,u3,u1,G10,w15,rj,(wq.trans (x9.trans pW)).trans x15⟩
   .rw[if_neg (show¬q<s'.2.2 by omega)] at TJ;rw[TJ] at wv;simp only[AB,Nat.reduceLeDiff,↓reduceIte,AK,Bi,EB,w9.l0,cq.call,l10a,qz.call,hqm,AP,r15.call,l11,tE];simp only[AB,wv.call,s12,aHU,r17.call,s13,aHV,r18.call,By,add,r19.call,s15];rw[hE];exact⟨_,rfl,rfl,u3,u1,G10,w15,rj,(wq.trans (x9.trans pW)).trans x15⟩
 obtain⟨r,h',hr,rfl,o',c',G',w',JU,x'⟩:=Ik.ret;rw[e];exact⟨h',o',c',G',hr,w',JU,x'⟩
end
end Go.Am
end
section
namespace Go.Am
open Go
set_option maxRecDepth 100000
namespace BS
def EY(b:BS)(nm:Ap)(k:Nat):Option Int:=
 if nm=JZ then some (ID (b.AO.take k))
 else if nm=yJ then(if k=0 then some 7 else some 15)
 else if nm=yK then(if k=0 then some 7 else some 15)
 else if nm=wTr then some 14
 else if nm=Sc then some 13
 else if nm=Se then some 13
 else if nm=Sd then some 13
 else if nm=Rc then some 11
 else if nm=OZ then some 12
 else if nm=Ew then some 9
 else if nm=A5 then some (b.tm.getLast?.getD 7)
 else if nm=PE then(if k=0 then some 7 else some 4)
 else if nm=mC then some 7
 else if nm=O0 then some 20
 else if nm=Da then some (if b.head=0 then 3 else 6)
 else if k=0 then some 7 else none
end BS
section
variable{h h':Ad}{bi a:Nat}{o c t:Aa}{G G' F:Nat->Prop}{b:BS}{x:Int}{m:Nat}
theorem df{nd:Int}{nm:Ap}{pt:Bool}{k:Nat}:b.Gk ⟨nd,1,nm,pt⟩ k=b.EY nm k:=by
 unfold BS.Gk BS.EY;simp only[BK];by_cases n0:nm=JZ;·subst n0;cases k<;>rfl
 by_cases n1:nm=yJ;·subst n1;cases k<;>rfl
 by_cases n2:nm=yK;·subst n2;cases k<;>rfl
 by_cases n3:nm=wTr;·subst n3;cases k<;>rfl
 by_cases n4:nm=Sc;·subst n4;cases k<;>rfl
 by_cases n5:nm=Se;·subst n5;cases k<;>rfl
 by_cases n6:nm=Sd;·subst n6;cases k<;>rfl
 by_cases n7:nm=Rc;·subst n7;cases k<;>rfl
 by_cases n8:nm=OZ;·subst n8;cases k<;>rfl
 by_cases n9:nm=Ew;·subst n9;cases k<;>rfl
 by_cases ZB:nm=A5;·subst ZB;cases k<;>rfl
 by_cases eM:nm=PE;·subst eM;cases k<;>rfl
 by_cases qD:nm=mC;·subst qD;cases k<;>rfl
 by_cases uR:nm=O0;·subst uR;cases k<;>rfl
 by_cases sn:nm=Da;·subst sn;cases k<;>rfl
 have hf:(Iw.find? λr=>decide (r.1=nm))=none:=by
  rw[ZE];intro r hr;simp only[Iw,AL,Sy,or_false] at hr;rcases hr with rfl|rfl|rfl|rfl|rfl|rfl|rfl|rfl|rfl<;>simp only[DJ]<;>intro e
  .exact n3 e.symm
  .exact n4 e.symm
  .exact n5 e.symm
  .exact n6 e.symm
  .exact n7 e.symm
  .exact n8 e.symm
  .exact n9 e.symm
  .exact qD e.symm
  .exact uR e.symm
 rw[hf];simp only[n0,n1,n2,n3,n4,n5,n6,n7,n8,n9,ZB,eM,qD,uR,sn,D9,or_self,false_and]
theorem dg{i:Item}{k:Nat}(h:¬i.AZ=1):b.Gk i k=if k=0 then some 7 else none:=by unfold BS.Gk;rw[if_neg h]
theorem aHW(w:RX h bi a o c t G b)(rm:BQ b m){k:Nat}(hk:k<=b.AO.length):BI cx 265 [Pt bi 0,I (k:Int)] h (I (BS.ID (b.AO.take k))) h:=by
 have ho:=rm.AO;have ld:A6 h none (Pt bi 2)=some o:=w.ld 2;rw[Ab,o_,aFG];simp only[AB,CJ (show -9223372036854775808<=(k:Int)-1 by omega) (show(k:Int)-1<9223372036854775808 by omega)];refine Bb (λn:Nat=>[I 0,I ((n:Int)-1)]) (λn h1=>n<=k/\((b.AO.take k).reverse.find? λi=>Bp [A5] i||Bp [Ew] i)=((b.AO.take n).reverse.find? λi=>Bp [A5] i||Bp [Ew] i)/\h1=h) (λn=>n) k rfl ⟨Ac _,rfl,rfl⟩ ?_;rintro n h1 ⟨hn,ha,rfl⟩;cases n with
 |zero=>simp only[AB,↓reduceIte,Bi,show¬(0:Int)<=((0:Nat):Int)-1 by omega];unfold BS.ID;rw[ha];rfl
 |succ n=>
  have hlt:n<b.AO.length:=by omega
  have i1:((n+1:Nat):Int)-1=(n:Int):=by omega
  have e1:=AM.Bz (k:= .i64) w.o hlt;have em1:Aw (.Bx 1) [S A5]=some (.sl 1 ([A5].map CH)):=DE (ws:=[A5]) rfl (by decide);have sW:Aw (.Bx 1) [S Ew]=some (.sl 1 ([Ew].map CH)):=DE (ws:=[Ew]) rfl (by decide);have r2:=f167 (h:=h1) b.AO[n] (CQ (ws:=[A5])) (by decide);have r3:=f167 (h:=h1) b.AO[n] (CQ (ws:=[Ew])) (by decide);rw[Rj hlt,I1] at ha;generalize b.AO[n]=i at*;simp only[AB,Nat.reduceLeDiff,↓reduceIte,Bi,EB,i1,show(0:Int)<=(n:Int) by omega,ld,e1,em1,r2.call,sW,r3.call,CJ (show -9223372036854775808<=(n:Int)-1 by omega) (show(n:Int)-1<9223372036854775808 by omega)];rw[Cu];refine⟨λh2=>?_,λh2=>?_⟩;·simp only[h2,dk] at ha;unfold BS.ID;rw[ha];simp only[h2,BK]
  .simp only[h2,Ji] at ha;rw[Cu];refine⟨λh3=>?_,λh3=>?_⟩;·rw[h3] at ha;unfold BS.ID;rw[ha];simp only[h2,C1,D9]
   .rw[h3] at ha;exact AF.next n rfl ⟨by omega,ha,rfl⟩ (by omega)
set_option maxHeartbeats 1000000 in
theorem aHX(w:RX h bi a o c t G b)(rm:BQ b m)(i:Item){k:Nat}(hk:k<=b.AO.length):BI cx 197 [Pt bi 0,.agg i.row,I (k:Int),.bool (decide (k=0))] h (.tuple [I ((b.Gk i k).getD 7),.bool (b.Gk i k).isSome]) h:=by
 have htm:=rm.tm;have l6:=w.l6;have l7:=w.l7;have lt:=AM.Cp w.t;obtain⟨nd,sp,nm,pt⟩:=i;by_cases hs:sp=1;rotate_left
 .rw[dg (by exact hs),Ab,nO,aBc];by_cases k0:k=0;·simp only[AB,Bi,Item.row,hs,k0,D4,Ib,Option.isSome_some]
  .simp only[AB,Bi,Item.row,hs,k0,Fg,Option.getD_none,Option.isSome_none]
 subst hs;rw[df,Ab,nO,aBc];by_cases n0:nm=JZ
 .have e:b.EY nm k=some (BS.ID (b.AO.take k)):=by unfold BS.EY;rw[if_pos n0]
  rw[e];simp only[AB,IW,Item.row,AW n0,(aHW w rm hk).call]
 by_cases n1:nm=yJ
 .have e:b.EY nm k=(if k=0 then some 7 else some 15):=by unfold BS.EY;rw[if_neg n0,if_pos n1]
  rw[e];by_cases k0:k=0;·simp only[AB,Bi,IW,Item.row,n0,AW n1,k0]
  .simp only[AB,Bi,IW,Item.row,n0,AW n1,k0]
 by_cases n2:nm=yK
 .have e:b.EY nm k=(if k=0 then some 7 else some 15):=by unfold BS.EY;rw[if_neg n0,if_neg n1,if_pos n2]
  rw[e];by_cases k0:k=0;·simp only[AB,Bi,IW,Item.row,n0,n1,AW n2,k0]
  .simp only[AB,Bi,IW,Item.row,n0,n1,AW n2,k0]
 by_cases n3:nm=wTr
 .have e:b.EY nm k=some 14:=by unfold BS.EY;rw[if_neg n0,if_neg n1,if_neg n2,if_pos n3]
  rw[e];simp only[AB,IW,Item.row,n0,n1,n2,AW n3]
 by_cases n4:nm=Sc
 .have e:b.EY nm k=some 13:=by unfold BS.EY;rw[if_neg n0,if_neg n1,if_neg n2,if_neg n3,if_pos n4]
  rw[e];simp only[AB,IW,Item.row,n0,n1,n2,n3,AW n4]
 by_cases n5:nm=Se
 .have e:b.EY nm k=some 13:=by unfold BS.EY;rw[if_neg n0,if_neg n1,if_neg n2,if_neg n3,if_neg n4,if_pos n5]
  rw[e];simp only[AB,IW,Item.row,n0,n1,n2,n3,n4,AW n5]
 by_cases n6:nm=Sd
 .have e:b.EY nm k=some 13:=by unfold BS.EY;rw[if_neg n0,if_neg n1,if_neg n2,if_neg n3,if_neg n4,if_neg n5,if_pos n6]
  rw[e];simp only[AB,IW,Item.row,n0,n1,n2,n3,n4,n5,AW n6]
 by_cases n7:nm=Rc
 .have e:b.EY nm k=some 11:=by unfold BS.EY;rw[if_neg n0,if_neg n1,if_neg n2,if_neg n3,if_neg n4,if_neg n5,if_neg n6,if_pos n7]
  rw[e];simp only[AB,IW,Item.row,n0,n1,n2,n3,n4,n5,n6,AW n7]
 by_cases n8:nm=OZ
 .have e:b.EY nm k=some 12:=by unfold BS.EY;rw[if_neg n0,if_neg n1,if_neg n2,if_neg n3,if_neg n4,if_neg n5,if_neg n6,if_neg n7,if_pos n8]
  rw[e];simp only[AB,IW,Item.row,n0,n1,n2,n3,n4,n5,n6,n7,AW n8]
 by_cases n9:nm=Ew
 .have e:b.EY nm k=some 9:=by unfold BS.EY;rw[if_neg n0,if_neg n1,if_neg n2,if_neg n3,if_neg n4,if_neg n5,if_neg n6,if_neg n7,if_neg n8,if_pos n9]
  rw[e];simp only[AB,IW,Item.row,n0,n1,n2,n3,n4,n5,n6,n7,n8,AW n9]
 by_cases ZB:nm=A5
 .have e:b.EY nm k=some (b.tm.getLast?.getD 7):=by unfold BS.EY;rw[if_neg n0,if_neg n1,if_neg n2,if_neg n3,if_neg n4,if_neg n5,if_neg n6,if_neg n7,if_neg n8,if_neg n9,if_pos ZB]
  rw[e];by_cases ht:b.tm=[]
  .have lt0:Aw (.len false) [t]=some (I 0):=by rw[lt,ht];rfl
   simp only[AB,IW,Item.row,n0,n1,n2,n3,n4,n5,n6,n7,n8,n9,AW ZB,l6,lt0,ht,List.getLast?_nil]
  .have hpos:=FU.2 ht;have e1:=AM.Bz (k:= .i64) w.t (show b.tm.length-1<b.tm.length by omega);have e2:b.tm.getLast?.getD 7=b.tm[b.tm.length-1]:=by rw[eE,Ae (by omega)];rfl
   rw[Cb] at e1;simp only[AB,IW,Item.row,n0,n1,n2,n3,n4,n5,n6,n7,n8,n9,AW ZB,l6,lt,show(0:Int)<(b.tm.length:Int) by omega,Hl hpos (show b.tm.length<9223372036854775807 by omega),e1,e2]
 by_cases eM:nm=PE
 .have e:b.EY nm k=(if k=0 then some 7 else some 4):=by unfold BS.EY;rw[if_neg n0,if_neg n1,if_neg n2,if_neg n3,if_neg n4,if_neg n5,if_neg n6,if_neg n7,if_neg n8,if_neg n9,if_neg ZB,if_pos eM]
  rw[e];by_cases k0:k=0;·simp only[AB,Bi,IW,Item.row,n0,n1,n2,n3,n4,n5,n6,n7,n8,n9,ZB,AW eM,k0]
  .simp only[AB,Bi,IW,Item.row,n0,n1,n2,n3,n4,n5,n6,n7,n8,n9,ZB,AW eM,k0]
 by_cases qD:nm=mC
 .have e:b.EY nm k=some 7:=by unfold BS.EY;rw[if_neg n0,if_neg n1,if_neg n2,if_neg n3,if_neg n4,if_neg n5,if_neg n6,if_neg n7,if_neg n8,if_neg n9,if_neg ZB,if_neg eM,if_pos qD]
  rw[e];simp only[AB,IW,Item.row,n0,n1,n2,n3,n4,n5,n6,n7,n8,n9,ZB,eM,AW qD]
 by_cases uR:nm=O0
 .have e:b.EY nm k=some 20:=by unfold BS.EY;rw[if_neg n0,if_neg n1,if_neg n2,if_neg n3,if_neg n4,if_neg n5,if_neg n6,if_neg n7,if_neg n8,if_neg n9,if_neg ZB,if_neg eM,if_neg qD,if_pos uR]
  rw[e];simp only[AB,IW,Item.row,n0,n1,n2,n3,n4,n5,n6,n7,n8,n9,ZB,eM,qD,AW uR]
 by_cases sn:nm=Da
 .have e:b.EY nm k=some (if b.head=0 then 3 else 6):=by unfold BS.EY;rw[if_neg n0,if_neg n1,if_neg n2,if_neg n3,if_neg n4,if_neg n5,if_neg n6,if_neg n7,if_neg n8,if_neg n9,if_neg ZB,if_neg eM,if_neg qD,if_neg uR,if_pos sn]
  rw[e];by_cases hh:b.head=0;·simp only[AB,IW,Item.row,n0,n1,n2,n3,n4,n5,n6,n7,n8,n9,ZB,eM,qD,uR,AW sn,l7,hh]
  .simp only[AB,IW,Item.row,n0,n1,n2,n3,n4,n5,n6,n7,n8,n9,ZB,eM,qD,uR,AW sn,l7,hh]
 have e:b.EY nm k=if k=0 then some 7 else none:=by unfold BS.EY;rw[if_neg n0,if_neg n1,if_neg n2,if_neg n3,if_neg n4,if_neg n5,if_neg n6,if_neg n7,if_neg n8,if_neg n9,if_neg ZB,if_neg eM,if_neg qD,if_neg uR,if_neg sn]
 rw[e];by_cases k0:k=0;·simp only[AB,Bi,IW,Item.row,n0,n1,n2,n3,n4,n5,n6,n7,n8,n9,ZB,eM,qD,uR,sn,k0]
 .simp only[AB,Bi,IW,Item.row,n0,n1,n2,n3,n4,n5,n6,n7,n8,n9,ZB,eM,qD,uR,sn,k0]
theorem so(w:RX h bi a o c t G b)(rm:BQ b m):
  ∃h',BI cx 94 [Pt bi 0] h (.tuple []) h'/\RX h' bi a o c t G b.HN/\De h (own bi G) h' (own bi G):=by
 have ho:=rm.AO;have ld:A6 h none (Pt bi 2)=some o:=w.ld 2;have lo:=AM.Cp w.o;have Qr:=w.l9;have hlc:=w.sY;have Ik:Ev cx 94 [Pt bi 0] h λr h'=>r= .tuple []/\RX h' bi a o c t G b.HN/\De h (own bi G) h' (own bi G):=by
  unfold Ev;rw[aAA,t94];simp only[AB,ld,lo,CJ (show -9223372036854775808<=(b.AO.length:Int)-1 by omega) (show(b.AO.length:Int)-1<9223372036854775808 by omega)];have hst:∀v,Cv h 1 (Pt bi 4) (I v)=some (Am.put h bi 4 (I v)):=λv=>w.st (k:=4) rfl rfl;refine Bb (λn:Nat=>[I ((n:Int)-1)]) (λn h1=>n<=b.AO.length/\b.Kv b.AO.length=b.Kv n/\h1=h) (λn=>n) b.AO.length rfl ⟨Ac _,rfl,rfl⟩ ?_;rintro n h1 ⟨hn,ha,rfl⟩;cases n with
  |zero=>
   have e:b.HN={b with mode:=7}:=by unfold BS.HN;rw[ha];rfl
   simp only[AB,↓reduceIte,Bi,show¬(0:Int)<=((0:Nat):Int)-1 by omega,hst];exact⟨_,rfl,rfl,by rw[e];exact w.dH 7,Be⟩
  |succ n=>
   have hlt:n<b.AO.length:=by omega
   have i1:((n+1:Nat):Int)-1=(n:Int):=by omega
   have e1:=AM.Bz (k:= .i64) w.o hlt;have r3:=aHX w rm (b.D3 n) (k:=n) (by omega);have e:b.Kv (n+1)=match b.Gk (b.D3 n) n with|some m=>m|none=>b.Kv n:=rfl
   rw[e] at ha;have NI:=CJ (show -9223372036854775808<=(n:Int)-1 by omega) (show(n:Int)-1<9223372036854775808 by omega);have er1:∀(h0:n≠0\/b.Im=false),b.D3 n=b.AO[n]:=λh0=>by unfold BS.D3;rw[if_neg (by rintro⟨h1,h2⟩;rcases h0 with h0|h0;exact h0 h1;rw[h0] at h2;exact absurd h2 (by decide)),AE,Ae hlt];rfl
   have er2:n=0->b.Im=true->b.D3 n=b.ctx:=λh0 hf=>by unfold BS.D3;rw[if_pos ⟨h0,hf⟩]
   have Hv:∀v,b.Gk (b.D3 n) n=some v->RX (Am.put h1 bi 4 (I v)) bi a o c t G b.HN:=λv hm=>by
    rw[hm] at ha;have e:b.HN={b with mode:=v}:=by unfold BS.HN;rw[ha]
    rw[e];exact w.dH v
   have nxt:b.Gk (b.D3 n) n=none->b.Kv b.AO.length=b.Kv n:=λhm=>by rw[hm] at ha;exact ha
   generalize hx:b.AO[n]=x at*;by_cases h0:n=0
   .have WB:((n:Int)=0)=True:=AW (by omega);rw[Az h0] at r3;cases hf:b.Im with
    |true=>
     rw[er2 h0 hf] at r3 Hv nxt;rw[hf] at Qr;cases hm:b.Gk b.ctx n with
     |none=>rw[hm] at r3;simp only[AB,Nat.reduceLeDiff,↓reduceIte,EB,i1,show(0:Int)<=(n:Int) by omega,ld,e1,WB,Qr,hlc,r3.call,NI,IW];exact AF.next n rfl ⟨by omega,nxt hm,rfl⟩ (by omega)
     |some v=>rw[hm] at r3;simp only[AB,Nat.reduceLeDiff,↓reduceIte,EB,i1,show(0:Int)<=(n:Int) by omega,ld,e1,WB,Qr,hlc,r3.call,hst,IW];exact⟨_,rfl,rfl,Hv v hm,Be⟩
    |false=>
     rw[er1 (.inr hf)] at r3 Hv nxt;rw[hf] at Qr;cases hm:b.Gk x n with
     |none=>rw[hm] at r3;simp only[AB,Nat.reduceLeDiff,↓reduceIte,EB,i1,show(0:Int)<=(n:Int) by omega,ld,e1,WB,Qr,r3.call,NI,IW];exact AF.next n rfl ⟨by omega,nxt hm,rfl⟩ (by omega)
     |some v=>rw[hm] at r3;simp only[AB,Nat.reduceLeDiff,↓reduceIte,EB,i1,show(0:Int)<=(n:Int) by omega,ld,e1,WB,Qr,r3.call,hst,IW];exact⟨_,rfl,rfl,Hv v hm,Be⟩
   .have WB:¬(n:Int)=0:=by omega
    rw[AA h0] at r3;rw[er1 (.inl h0)] at r3 Hv nxt;cases hm:b.Gk x n with
    |none=>rw[hm] at r3;simp only[AB,Nat.reduceLeDiff,↓reduceIte,EB,i1,show(0:Int)<=(n:Int) by omega,ld,e1,WB,r3.call,NI,IW];exact AF.next n rfl ⟨by omega,nxt hm,rfl⟩ (by omega)
    |some v=>rw[hm] at r3;simp only[AB,Nat.reduceLeDiff,↓reduceIte,EB,i1,show(0:Int)<=(n:Int) by omega,ld,e1,WB,r3.call,hst,IW];exact⟨_,rfl,rfl,Hv v hm,Be⟩
 obtain⟨r,h',hr,rfl,w',x'⟩:=Ik.ret;exact⟨h',hr,w',x'⟩
theorem aMJ(w:RX h bi a o c t G b)(hc:BO b.A4 c)(rm:BQ b m):
  ∃h' o' c' t',BI cx 96 [Pt bi 0] h (.tuple []) h'/\RX h' bi a o' c' t' G b.C5/\BO b.C5.A4 c'/\De h (own bi G) h' (own bi G):=by
 have bF:AS=140737488355328:=rfl;have ho:=rm.AO;have Ry:=rm.A4;have htm:=rm.tm;have hin:∀i∈b.AO,i.name.length<9223372036854775807:=λi hi=>by have:=rm.Wn i hi;omega
 have ld:A6 h none (Pt bi 2)=some o:=w.ld 2;have r1:=aB0 (h:=h) w.o (by omega) A5;by_cases Ff:AJ (Bp [A5]) b.AO<0;·refine⟨h,o,c,t,?_,by unfold BS.C5;rw[if_pos Ff];exact w,by unfold BS.C5;rw[if_pos Ff];exact hc,.refl⟩;rw[Ab,jE,t96];simp only[AB,Bi,ld,r1.call,Ff]
 obtain⟨u1,t1,r2,NG⟩:=f165 (h:=h) w.o (by omega) hin [] true;have hst:Ee [] true=Cs:=by funext a;rfl
 rw[hst] at NG;have w0:=w.HA (u:=t1);have s1:=w0.st (k:=2) (v0:=o) rfl (AM.cells NG);have w1:=w0.Ia NG;have x1:=w.CN.trans (Be (bi:=bi) (G:=G) (h:=h++t1) (k:=2) (v:=u1));have l1:(Dr Cs CC b.AO).length<=b.AO.length:=OU;generalize put (h++t1) bi 2 u1=h1 at*;have uQ:A6 h1 none (Pt bi 2)=some u1:=w1.ld 2;obtain⟨u2,t2,r3,Il⟩:=f85 (h:=h1) NG (by omega) (CQ (ws:=[A5])) (by decide);rw[<-Nb] at Il;have w2':=w1.HA (u:=t2);have s2:=w2'.st (k:=2) (v0:=u1) rfl (AM.cells Il);have w2:=w2'.Ia Il;have x2:=(x1.trans w1.CN).trans (Be (bi:=bi) (G:=G) (h:=h1++t2) (k:=2) (v:=u2));generalize put (h1++t2) bi 2 u2=h2 at*;have l32:=w2.l3;obtain⟨fs,Gn,hcs⟩:=hc;have GG:fs.length=b.A4.length:=by rw[<-Gn,Ai]
 obtain⟨u3,r4,qp⟩:=f84 (h:=h2) hcs (by omega);have s3:=w2.st (k:=3) (v0:=c) rfl (AM.cells qp);have w3:=w2.Kf (u:=u3) (l:=Fz b.A4);have x3:=x2.trans (Be (bi:=bi) (G:=G) (h:=h2) (k:=3) (v:=u3));have L8:BO (Fz b.A4) u3:=⟨_,by rw[Ud,Gn],qp⟩;generalize put h2 bi 3 u3=h3 at*;have lt:=AM.Cp w.t;have l6:=w3.l6;have e:b.C5=BS.HN {b with AO:=Dr CC (Bp [A5]) (Dr Cs CC b.AO),A4:=Fz b.A4,tm:=b.tm.dropLast}:=by unfold BS.C5;rw[if_neg Ff]
 have sO:(Dr CC (Bp [A5]) (Dr Cs CC b.AO)).Sublist b.AO:=(EF (p:=CC) (q:=Bp [A5]) (l:=Dr Cs CC b.AO)).trans EF;by_cases h0:b.tm=[]
 .have w3':RX h3 bi a u2 u3 t G {b with AO:=Dr CC (Bp [A5]) (Dr Cs CC b.AO),A4:=Fz b.A4,tm:=b.tm.dropLast}:=by
   have:b.tm.dropLast=b.tm:=by rw[h0];rfl
   rw[this];exact w3
  obtain⟨h4,r5,w4,x4⟩:=so w3' (rm.sub (b':={b with AO:=Dr CC (Bp [A5]) (Dr Cs CC b.AO),A4:=Fz b.A4,tm:=b.tm.dropLast}) rfl sO (EV _ _) (by simp));refine⟨h4,u2,u3,t,?_,by rw[e];exact w4,by rw[e];exact L8,x3.trans x4⟩;have lt0:Aw (.len false) [t]=some (I 0):=by rw[lt,h0];rfl
  rw[Ab,jE,t96];simp only[AB,ld,r1.call,Ff,r2.call,s1,uQ,dI,r3.call,s2,l32,r4.call,s3,l6,lt0,r5.call,IW]
 .have hpos:=FU.2 h0;obtain⟨u4,e4,hu4⟩:=AM.K8 w.t (k:= .i64) (n:=b.tm.length-1) (by omega);rw[<-List.dropLast_eq_take] at hu4;obtain⟨u5,e5,hu5⟩:=AM.Gj (b:=8) hu4 (by simp;omega);have s5:=w3.st (k:=6) (v0:=t) rfl (AM.cells hu5);have w4:=w3.jQ hu5;obtain⟨h5,r6,w5,x5⟩:=so w4 (rm.sub (b':={b with AO:=Dr CC (Bp [A5]) (Dr Cs CC b.AO),A4:=Fz b.A4,tm:=b.tm.dropLast}) rfl sO (EV _ _) (by simp));refine⟨h5,u2,u3,u5,?_,by rw[e];exact w5,by rw[e];exact L8,(x3.trans Be).trans x5⟩;rw[Ab,jE,t96];simp only[AB,ld,r1.call,Ff,r2.call,s1,uQ,dI,r3.call,s2,l32,r4.call,s3,l6,lt,show(0:Int)<(b.tm.length:Int) by omega,Hl hpos (show b.tm.length<9223372036854775807 by omega),e4,e5,s5,r6.call,IW]
theorem aHY(w:RX h bi a o c t G b)(hc:BO b.A4 c)(ok:DG b)(rm:BQ b (m+8*(4*(b.AO.length+8)+10)))(hnm:Nm b.a)(nm:Ap):
  ∃h' o' c' G',BI cx 13 [Pt bi 0,.str nm] h (.tuple []) h'/\RX h' bi a o' c' t G' (b.FB nm)/\BO (b.FB nm).A4 c'/\De h (own bi G) h' (own bi G'):=by
 have ho:=rm.AO;have Ry:=rm.A4;have ld:A6 h none (Pt bi 2)=some o:=w.ld 2;have r1:=dV w rm;have em:Aw (.Bx 1) [.str nm]=some (.sl 1 ([nm].map CH)):=DE (ws:=[nm]) rfl (by simp);have r2:BI cx 40 [.agg (D7 b.AO).row,.sl 1 ([nm].map CH)] h (.bool (Bp [nm] (D7 b.AO))) h:=f167 (D7 b.AO) (CQ (ws:=[nm])) (by simp);have r3:=hc.ix (n:=0) (by omega) (D7 b.AO).node h;have hpa:b.Qd.A4=b.A4:=by unfold BS.Qd;split<;>rfl
 have l3:=w.l3;by_cases h1:Bp [nm] (D7 b.AO)=true/\EE (D7 b.AO).node b.A4<0
 .obtain⟨u,t1,r4,hu⟩:=aF6 (h:=h) w.o (by omega);have hcu:JJ b.AO ((b.AO.length:Int)-1)=b.Qd.AO:=by
   unfold BS.Qd;split;·unfold JJ;rw[Ay (by omega)]
   .unfold JJ;congr 1;omega
  rw[hcu] at hu;have w1:=w.HA (u:=t1);have w2:=w1.Ia hu;have e:b.FB nm=b.Qd:=by unfold BS.FB;rw[if_pos h1]
  have e2:({b with AO:=b.Qd.AO}:BS)=b.Qd:=by unfold BS.Qd;split<;>rfl
  rw[e2] at w2;rw[e];refine⟨_,u,c,G,?_,w2,by rw[hpa];exact hc,w.CN.trans Be⟩;rw[h1.1] at r2;rw[Ab,yR,t13];simp only[AB,Bi,EB,r1.call,em,r2.call,l3,By,r3.call,h1.2,ld,r4.call,w1.st (k:=2) (v0:=o) rfl (AM.cells hu)]
 have e:b.FB nm=BS.DL 8 b nm:=by unfold BS.FB;rw[if_neg h1]
 rw[e];have Ik:Ev cx 13 [Pt bi 0,.str nm] h λr h'=>r= .tuple []/\∃o' c' G',RX h' bi a o' c' t G' (BS.DL 8 b nm)/\BO (BS.DL 8 b nm).A4 c'/\De h (own bi G) h' (own bi G'):=by
  unfold Ev;rw[yR,t13];have Hv:∀(Q:Post) (k:EK->List Aa->IT),(∀x vs h1,(x= .exit 0\/x= .ret)->(∃o' c' G',RX h1 bi a o' c' t G' (BS.DL 8 b nm)/\BO (BS.DL 8 b nm).A4 c'/\De h (own bi G) h1 (own bi G'))->W cx (k x vs) Q h1)->
    W cx (.loop 3 [I 1] (λc17=> .op (.int .leq) [g c17 0,I 8] λv18=> .AH v18 (.call 43 [Pt bi 0,.str nm] λv19=> .op (.un .not) [v19] λv20=> .AH v20 (.ret .ret [g c17 0]) (.op (.int .add) [g c17 0,I 1] λv21=> .ret .normal [v21])) (.ret (.exit 0) [g c17 0])) k) Q h:=by
   intro Q k hk;refine Bb (λn:Nat=>[I ((9 -n:Nat):Int)]) (λn h1=>n<=8/\∃o1 c1 G1 b1,RX h1 bi a o1 c1 t G1 b1/\BO b1.A4 c1/\DG b1/\Nm b1.a/\BQ b1 (m+n*(4*(b.AO.length+8)+10))/\b1.AO.length<=b.AO.length+(8 -n)/\BS.DL 8 b nm=BS.DL n b1 nm/\De h (own bi G) h1 (own bi G1)) (λn=>n) 8 rfl ⟨Ac _,o,c,G,b,w,hc,ok,hnm,rm,by omega,rfl,.refl⟩ ?_;rintro n h1 ⟨hn,o1,c1,G1,b1,w1,O9,TG,nm1,jR,T3,e1,x1⟩;cases n with
   |zero=>simp only[AB,Bi,show¬((9 -0:Nat):Int)<=8 by decide];exact hk _ _ _ (.inl rfl) ⟨o1,c1,G1,by rw[e1];exact w1,by rw[e1];exact O9,x1⟩
   |succ n=>
    have hsp:(n+1)*(4*(b.AO.length+8)+10)=n*(4*(b.AO.length+8)+10)+(4*(b.AO.length+8)+10):=by rw[BB,Ey]
    rw[hsp] at jR;have tI:BQ b1 (m+n*(4*(b.AO.length+8)+10)+4*b1.AO.length+10):=jR.le (by omega);obtain⟨h2,o2,c2,G2,r5,w2,HH,x2⟩:=aHT w1 O9 TG tI nm1 nm;obtain⟨S9,Xv⟩:=Nn tI nm;have bt:=(VB (nm:=nm) TG).1;have nm2:=Nm.round (nm:=nm) nm1 tI;have hlt:((9 -(n+1):Nat):Int)<=8:=by omega
    have inc:Aw (.int .add) [I ((9 -(n+1):Nat):Int),I 1]=some (I ((9 -n:Nat):Int)):=by have:=BF (n:=9 -(n+1)) (by omega);rwa [show 9 -(n+1)+1=9 -n by omega] at this
    have er:BS.DL (n+1) b1 nm=if(b1.round nm).1 then BS.DL n (b1.round nm).2 nm else(b1.round nm).2:=rfl
    cases hr:(b1.round nm).1 with
    |true=>rw[hr] at r5 er;simp only[AB,Bi,hlt,r5.call,inc];exact AF.next n rfl ⟨by omega,o2,c2,G2,_,w2,HH,bt,nm2,S9,by omega,e1.trans er,x1.trans x2⟩ (by omega)
    |false=>rw[hr] at r5 er;simp only[AB,Bi,hlt,r5.call];exact hk _ _ _ (.inr rfl) ⟨o2,c2,G2,by rw[e1,er];exact w2,by rw[e1,er];exact HH,x1.trans x2⟩
  by_cases h2:Bp [nm] (D7 b.AO)=true
  .have h3:¬EE (D7 b.AO).node b.A4<0:=λh=>h1 ⟨h2,h⟩;rw[h2] at r2;simp only[AB,Bi,EB,r1.call,em,r2.call,l3,By,r3.call,h3];refine Hv _ _ ?_;rintro x vs h1 (rfl|rfl) ⟨o',c',G',a1,a2,a3⟩;·simp only[AB];exact⟨_,rfl,rfl,o',c',G',a1,a2,a3⟩
   .simp only[AB];exact⟨_,rfl,rfl,o',c',G',a1,a2,a3⟩
  .have h2:Bp [nm] (D7 b.AO)=false:=by simpa using h2
   rw[h2] at r2;simp only[AB,r1.call,em,r2.call];refine Hv _ _ ?_;rintro x vs h1 (rfl|rfl) ⟨o',c',G',a1,a2,a3⟩;·simp only[AB];exact⟨_,rfl,rfl,o',c',G',a1,a2,a3⟩
   .simp only[AB];exact⟨_,rfl,rfl,o',c',G',a1,a2,a3⟩
 obtain⟨r,h',hr,rfl,o',c',G',w',JU,x'⟩:=Ik.ret;exact⟨h',o',c',G',hr,w',JU,x'⟩
end
end Go.Am
end
section
namespace Go.Am
open Go
set_option maxRecDepth 100000
theorem tS{h:Ad}{fs:List B3}{v:Aa}(hv:CZ fs v)(hne:fs≠[])(hl:fs.length<=1000000000):Jv h 3 48 .slnil v=some (h++[.cells (fs.map B3.row).flatten],.Cl h.length 0 fs.length 3):=by have hm:AS=140737488355328:=rfl;have:=J8 (h:=h) (s:= .slnil) (z:=3) (b:=48) (.inl rfl) hv (by simpa using hne) (by rw[Ai];omega);rwa [Ai] at this
theorem kF{h:Ad}{v:Aa}(hv:CZ [] v):Jv h 3 48 .slnil v=some (h,.slnil):=Oj (.inl rfl) hv
section
variable{h h':Ad}{bi a:Nat}{o c t:Aa}{G G' F:Nat->Prop}{b:BS}{x:Int}{m:Nat}
theorem aHZ(w:RX h bi a o c t G b)(rm:BQ b m)(e:B3):BI cx 195 [Pt bi 0,.agg e.row] h (.bool (b.settled e.c)) h:=by
 have ho:=rm.AO;have ld:A6 h none (Pt bi 2)=some o:=w.ld 2;have r1:=WU (h:=h) w.o (by omega) e.c.node;unfold BS.settled;rw[Ab,nc,aFj,B3.row];by_cases h0:e.c.node=0;·simp only[AB,AW h0,ld,r1.call,true_or,D4]
 .simp only[AB,Bi,h0,ld,r1.call,false_or]
structure ZC(h:Ad)(bi a:Nat)(t c:Aa)(G0:Nat->Prop)(b:BS)(fs:List B3)(id m k:Nat)(h1:Ad):Prop where
 le:k<=fs.length
 low:b.Ka<=k
 ex:∃(o:Aa) (G:Nat->Prop) (b1:BS) (GX:List B3),RX h1 bi a o c t G b1/\DG b1/\Nm b1.a/\BQ b1 (m+4*(fs.length-k))/\h1[id]?=some (.cells (GX.map B3.row).flatten)/\GX.length=fs.length/\GX.drop k=fs.drop k/\
  BS.Dv b={(BS.Iv (b.A4.drop k) b1).2 with A4:=(GX.take k).map (·.c)++(BS.Iv (b.A4.drop k) b1).1}/\¬own bi G id/\De h (own bi G0) h1 (own bi G)
theorem ZC.init(w:RX h bi a o c t G b)(ok:DG b)(hnm:Nm b.a)(rm:BQ b (m+4*b.A4.length)){fs:List B3}(Gn:fs.map (·.c)=b.A4):
  ZC h bi a t c G b fs h.length m b.Ka (h++[.cells (fs.map B3.row).flatten]):=by
 have GG:b.A4.length=fs.length:=by rw[<-Gn,Ai]
 have hk:=Rl (b:=b);have hne:h.length≠bi:=Nat.ne_of_gt w.lt;refine⟨by omega,Ac _,o,G,b,fs,w.HA (u:=[.cells (fs.map B3.row).flatten]),ok,hnm,rm.le (by omega),?_,rfl,rfl,?_,?_,w.CN⟩;·simp
 .unfold BS.Dv;simp only;rw[HS,Gn]
 .rintro(rfl|hg);·exact hne rfl
  .exact absurd (w.w.lt hg) (Dd _)
theorem ZC.step{fs:List B3}{id k:Nat}{h1:Ad}(Gn:fs.map (·.c)=b.A4)(Jn:∀e∈b.A4,e.name.length<=1000/\DA e.Ax)(hi:h.length<=id)(hlt:k<fs.length)(i:ZC h bi a t c G b fs id m k h1):
  ∃(h2:Ad) (n:Int),A6 h1 none (Pt id (k*3+1))=some (.str fs[k].c.name)/\A6 h1 none (Pt id (k*3+2))=some fs[k].v/\BI cx 85 [Pt bi 0,.agg [I 2,.str fs[k].c.name,ff,S [],ff,S [],ff,ff,fs[k].v,ff,S [],.int .i32 0]] h1 (I n) h2/\
   Cv h2 1 (Pt id (k*3)) (I n)=some (Am.put h2 id (k*3) (I n))/\ZC h bi a t c G b fs id m (k+1) (Am.put h2 id (k*3) (I n)):=by
 obtain⟨o1,G1,b1,GX,w1,TG,nm1,jR,O9,T3,YS,tC,LV,x1⟩:=i.ex;have Qi:k<GX.length:=by omega
 have GG:b.A4.length=fs.length:=by rw[<-Gn,Ai]
 have cj:k<b.A4.length:=by omega
 have e1:GX[k]=fs[k]:=by have:=Cd (λl=>l[0]?) YS;simp only[Cz,Bn] at this;rw[Ae Qi,Ae hlt] at this;exact C8 this
 have eb:b.A4[k]=fs[k].c:=by simp only[<-Gn,CX]
 have hg:(GX.map B3.row)[k]?=some fs[k].row:=by rw[Cr,Ae Qi,e1];rfl
 have ld:∀j,j<3->A6 h1 none (Pt id (k*3+j))=fs[k].row[j]?:=λj hj=>by simp only[A6,O9,Et];exact Ke (Nc GX) hj hg
 have Jn:=Jn fs[k].c (by rw[<-eb];exact AI cj);have hr:Nj fs[k].c.name fs[k].v [I 2,.str fs[k].c.name,ff,S [],ff,S [],ff,ff,fs[k].v,ff,S [],.int .i32 0]:=⟨I 2,ff,S [],ff,S [],ff,ff,ff,S [],.int .i32 0,rfl⟩;obtain⟨h2,o2,G2,r2,w2,x2⟩:=si (m:=m+4*(fs.length-(k+1))) w1 TG (jR.le (by omega)) nm1 hr fs[k].ok Jn.2 Jn.1;have q8:id<h1.length:=(Ah.1 O9).1;have HH:h2[id]?=some (.cells (GX.map B3.row).flatten):=by rw[x2.old id q8 LV];exact O9
 have Rx:¬own bi G2 id:=λhg=>by
  rcases x2.own id hg with hg|hg
  .exact LV hg
  .omega
 have at2:At h2 id (k*3) (I fs[k].c.node):=⟨_,HH,by have:=Ke (k:=0) (Nc GX) (by decide) hg;rw[Bn] at this;rw[this];rfl⟩
 let e':B3:=⟨{fs[k].c with node:=b1.a.len+1},fs[k].v,fs[k].ok⟩
 have hrow:(GX.map B3.row).flatten.set (k*3) (I (b1.a.len+1))=((GX.set k e').map B3.row).flatten:=by have:=MA (Au:=GX.map B3.row) (i:=k) (k:=0) (v:= I (b1.a.len+1)) (Nc GX) (by simpa using Qi) (by decide);rw[Bn] at this;rw[Fh,BW,if_pos (by rw[Fb (Nc GX),Ai];omega)];rw[AD] at this;rw[show e'.row=((GX.map B3.row)[k]'(by simpa using Qi)).set 0 (I (b1.a.len+1)) by rw[CX,e1];rfl];exact this
 refine⟨h2,b1.a.len+1,ld 1 (by decide),ld 2 (by decide),r2,at2.store rfl,⟨hlt,by have:=i.low;omega,o2,G2,_,GX.set k e',w2.CW λj hj=>B4 λe=>Rx (e▸hj),Qe TG,nm1.L7 Jn.1,Ld (m:=m+4*(fs.length-(k+1))) (jR.le (by omega)) Jn.2 Jn.1,?_,by rw[Bj];exact T3,?_,?_,Rx,⟨by rw[IC];exact(x1.trans x2).len,λj hj hn=>(B4 (by omega)).trans ((x1.trans x2).old j hj hn),(x1.trans x2).own⟩⟩⟩;·rw[Hm HH,AN (by have:=x2.len;omega),hrow]
 .rw[List.drop_set_of_lt (tZ k)];have:=Cd (λl=>l.drop 1) YS;simpa[E5] using this
 .rw[tC,AG cj,eb,BS.Iv];simp only
  congr 1
  rw[Av (by rw[Bj];exact Qi),List.getElem_set_self,BH,aIp (Ac k),AD];rfl
theorem aML(w:RX h bi a o c t G b)(hc:BO b.A4 c)(ok:DG b)(rm:BQ b (m+4*b.A4.length))(hnm:Nm b.a):
  ∃h' o' c' G',BI cx 92 [Pt bi 0] h (.tuple []) h'/\RX h' bi a o' c' t G' b.Dv/\BO b.Dv.A4 c'/\De h (own bi G) h' (own bi G'):=by
 have ho:=rm.AO;have Ry:=rm.A4;obtain⟨fs,Gn,hcs⟩:=hc;have GG:b.A4.length=fs.length:=by rw[<-Gn,Ai]
 have Ik:Ev cx 92 [Pt bi 0] h λr h'=>r= .tuple []/\∃o' c' G',RX h' bi a o' c' t G' b.Dv/\BO b.Dv.A4 c'/\De h (own bi G) h' (own bi G'):=by
  unfold Ev;have l3:=w.l3;have lc:=AM.Cp hcs;rw[aAy,t92];simp only[AB,l3,lc];refine Ei (i:=0) (λn:Nat=>[I (n:Int)]) (λn h1=>n<=fs.length/\AJ b.settled b.A4=AJ b.settled (b.A4.take n)/\h1=h) (λn=>n) (λn h1=>n=b.Ka/\h1=h) fs.length rfl ⟨Ac _,by rw[<-GG,Bu],rfl⟩ ?_ ?_
  .rintro n h1 ⟨hn,ha,rfl⟩;cases n with
   |zero=>simp only[AB,Bi,show¬(0:Int)<((0:Nat):Int) by decide];refine .Hv 0 rfl ⟨?_,rfl⟩;unfold BS.Ka;rw[ha];rfl
   |succ n=>
    have hlt:n<b.A4.length:=by omega
    have Rg:n<fs.length:=by omega
    rw[F8 hlt] at ha;have i1:=Hl (n:=n+1) (show 0<n+1 by omega) (show n+1<9223372036854775807 by omega);rw[GF] at i1;have e1:=AM.Bz (k:= .i64) hcs Rg;have en:fs[n].c=b.A4[n]:=by simp only[<-Gn,CX]
    have r1:=aHZ w rm fs[n];rw[en] at r1;have ZK:fs[n].row.length=3:=rfl;have ht3:fs[n].row.take 3=fs[n].row:=rfl;simp only[AB,↓reduceIte,Bi,show(0:Int)<((n+1:Nat):Int) by omega,l3,i1,e1,ZK,ht3,Ac,r1.call];cases hs:b.settled b.A4[n] with
    |true=>rw[hs,if_pos rfl] at ha;simp only[AB,Bi];exact .Hv (n+1) rfl ⟨by unfold BS.Ka;rw[ha];omega,rfl⟩
    |false=>rw[hs,if_neg (by decide)] at ha;simp only[AB,Bi];exact .next n rfl ⟨by omega,ha,rfl⟩ (by omega)
  .rintro n h1 ⟨rfl,eh⟩;rw[eh];by_cases hne:fs=[]
   .subst hne;have ha:b.A4=[]:=Gn.symm;have hK:b.Ka=0:=by have:=Rl (b:=b);rw[ha] at this;exact Nat.le_zero.1 this
    have hb:b.Dv=b:=by unfold BS.Dv;rw[ha];simp only[List.drop_nil,BS.Iv,List.take_nil,BG];rw[<-ha]
    have g0:=kF (h:=h) hcs;have s1:=w.st (k:=3) (v:= .slnil) (v0:=c) rfl rfl;have w1:RX (put h bi 3 .slnil) bi a o .slnil t G b:=w.Kf (l:=b.A4);have e1:=Ox w1.pL (pS (l:=[]) (.inr ⟨rfl,rfl⟩)) rfl;have hz:(b.Ka:Int)=((0:Nat):Int):=by rw[hK]
    simp only[AB,↓reduceIte,l3,g0];refine Ei (i:=2) (λn:Nat=>[I (n:Int)]) (λn h1=>n=0/\h1=h) (λn=>n) (λn h1=>n=0/\h1=h) 0 (by rw[hz]) ⟨rfl,rfl⟩ ?_ ?_;·rintro n h1 ⟨rfl,rfl⟩;simp only[AB,Nat.reduceLeDiff,↓reduceIte,AK,Bi,show Aw (.len false) [.slnil]=some (I 0) from rfl,show¬((0:Nat):Int)<0 by decide];exact .Hv 0 rfl ⟨rfl,rfl⟩
    .rintro n h1 ⟨rfl,rfl⟩;simp only[AB,↓reduceIte,s1,e1];refine⟨_,rfl,rfl,o,.slnil,G,?_,⟨[],by rw[hb,ha];rfl,.inr ⟨rfl,rfl⟩⟩,Be.trans Be⟩;rw[hb];exact w1.Kf (l:=b.A4)
   .have i0:=ZC.init (m:=m) w ok hnm rm Gn;have g1:=tS (h:=h) hcs hne (by omega);have lm:Aw (.len false) [.Cl h.length 0 fs.length 3]=some (I (fs.length:Int)):=rfl;simp only[AB,↓reduceIte,l3,g1];refine Ei (i:=2) (λn:Nat=>[I (n:Int)]) (λk h1=>ZC h bi a t c G b fs h.length m k h1) (λk=>fs.length-k) (λk h1=>k=fs.length/\ZC h bi a t c G b fs h.length m k h1) b.Ka rfl i0 ?_ ?_
    .intro k h1 i;have DV:=i.le;rcases AT k fs.length with hlt|D1
     .obtain⟨h2,n,s1,s2,s3,s4,s5⟩:=ZC.step Gn rm.Dk (Ac _) hlt i;have e1:Aw (.Fj 3) [.Cl h.length 0 fs.length 3,I (k:Int)]=some (Pt h.length (k*3)):=EX hlt;have tE:fs[k].v.cells=[fs[k].v]:=AM.cells fs[k].ok;simp only[AB,Nat.reduceLeDiff,↓reduceIte,AK,Bi,lm,show(k:Int)<(fs.length:Int) by omega,e1,s1,s2,tE,s3.call,s4,BF (show k<9223372036854775807 by omega)];exact .next (k+1) rfl s5 (by omega)
     .simp only[AB,Nat.reduceLeDiff,↓reduceIte,AK,Bi,lm,show¬(k:Int)<(fs.length:Int) by omega];exact .Hv k rfl ⟨by omega,i⟩
    .rintro k h1 ⟨rfl,i⟩;obtain⟨o1,G1,b1,GX,w1,TG,nm1,jR,O9,T3,YS,tC,LV,x1⟩:=i.ex;have hnb:h.length≠bi:=λe=>LV (.inl e);have s1:=w1.st (k:=3) (v:= .Cl h.length 0 fs.length 3) (v0:=c) rfl rfl;have w2:=w1.Kf (u:= .Cl h.length 0 fs.length 3) (l:=b1.A4);have HH:(put h1 bi 3 (.Cl h.length 0 fs.length 3))[h.length]?=_:=(B4 hnb).trans O9;have hf:=JH (Nc GX) HH;rw[Ai,T3] at hf;have e1:=Ox w2.pL hf (by rw[Aj hnb]);have w3:RX ((put h1 bi 3 (.Cl h.length 0 fs.length 3)).set h.length .CG) bi a o1 _ t G1 {b1 with A4:=b1.A4}:=w2.CW λj hj=>Aj λe=>LV (by rw[e];exact hj);simp only[AB,↓reduceIte,s1,e1];have hb:b.Dv={b1 with A4:=GX.map (·.c)}:=by rw[tC,A3 (by omega),Ay (by omega)];simp only[BS.Iv,BC]
     refine⟨_,rfl,rfl,o1,_,G1,by rw[hb];exact w3.Kf,⟨GX,by rw[hb],.mk⟩,?_⟩;have x2:=x1.trans (Be (bi:=bi) (G:=G1) (k:=3) (v:= .Cl h.length 0 fs.length 3));refine De.trans ⟨by rw[Bj];exact x2.len,λj hj hn=>?_,x2.own⟩ Be;rw[Aj (by omega)];exact x2.old j hj hn
 obtain⟨r,h',hr,rfl,o',c',G',w',JU,x'⟩:=Ik.ret;exact⟨h',o',c',G',hr,w',JU,x'⟩
end
section
variable{h h':Ad}{bi a:Nat}{o c t:Aa}{G G' F:Nat->Prop}{b:BS}{x:Int}{m j:Nat}{q:ZP}
variable{nm:Ap}{av:Aa}{l:List AU}{r:List Aa}{sp p:Int}
set_option maxHeartbeats 4000000 in
theorem aMM(w:RX h bi a o c t G b)(hc:BO b.A4 c)(ok:DG b)(sz:Sz b (j+1))(hnm:Nm b.a)(hq:uO q)(hv:Bw q.Ax av):
  ∃h' o' c' t' G',BI cx 31 [Pt bi 0,.agg (Kx q av)] h (.agg (TK b q).2.row) h'/\RX h' bi a o' c' t' G' (TK b q).1/\BO (TK b q).1.A4 c'/\De h (own bi G) h' (own bi G'):=by
 unfold TK Kx;by_cases k1:q.k=1;·rw[if_pos k1];dsimp only;obtain⟨r,jX,r1,hr,Du⟩:=TL (q:=q) hv hq.Ax.1 h;rw[Kx] at r1;obtain⟨h',o',G',r2,w',x'⟩:=si (m:=5000000*j) w ok sz.V5 hnm hr Du hq.Ax hq.name;refine⟨h',o',c,t,G',?_,w',by rw[FC];exact hc,x'⟩;rw[Ab,E2,S7];simp only[AB,Nat.reduceLeDiff,↓reduceIte,AK,Bi,AW k1,r1.call,r2.call];try rfl
 rw[if_neg k1];by_cases k2:q.k=2;·rw[if_pos k2];dsimp only;obtain⟨r,jX,r1,hr,Du⟩:=TL (q:=q) hv hq.Ax.1 h;rw[Kx] at r1;obtain⟨h',o',G',r2,w',x'⟩:=aHL (m:=5000000*j) w ok sz.V5 hnm hr Du hq.Ax hq.name q.AZ;refine⟨h',o',c,t,G',?_,w',by rw[FC];exact hc,x'⟩;rw[Ab,E2,S7];simp only[AB,Nat.reduceLeDiff,↓reduceIte,AK,Bi,k1,AW k2,r1.call,r2.call];try rfl
 rw[if_neg k2];by_cases k3:q.k=3;·rw[if_pos k3];dsimp only;obtain⟨r,jX,r1,hr,Du⟩:=TL (q:=q) hv hq.Ax.1 h;rw[Kx] at r1;obtain⟨h',o',c',G',r2,w',JU,x'⟩:=aME (m:=5000000*j) w hc ok sz.V5 hnm hr Du hq.Ax hq.name;refine⟨h',o',c',t,G',?_,w',JU,x'⟩;rw[Ab,E2,S7];simp only[AB,Nat.reduceLeDiff,↓reduceIte,AK,Bi,k1,k2,AW k3,r1.call,r2.call];try rfl
 rw[if_neg k3];by_cases k4:q.k=4;·rw[if_pos k4];dsimp only;obtain⟨h',G',r2,w',x'⟩:=aMF (m:=5000000*j) w ok sz.V5 hnm q.r;refine⟨h',o,c,t,G',?_,w',hc,x'⟩;rw[Ab,E2,S7];simp only[AB,↓reduceIte,AK,Bi,k1,k2,k3,AW k4,r2.call];try rfl
 rw[if_neg k4];by_cases k5:q.k=5;·rw[if_pos k5];dsimp only;obtain⟨h',G',r2,w',x'⟩:=aMG (m:=5000000*j) w ok sz.V5 hnm q.s (by have:=hq.s;omega) q.a;refine⟨h',o,c,t,G',?_,w',hc,x'⟩;rw[Ab,E2,S7];simp only[AB,↓reduceIte,AK,Bi,k1,k2,k3,k4,AW k5,r2.call];try rfl
 rw[if_neg k5];by_cases k6:q.k=6;·rw[if_pos k6];dsimp only;obtain⟨r,jX,r1,hr,Du⟩:=TL (q:=q) hv hq.Ax.1 h;rw[Kx] at r1;obtain⟨h',o',G',r2,w',x'⟩:=aMC (m:=5000000*j) w ok sz.V5 hnm hr Du hq.Ax hq.name q.n;refine⟨h',o',c,t,G',?_,w',by show BO (b.Ex q.name q.Ax 1).A4 c;rw[FC];exact hc,x'⟩;rw[Ab,E2,S7];simp only[AB,↓reduceIte,AK,Bi,k1,k2,k3,k4,k5,AW k6,r1.call,r2.call];try rfl
 rw[if_neg k6];by_cases k7:q.k=7;·rw[if_pos k7];dsimp only;obtain⟨h',o',r2,w',x'⟩:=aMB w sz.rm;refine⟨h',o',c,t,G,?_,w',by have e:b.IL.A4=b.A4:=(by unfold BS.IL;split<;>rfl);rw[e];exact hc,x'⟩;rw[Ab,E2,S7];simp only[AB,↓reduceIte,AK,Bi,k1,k2,k3,k4,k5,k6,AW k7,r2.call];try rfl
 rw[if_neg k7];by_cases k8:q.k=8;·rw[if_pos k8];dsimp only;obtain⟨h',o',c',G',r2,w',JU,x'⟩:=aML (m:=5000000*j) w hc ok (sz.rm.le (by have:=sz.A4;omega)) hnm;refine⟨h',o',c',t,G',?_,w',JU,x'⟩;rw[Ab,E2,S7];simp only[AB,↓reduceIte,AK,Bi,k1,k2,k3,k4,k5,k6,k7,AW k8,r2.call];try rfl
 rw[if_neg k8];by_cases k9:q.k=9;·rw[if_pos k9];dsimp only;obtain⟨h',o',r2,w',x'⟩:=aHM w sz.rm q.name;refine⟨h',o',c,t,G,?_,w',by have e:(b.C0 q.name).A4=b.A4:=(by unfold BS.C0;split;split<;>rfl;rfl);rw[e];exact hc,x'⟩;rw[Ab,E2,S7];simp only[AB,↓reduceIte,AK,Bi,k1,k2,k3,k4,k5,k6,k7,k8,AW k9,r2.call];try rfl
 rw[if_neg k9];by_cases NM:q.k=10;·rw[if_pos NM];dsimp only;obtain⟨h',o',c',G',r2,w',JU,x'⟩:=aHY (m:=5000000*j) w hc ok (sz.rm.le (by have:=sz.AO;omega)) hnm q.name;refine⟨h',o',c',t,G',?_,w',JU,x'⟩;rw[Ab,E2,S7];simp only[AB,↓reduceIte,AK,Bi,k1,k2,k3,k4,k5,k6,k7,k8,k9,AW NM,r2.call];try rfl
 rw[if_neg NM];by_cases OA:q.k=11;·rw[if_pos OA];dsimp only;obtain⟨h',r2,w',x'⟩:=so w sz.rm;refine⟨h',o,c,t,G,?_,w',hc,x'⟩;rw[Ab,E2,S7];simp only[AB,↓reduceIte,AK,Bi,k1,k2,k3,k4,k5,k6,k7,k8,k9,NM,AW OA,r2.call];try rfl
 rw[if_neg OA];by_cases Pd:q.k=12;·rw[if_pos Pd];dsimp only;obtain⟨r,jX,r1,hr,Du⟩:=TL (q:=q) hv hq.Ax.1 h;rw[Kx] at r1;obtain⟨h',G',r2,w',x'⟩:=aMA (m:=5000000*j) w ok sz.V5 hr Du hq.Ax q.a;refine⟨h',o,c,t,G',?_,w',by have e:(b.GB q.Ax q.a).A4=b.A4:=(by unfold BS.GB;split<;>rfl);rw[e];exact hc,x'⟩;rw[Ab,E2,S7];simp only[AB,↓reduceIte,AK,Bi,k1,k2,k3,k4,k5,k6,k7,k8,k9,NM,OA,AW Pd,r1.call,r2.call];try rfl
 rw[if_neg Pd];by_cases Qj:q.k=13;·rw[if_pos Qj];dsimp only;obtain⟨h',o',c',t',r2,w',JU,x'⟩:=aMJ w hc sz.rm;refine⟨h',o',c',t',G,?_,w',JU,x'⟩;rw[Ab,E2,S7];simp only[AB,↓reduceIte,AK,Bi,k1,k2,k3,k4,k5,k6,k7,k8,k9,NM,OA,Pd,AW Qj,r2.call];try rfl
 rw[if_neg Qj];by_cases Pe:q.k=14;·rw[if_pos Pe];dsimp only;obtain⟨h',r2,w',x'⟩:=aMz w;refine⟨h',o,c,t,G,?_,w',hc,x'⟩;rw[Ab,E2,S7];simp only[AB,↓reduceIte,AK,Bi,k1,k2,k3,k4,k5,k6,k7,k8,k9,NM,OA,Pd,Qj,AW Pe,r2.call];try rfl
 rw[if_neg Pe];by_cases Qk:q.k=15;·rw[if_pos Qk];dsimp only;have w':RX (put h bi 15 (.bool q.b)) bi a o c t G {b with Eh:=q.b}:=w.put rfl rfl w.o w.t;refine⟨put h bi 15 (.bool q.b),o,c,t,G,?_,w',hc,Be⟩;rw[Ab,E2,S7];simp only[AB,↓reduceIte,AK,Bi,k1,k2,k3,k4,k5,k6,k7,k8,k9,NM,OA,Pd,Qj,Pe,AW Qk,w.st (k:=15) (v:= .bool q.b) rfl rfl];try rfl
 rw[if_neg Qk];by_cases Rp:q.k=16;·rw[if_pos Rp];dsimp only;have htm:=sz.rm.tm;have bF:AS=140737488355328:=rfl;obtain⟨u,e1,hu⟩:=AM.Gj (b:=8) w.t (by omega);have e2:=AM.Jb (b:=8) (a:=q.n) hu (by omega);have em:Aw (.Bx 1) [I q.n]=some (.sl 1 [Cb q.n]):=rfl;have Il:Dg (b.tm++[q.n]) (.sl 1 ((b.tm++[q.n]).map Cb)):= .mk;have w':=w.jQ Il;refine⟨put h bi 6 (.sl 1 ((b.tm++[q.n]).map Cb)),o,c,_,G,?_,w',hc,Be⟩;rw[Ab,E2,S7];simp only[AB,↓reduceIte,AK,Bi,k1,k2,k3,k4,k5,k6,k7,k8,k9,NM,OA,Pd,Qj,Pe,Qk,AW Rp,w.l6,e1,em,e2,w.st (k:=6) (v0:=t) rfl (AM.cells Il)];try rfl
 rw[if_neg Rp];by_cases Su:q.k=17
 .rw[if_pos Su];dsimp only;have Ry:=sz.rm.A4;obtain⟨u,r2,JU,huc⟩:=hc.wi (by omega) (e:=Cc.zero) (v:= .slnil) (.inr ⟨rfl,rfl⟩) (by decide) (b.A4.length:Int) h;rw[Td (Ac _),Bu,Fm] at JU;have w':=w.Kf (u:=u) (l:=b.A4++[Cc.zero]);have lc:Aw (.len false) [c]=some (I (b.A4.length:Int)):=by obtain⟨fs,Gn,UI⟩:=hc;rw[AM.Cp UI,<-Gn,Ai]
  have r2':BI cx 98 [c,.agg [I 0,S [],.slnil],I (b.A4.length:Int)] h u h:=r2;refine⟨put h bi 3 u,o,u,t,G,?_,w',JU,Be⟩;rw[Ab,E2,S7];simp only[AB,↓reduceIte,AK,Bi,k1,k2,k3,k4,k5,k6,k7,k8,k9,NM,OA,Pd,Qj,Pe,Qk,Rp,AW Su,w.l3,lc,r2'.call,w.st (k:=3) (v0:=c) rfl huc];try rfl
 rw[if_neg Su];by_cases TM:q.k=18;·rw[if_pos TM];dsimp only;obtain⟨h',o',r2,w',x'⟩:=aMD w sz.rm;refine⟨h',o',c,t,G,?_,w',by have e:b.Qd.A4=b.A4:=(by unfold BS.Qd;split<;>rfl);rw[e];exact hc,x'⟩;rw[Ab,E2,S7];simp only[AB,↓reduceIte,AK,Bi,EB,k1,k2,k3,k4,k5,k6,k7,k8,k9,NM,OA,Pd,Qj,Pe,Qk,Rp,Su,AW TM,r2.call];try rfl
 rw[if_neg TM];by_cases V6:q.k=19;·rw[if_pos V6];dsimp only;have w':RX (put h bi 7 (I q.a)) bi a o c t G {b with head:=q.a}:=w.put rfl rfl w.o w.t;refine⟨put h bi 7 (I q.a),o,c,t,G,?_,w',hc,Be⟩;rw[Ab,E2,S7];simp only[AB,↓reduceIte,AK,Bi,k1,k2,k3,k4,k5,k6,k7,k8,k9,NM,OA,Pd,Qj,Pe,Qk,Rp,Su,TM,AW V6,w.st (k:=7) (v:= I q.a) rfl rfl];try rfl
 rw[if_neg V6];by_cases dS:q.k=20;·rw[if_pos dS];dsimp only;have w':=w.dH q.n;refine⟨put h bi 4 (I q.n),o,c,t,G,?_,w',hc,Be⟩;rw[Ab,E2,S7];simp only[AB,↓reduceIte,AK,Bi,k1,k2,k3,k4,k5,k6,k7,k8,k9,NM,OA,Pd,Qj,Pe,Qk,Rp,Su,TM,V6,AW dS,w.st (k:=4) (v:= I q.n) rfl rfl];try rfl
 rw[if_neg dS];by_cases jY:q.k=21;·rw[if_pos jY];dsimp only;have Ry:=sz.rm.A4;obtain⟨fs,Gn,UI⟩:=hc;obtain⟨u,r2,hu⟩:=f84 (h:=h) UI (by rw[<-Gn,Ai] at Ry;omega);have w':=w.Kf (u:=u) (l:=Fz b.A4);have JU:BO (Fz b.A4) u:=⟨_,by rw[Ud,Gn],hu⟩;refine⟨put h bi 3 u,o,u,t,G,?_,w',JU,Be⟩;rw[Ab,E2,S7];simp only[AB,↓reduceIte,AK,Bi,k1,k2,k3,k4,k5,k6,k7,k8,k9,NM,OA,Pd,Qj,Pe,Qk,Rp,Su,TM,V6,dS,AW jY,w.l3,r2.call,w.st (k:=3) (v0:=c) rfl (AM.cells hu)];try rfl
 rw[if_neg jY];by_cases tK:q.k=22;·rw[if_pos tK];dsimp only;have ho:=sz.rm.AO;have ld:A6 h none (Pt bi 2)=some o:=w.ld 2;have em:Aw (.Bx 1) [.str q.name]=some (.sl 1 ([q.name].map CH)):=DE (ws:=[q.name]) rfl (by simp);obtain⟨u,t1,r2,hu⟩:=f85 (h:=h) w.o (by omega) (CQ (ws:=[q.name])) (by simp);rw[<-Nb] at hu;have w1:=w.HA (u:=t1);have w':=w1.Ia hu;refine⟨put (h++t1) bi 2 u,u,c,t,G,?_,w',hc,w.CN.trans Be⟩;rw[Ab,E2,S7];simp only[AB,↓reduceIte,AK,Bi,k1,k2,k3,k4,k5,k6,k7,k8,k9,NM,OA,Pd,Qj,Pe,Qk,Rp,Su,TM,V6,dS,jY,AW tK,ld,em,r2.call,w1.st (k:=2) (v0:=o) rfl (AM.cells hu)];try rfl
 rw[if_neg tK];by_cases cr:q.k=23;·rw[if_pos cr];dsimp only;have w':RX (put h bi 8 (I q.a)) bi a o c t G {b with L0:=q.a}:=w.put rfl rfl w.o w.t;refine⟨put h bi 8 (I q.a),o,c,t,G,?_,w',hc,Be⟩;rw[Ab,E2,S7];simp only[AB,↓reduceIte,AK,Bi,k1,k2,k3,k4,k5,k6,k7,k8,k9,NM,OA,Pd,Qj,Pe,Qk,Rp,Su,TM,V6,dS,jY,tK,AW cr,w.st (k:=8) (v:= I q.a) rfl rfl];try rfl
 rw[if_neg cr];by_cases rq:q.k=24;·rw[if_pos rq];dsimp only;obtain⟨r,jX,r1,hr,Du⟩:=TL (q:=q) hv hq.Ax.1 h;rw[Kx] at r1;obtain⟨h',G',r2,w',x'⟩:=sg (m:=5000000*j) w ok sz.V5 hnm hr Du hq.Ax hq.name q.a q.AZ;refine⟨h',o,c,t,G',?_,w',by have e:(b.D8 q.name q.Ax q.AZ q.a).A4=b.A4:=(by unfold BS.D8;split<;>rfl);rw[e];exact hc,x'⟩;rw[Ab,E2,S7];simp only[AB,↓reduceIte,AK,Bi,EB,k1,k2,k3,k4,k5,k6,k7,k8,k9,NM,OA,Pd,Qj,Pe,Qk,Rp,Su,TM,V6,dS,jY,tK,cr,AW rq,r1.call,r2.call];try rfl
 rw[if_neg rq];refine⟨h,o,c,t,G,?_,w,hc,.refl⟩;rw[Ab,E2,S7];simp only[AB,↓reduceIte,AK,Bi,k1,k2,k3,k4,k5,k6,k7,k8,k9,NM,OA,Pd,Qj,Pe,Qk,Rp,Su,TM,V6,dS,jY,tK,cr,rq];try rfl
end
section
variable{h h':Ad}{bi a:Nat}{o c t:Aa}{G G' F:Nat->Prop}{b:BS}{x:Int}{m j:Nat}{q:ZP}
variable{nm:Ap}{av:Aa}{l:List AU}{r:List Aa}{sp p:Int}
theorem kG(h:Ad):T0 h []=some (h++[.CG,.cells RN.z.row,.cells [I 0],.cells [.Cl (h.length+1) 0 1 13,.Cl (h.length+2) 0 1 1]],.ptr (some (h.length+3,0))):=by unfold T0;simp only[AD,CB,BG];rfl
theorem aMN(h:Ad):BI cx 67 [] h (.ptr (some (h.length+3,0))) (h++[.CG,.cells RN.z.row,.cells [I 0],.cells [.Cl (h.length+1) 0 1 13,.Cl (h.length+2) 0 1 1]]):=by have e1:Ep (.PK T0) h []=some (h++[.CG,.cells RN.z.row,.cells [I 0],.cells [.Cl (h.length+1) 0 1 13,.Cl (h.length+2) 0 1 1]],.ptr (some (h.length+3,0))):=kG h;rw[Ab,show B5 cx 67 []=T1 [] from rfl,T1];simp only[AB,e1]
theorem sq(h:Ad):RA (h++[.CG,.cells RN.z.row,.cells [I 0],.cells [.Cl (h.length+1) 0 1 13,.Cl (h.length+2) 0 1 1]]) (h.length+3) (h.length+1) (h.length+2) [] ⟨[],[]⟩:=by
 refine⟨rfl,rfl,?_,?_,?_,by omega,by omega,by omega⟩;·rw[Bg (by omega),show h.length+3 -h.length=3 by omega];rfl
 .rw[Bg (by omega),show h.length+1 -h.length=1 by omega];rfl
 .rw[Bg (by omega),show h.length+2 -h.length=2 by omega];rfl
theorem aH0(h:Ad)(q:Bool):∃h1 h2 h' a bi G,BI cx 67 [] h (Pt a 0) h1/\BI cx 68 [Pt a 0,.bool q] h1 (I 1) h2/\BI cx 70 [Pt a 0,I 1] h2 (Pt bi 0) h'/\RX h' bi a .slnil .slnil .slnil G (C4 q)/\De h (λ_=>False) h' (own bi G):=by
 obtain⟨h2,n2,i2,jJ,r2,w2,x2⟩:=aHC (sq h) (by show(0:Int)<=1000000000;decide) q;have w2:RA h2 (h.length+3) n2 i2 jJ (uP q):=w2;have hx:(uP q).has 1:=⟨HT 1,HT 1⟩;have hk:((uP q).nd 1).kind=1:=by rw[show(uP q).nd 1=(C4 q).a.nd 1 from rfl,Np,if_pos rfl]
 have r3:=p8 w2 hx hk;have DV:h.length+4<=h2.length:=by have:=x2.len;simpa using this
 refine⟨_,h2,h2++[.cells (Jg (h.length+3) (C4 q) .slnil .slnil .slnil)],h.length+3,h2.length,IA (h.length+3) n2 i2,aMN h,r2,?_,⟨by simp,.inr ⟨rfl,rfl⟩,.inr ⟨rfl,rfl⟩,⟨n2,i2,jJ,w2.CW λj hj=>Af (w2.lt hj),rfl⟩,λhj=>absurd (w2.lt hj) (Dd _)⟩,⟨?_,λj hj _=>?_,λj hj=> .inr ?_⟩⟩;·rw[Ab,aAn,t70];simp only[AB,Nat.reduceLeDiff,↓reduceIte,AK,Bi,r3.call,ne_eq];rfl
 .simp;omega
 .rw[Af (by omega),x2.old j (by simp;omega) (by unfold IA;omega),Af hj]
 .rcases hj with rfl|hj
  .omega
  .rcases x2.own j hj with hj|hj
   .unfold IA at hj;omega
   .simp at hj;omega
theorem RX.cu(w:RX h bi a o c t G b)(i:Item):∃h',Cv h 4 (Pt bi 10) (.agg i.row)=some h'/\RX h' bi a o c t G {b with ctx:=i}/\De h (own bi G) h' (own bi G):=by refine⟨h.set bi (.cells (Jg a {b with ctx:=i} o c t)),?_,⟨AN w.lt,w.o,w.t,w.w.CW λj hj=>Aj λe=>w.nb (by rw[e];exact hj),w.nb⟩,⟨by rw[Bj];exact Ac _,λj _ hn=>Aj λe=>hn (.inl e.symm),λ_ h=> .inl h⟩⟩;simp only[Cv,w.hb];rfl
theorem aMO(h:Ad)(sp:Int)(nm:Ap)(hv:Bw l av)(hl:DA l)(hn:nm.length<=1000)(q f q':Bool):∃h1 h2 h' a bi o t G,BI cx 67 [] h (Pt a 0) h1/\BI cx 68 [Pt a 0,.bool q] h1 (I 1) h2/\BI cx 69 [Pt a 0,I 1,.agg [I sp,.str nm,av,.bool q',.bool f]] h2 (Pt bi 0) h'/\RX h' bi a o .slnil t G (Sv sp nm l q f)/\De h (λ_=>False) h' (own bi G):=by
 obtain⟨h1,h2,h3,a,bi,G,r1,r2,r3,w,x⟩:=aH0 h q;have ok0:=No q;have LX:(C4 q).a.has 1:=⟨HT 1,HT 1⟩;have Wt:((C4 q).a.nd 1).kind=1:=by rw[Np,if_pos rfl]
 have hdf:(C4 q).Io 1=1:=by unfold BS.Io;rw[Np,if_pos rfl];rfl
 have uo:(C4 q).D8 Da [] 1 1={C4 q with a:=(C4 q).a.elem 1 1 Da []}:=by unfold BS.D8;rw[if_pos IQ,hdf];rfl
 have hit:(C4 q).FA Da [] 1=⟨2,1,Da,false⟩:=by unfold BS.FA;rw[if_pos IQ];rfl
 obtain⟨h4,G4,r4,w4,x4⟩:=w.step (A':=(C4 q).a.elem 1 1 Da []) (R:=λh'=>BI cx 165 [Pt a 0,I 1,I 1,.str Da,.slnil] h3 (.tuple [I ((C4 q).a.len+1),I 0]) h') (λn i ps wa=>xh (l:=[]) wa (by show(1:Int)+3<=1000000000;decide) LX Wt IQ (.inr ⟨rfl,rfl⟩) (by decide) (λy hy=>(nomatch hy)));rw[<-uo] at w4;obtain⟨uL,f4,le4⟩:=Mw (nm:=Da) (at_:=[]) (p:=1) (No q) IQ;have rm4:=H7 (m:=1000) (nm:=Da) (l:=[]) (sp:=1) (p:=1) ((Nq q).rm.le (by omega)) ⟨by decide,λa ha=>(nomatch ha)⟩;obtain⟨h5,G5,r5,w5,x5⟩:=qB w4 uL rm4 1 ((C4 q).FA Da [] 1).node 0;have ho:((C4 q).D8 Da [] 1 1).AO=[]:=by rw[uo];rfl
 have hu6:BN (((C4 q).D8 Da [] 1 1).AO++[(C4 q).FA Da [] 1]) (.sl 4 [((C4 q).FA Da [] 1).row]):=by rw[ho];exact .mk
 have s6:=w5.st (k:=2) (v:= .sl 4 [((C4 q).FA Da [] 1).row]) (v0:= .slnil) rfl rfl;have w6:=w5.Ia hu6;have s7:Cv (put h5 bi 2 (.sl 4 [((C4 q).FA Da [] 1).row])) 1 (Pt bi 9) tt=some (put (put h5 bi 2 (.sl 4 [((C4 q).FA Da [] 1).row])) bi 9 tt):=w6.st (k:=9) (v:=tt) (v0:= .bool ((C4 q).D8 Da [] 1 1).Im) rfl rfl;have w7:RX (put (put h5 bi 2 (.sl 4 [((C4 q).FA Da [] 1).row])) bi 9 tt) bi a _ .slnil .slnil G5 _:=w6.put (k:=9) (v:=tt) (b':={{{(C4 q).D8 Da [] 1 1 with a:=((C4 q).D8 Da [] 1 1).a.DZ ((C4 q).FA Da [] 1).node 1 0} with AO:=((C4 q).D8 Da [] 1 1).AO++[(C4 q).FA Da [] 1]} with Im:=true}) rfl rfl hu6 w6.t;have x7:De h (λ_=>False) (put (put h5 bi 2 (.sl 4 [((C4 q).FA Da [] 1).row])) bi 9 tt) (own bi G5):=((((x.trans x4).trans x5).trans Be).trans Be);have VV:((C4 q).FA Da [] 1).node=(C4 q).a.len+1:=by rw[hit];rfl
 rw[VV] at r5;have aH1:((C4 q).FA Da [] 1).row=[I ((C4 q).a.len+1),I 1,S Da,ff]:=by rw[hit];rfl
 rw[aH1] at s6 s7 w7 x7;generalize put h5 bi 2 (.sl 4 [[I ((C4 q).a.len+1),I 1,S Da,ff]])=h6 at*;generalize put h6 bi 9 tt=h7 at*;have r8:=aFY (h:=h7) hv (λa ha=>by have:=(hl.2 a ha).2;have:AS=140737488355328:=rfl;omega) (by have:=hl.1;omega) sp nm (by omega);obtain⟨h8,s8,w8,x8⟩:=w7.cu ⟨0,sp,nm,EH sp nm l⟩;have wz:RX h8 bi a _ .slnil .slnil G5 (Ih sp nm l q):=w8;have wq:=x7.trans x8;clear w8;have cw:Cv h7 4 (Pt bi 10) (.agg [I 0,I sp,.str nm,.bool (EH sp nm l)])=some h8:=s8;have aCy:(Ih sp nm l q).ctx=⟨0,sp,nm,EH sp nm l⟩:=rfl;obtain⟨aMl,sa⟩:=V8 sp nm l q;have key:∃h9 t9,RX h9 bi a (.sl 4 [[I ((C4 q).a.len+1),I 1,S Da,ff]]) .slnil t9 G5 (KB sp nm l q)/\De h8 (own bi G5) h9 (own bi G5)/\((sp=1/\nm=A5)->Cv h8 1 (Pt bi 6) (.sl 1 [[I 18]])=some h9)/\(¬(sp=1/\nm=A5)->h9=h8):=by
  by_cases hT:sp=1/\nm=A5;·have hu:Dg [18] (.sl 1 [[I 18]]):= .mk;refine⟨put h8 bi 6 (.sl 1 [[I 18]]),.sl 1 [[I 18]],?_,Be,λ_=>wz.st (k:=6) (v0:= .slnil) rfl rfl,λh=>absurd hT h⟩;unfold KB;rw[if_pos (by rw[O2,aCy];exact Az hT)];exact wz.jQ hu
  .refine⟨h8,.slnil,?_,.refl,λh=>absurd h hT,λ_=>rfl⟩;unfold KB;rw[if_neg (by rw[O2,aCy];exact λh=>hT (Lr h))];exact wz
 obtain⟨h9,t9,w9,x9,k1,k2⟩:=key;obtain⟨VQ,ZO,Ss,pW⟩:=so w9 sa.rm;have em:Aw (.Bx 1) [I 18]=some (.sl 1 [[I 18]]):=rfl;have sm:Aw (.Bx 4) [.agg [I ((C4 q).a.len+1),I 1,S Da,ff]]=some (.sl 4 [[I ((C4 q).a.len+1),I 1,S Da,ff]]):=rfl;have xx:De h (λ_=>False) VQ (own bi G5):=(wq.trans x9).trans pW;have s11:=Ss.st (k:=8) (v:=I (-1)) rfl rfl;have hw:Da=aSx:=rfl;have Hv:∃h',RX h' bi a (.sl 4 [[I ((C4 q).a.len+1),I 1,S Da,ff]]) .slnil t9 G5 (Sv sp nm l q f)/\De h (λ_=>False) h' (own bi G5)/\(f=true->h'=put VQ bi 8 (I (-1)))/\(f=false->h'=VQ):=by
  cases f with
  |true=>exact⟨_,by unfold Sv;rw[if_pos rfl];exact Ss.put (k:=8) rfl rfl Ss.o Ss.t,xx.trans Be,λ_=>rfl,λh=>absurd h (by decide)⟩
  |false=>exact⟨VQ,Ss,xx,λh=>absurd h (by decide),λ_=>rfl⟩
 obtain⟨h',w',x',e1,e2⟩:=Hv;refine⟨h1,h2,h',a,bi,_,t9,G5,r1,r2,?_,w',x'⟩;rw[Ab,aAm,t69];by_cases hsp:sp=1
 .by_cases t_:nm=A5
  .have w_:=k1 ⟨hsp,t_⟩;cases f with
   |true=>rw[e1 rfl];simp only[AB,Nat.reduceLeDiff,↓reduceIte,AK,Bi,IW,r3.call,r4.call,r5.call,sm,s6,s7,r8.call,cw,AW hsp,AW t_,em,w_,ZO.call,s11]
   |false=>rw[e2 rfl];simp only[AB,Nat.reduceLeDiff,↓reduceIte,AK,Bi,IW,r3.call,r4.call,r5.call,sm,s6,s7,r8.call,cw,AW hsp,AW t_,em,w_,ZO.call]
  .have xa:=k2 λh=>t_ h.2;subst xa;cases f with
   |true=>rw[e1 rfl];simp only[AB,Nat.reduceLeDiff,↓reduceIte,AK,Bi,IW,r3.call,r4.call,r5.call,sm,s6,s7,r8.call,cw,AW hsp,t_,ZO.call,s11]
   |false=>rw[e2 rfl];simp only[AB,Nat.reduceLeDiff,↓reduceIte,AK,Bi,IW,r3.call,r4.call,r5.call,sm,s6,s7,r8.call,cw,AW hsp,t_,ZO.call]
 .have xa:=k2 λh=>hsp h.1;subst xa;cases f with
  |true=>rw[e1 rfl];simp only[AB,Nat.reduceLeDiff,↓reduceIte,AK,Bi,IW,r3.call,r4.call,r5.call,sm,s6,s7,r8.call,cw,hsp,ZO.call,s11]
  |false=>rw[e2 rfl];simp only[AB,Nat.reduceLeDiff,↓reduceIte,AK,Bi,IW,r3.call,r4.call,r5.call,sm,s6,s7,r8.call,cw,hsp,ZO.call]
theorem aMQ(h:Ad)(s:Ek)(hv:Bw s.Ax av)(hl:DA s.Ax)(hn:s.name.length<=1000):∃h' bi a o c t G,BI cx 29 [.agg (Lj s av)] h (Pt bi 0) h'/\RX h' bi a o c t G s.b/\BO s.b.A4 c/\De h (λ_=>False) h' (own bi G):=by
 have gF:(Ih s.AZ s.name s.Ax s.Cq).A4=[]:=by unfold Ih;simp only;unfold BS.D8;rw[if_pos IQ];rfl
 have Xd:av.cells=[av]:=AM.cells hv;cases hf:s.Im with
 |true=>
  obtain⟨h1,h2,h',a,bi,o,t,G,r1,r2,r3,w,x⟩:=aMO h s.AZ s.name hv hl hn s.Cq s.L0 s.Cq;refine⟨h',bi,a,o,.slnil,t,G,?_,by unfold Ek.b;rw[if_pos hf];exact w,?_,x⟩;·rw[Ab,yX,t29,Lj,hf];simp only[AB,r1.call,r2.call,r3.call]
  .have e:s.b.A4=[]:=by unfold Ek.b Sv KB;rw[if_pos hf];split<;>split<;>exact gF
   rw[e];exact⟨[],rfl,.inr ⟨rfl,rfl⟩⟩
 |false=>
  obtain⟨h1,h2,h',a,bi,G,r1,r2,r3,w,x⟩:=aH0 h s.Cq;have e:s.b=C4 s.Cq:=by unfold Ek.b;rw[if_neg (by rw[hf];decide)]
  refine⟨h',bi,a,.slnil,.slnil,.slnil,G,?_,by rw[e];exact w,by rw[e];exact⟨[],rfl,.inr ⟨rfl,rfl⟩⟩,x⟩;rw[Ab,yX,t29,Lj,hf];simp only[AB,r1.call,r2.call,r3.call]
end
end Go.Am
end
