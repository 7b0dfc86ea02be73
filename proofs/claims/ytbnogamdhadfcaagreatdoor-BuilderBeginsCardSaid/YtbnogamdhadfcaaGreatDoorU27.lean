/- Lemmas -/
import Derived.Test.YtbnogamdhadfcaaGreatDoorU26
set_option linter.unusedVariables false
set_option linter.unusedSimpArgs false
section
namespace Go.Am
open Go
set_option maxRecDepth 100000
section
variable{h h':Ae}{a n:Nat}{m:Option Nat}{ps:List PN}{A:Ar}{x:Int}{F:Nat->Prop}
theorem cU{p:PN}(w:PA h a n m ps A)(hx:A.has x){i:Nat}(hi:i∈Fi a n m (ps.set (x.toNat-1) p)):i∈Fi a n m ps\/GK p.kv=some i:=by
 obtain⟨e1,e2⟩:=VJ w hx p;unfold Fi at hi⊢;rw[e2,Gt] at hi;simp only[AM,Ao,Ci] at hi⊢;rcases hi with h1|h1|h1|⟨q,h1,h2⟩|⟨q,h1,h2⟩
 .exact .inl (.inl h1)
 .exact .inl (.inr (.inl h1))
 .exact .inl (.inr (.inr (.inl h1)))
 .exact .inl (.inr (.inr (.inr ⟨q,Bf h1,h2⟩)))
 .rcases h1 with rfl|h1
  .exact .inr h2
  .exact .inl (.inr (.inr (.inr ⟨q,Bw h1,h2⟩)))
theorem au{kv:Aa}{l:List Int}{k:Nat}(hk:Je h kv l)(Oz:k<=l.length)(hb:l.length<=1000000000)(y:Int):
  ∃h1,Ep .p8 h [kv,I (k:Int),.sl 1 [[I y]]]=some (h1,.Cm h.length 0 (l.length+1) 1)/\h1[h.length]?=some (.cells ((l.take k++y::l.drop k).map (Aa.int .i64)))/\(∀i,i<h.length->GK kv≠some i->h1[i]?=h[i]?)/\h1.length=h.length+1:=by
 rcases hk with⟨rfl,rfl⟩|⟨id,cs,rfl,hc⟩
 .have:k=0:=by simpa using Oz
  subst this;exact⟨h++[.cells [I y]],rfl,by simp,λi hi _=>Ad hi,by simp⟩
 .have Hj:=(Ah.1 hc).1;refine⟨h.set id .CG++[.cells ((l.take k++y::l.drop k).map (Aa.int .i64))],?_,by rw[Bg (by simp)];simp,λi hi hn=>?_,by simp⟩
  .simp only[Ep,Ow,hc];rw[if_pos (by have:AS=140737488355328:=rfl;simp;omega)];simp only[AQ];have e1:(l.map (Aa.int .i64)++cs).take k=(l.take k).map (Aa.int .i64):=by rw[CU (by simpa using Oz),HS]
   have e2:(l.map (Aa.int .i64)++cs).take l.length=l.map (Aa.int .i64):=KJ (by simp);rw[e1,e2];simp
  .rw[Ad (by simpa using hi),Aj];intro e;exact hn (by rw[e];rfl)
theorem M7{p b:Int}(hf:¬xP A p x b):A.Fg p x b=A:=by unfold Ar.Fg;rw[if_neg hf]
theorem aw{l:List Int}{b y:Int}{k:Nat}(hb:b=0->k=l.length)(h2:b≠0->l.takeWhile (λy=>decide (y≠b))=l.take k/\l.dropWhile (λy=>decide (y≠b))=l.drop k):Ig l b y=l.take k++y::l.drop k:=by
 unfold Ig;by_cases h0:b=0;·rw[if_pos h0,hb h0];simp
 .rw[if_neg h0,(h2 h0).1,(h2 h0).2]
open Classical in
set_option maxHeartbeats 1000000 in
theorem aGH{e p b:Int}(w:PA h a n m ps A)(lm:LF A)(ok:Eu A e):
  ∃er h' Ip,BE cx 115 [Pt a 0,I p,I x,I b] h (I er) h'/\PA h' a n m Ip (A.Fg p x b)/\Df h (λi=>i∈Fi a n m ps) h' (λi=>i∈Fi a n m Ip):=by
 by_cases WQ:A.has p/\A.has x;rotate_left;·refine⟨3,h,ps,?_,by rw[M7 (λf=>WQ ⟨f.hp,f.hn⟩)];exact w,.refl⟩;rw[Ab,LG,YX];simp only[Az,Bi,E5,(Ky (x:=p) (y:=x) w).call,if_neg WQ,ne_eq,show¬(3:Int)=0 by decide]
 obtain⟨hp,hx⟩:=WQ;by_cases hb:b≠0/\¬A.has b;·refine⟨3,h,ps,?_,by rw[M7 (λf=>hb.2 (f.hb hb.1).1)];exact w,.refl⟩;rw[Ab,LG,YX];simp only[Az,Bi,E5,(Ky (x:=p) (y:=x) w).call,if_pos (And.intro hp hx),ne_eq,Cu,hb.1,(Tx (x:=b) w).call,AA hb.2,AP]
 have Pc:b=0\/(b≠0/\A.has b):=by
  by_cases h0:b=0;·exact .inl h0
  .refine .inr ⟨h0,?_⟩;by_cases h1:A.has b;·exact h1
   .exact absurd ⟨h0,h1⟩ hb
 by_cases kp:J9 (A.nd p).kind;rotate_left
 .refine⟨4,h,ps,?_,by rw[M7 (λf=>kp f.kp)];exact w,.refl⟩;unfold J9 at kp;have k1:¬(A.nd p).kind=1:=λe=>kp (.inl e);have k2:¬(A.nd p).kind=2:=λe=>kp (.inr (.inl e));have k4:¬(A.nd p).kind=4:=λe=>kp (.inr (.inr e));rw[Ab,LG,YX];rcases Pc with h0|⟨h0,MC⟩
  .simp only[Az,Bi,E5,(Ky (x:=p) (y:=x) w).call,if_pos (And.intro hp hx),ne_eq,Cu,(H8 w lm hp).call,(H8 w lm hx).call,w.f0 hp,w.f0 hx,k1,AP,h0,k2,k4]
  .simp only[Az,Bi,E5,(Ky (x:=p) (y:=x) w).call,if_pos (And.intro hp hx),ne_eq,Cu,(H8 w lm hp).call,(H8 w lm hx).call,w.f0 hp,w.f0 hx,k1,AP,h0,(Tx (x:=b) w).call,AD MC,k2,k4]
 by_cases kn:(A.nd x).kind=1\/(A.nd x).kind=2
 .refine⟨4,h,ps,?_,by rw[M7 (λf=>by have:=f.kn;omega)];exact w,.refl⟩;rw[Ab,LG,YX];rcases kp with k1|k1|k1<;>rcases kn with k2|k2<;>rcases Pc with h0|⟨h0,MC⟩
  all_goals first|(simp only[Az,Bi,E5,(Ky (x:=p) (y:=x) w).call,if_pos (And.intro hp hx),ne_eq,Cu,(H8 w lm hp).call,(H8 w lm hx).call,w.f0 hp,w.f0 hx,k1,show¬(2:Int)=1 by decide,show¬(4:Int)=1 by decide,show¬(4:Int)=2 by decide,AP,h0,k2];done)|simp only[Az,Bi,E5,(Ky (x:=p) (y:=x) w).call,if_pos (And.intro hp hx),ne_eq,Cu,(H8 w lm hp).call,(H8 w lm hx).call,w.f0 hp,w.f0 hx,k1,show¬(2:Int)=1 by decide,show¬(4:Int)=1 by decide,show¬(4:Int)=2 by decide,AP,h0,(Tx (x:=b) w).call,AD MC,k2]
 have kn1:¬(A.nd x).kind=1:=λe=>kn (.inl e);have wv:¬(A.nd x).kind=2:=λe=>kn (.inr e);have rc:=aGA w ok hx hp;by_cases re:Reach A x p
 .refine⟨4,h,ps,?_,by rw[M7 (λf=>f.re re)];exact w,.refl⟩;rw[AD re] at rc;rw[Ab,LG,YX];rcases kp with k1|k1|k1<;>rcases Pc with h0|⟨h0,MC⟩
  all_goals first|(simp only[Az,Bi,E5,(Ky (x:=p) (y:=x) w).call,if_pos (And.intro hp hx),ne_eq,Cu,(H8 w lm hp).call,(H8 w lm hx).call,w.f0 hp,w.f0 hx,k1,show¬(2:Int)=1 by decide,show¬(4:Int)=1 by decide,show¬(4:Int)=2 by decide,AP,h0,kn1,wv,rc.call];done)|simp only[Az,Bi,E5,(Ky (x:=p) (y:=x) w).call,if_pos (And.intro hp hx),ne_eq,Cu,(H8 w lm hp).call,(H8 w lm hx).call,w.f0 hp,w.f0 hx,k1,show¬(2:Int)=1 by decide,show¬(4:Int)=1 by decide,show¬(4:Int)=2 by decide,AP,h0,(Tx (x:=b) w).call,AD MC,kn1,wv,rc.call]
 rw[AA re] at rc;by_cases nf:b≠0/\(b=x\/(A.nd b).E8≠p)
 .refine⟨5,h,ps,?_,by rw[M7 (λf=>by have:=f.hb nf.1;rcases nf.2 with h|h;exact this.2.1 h;exact h this.2.2)];exact w,.refl⟩;obtain⟨h0,nf⟩:=nf;have MC:=(Pc.resolve_left h0).2;rw[Ab,LG,YX];by_cases hbx:b=x;·have aQG:=hbx;rcases kp with k1|k1|k1<;>simp only[Az,Bi,E5,(Ky (x:=p) (y:=x) w).call,if_pos (And.intro hp hx),ne_eq,Cu,(H8 w lm hp).call,(H8 w lm hx).call,w.f0 hp,w.f0 hx,k1,show¬(2:Int)=1 by decide,show¬(4:Int)=1 by decide,show¬(4:Int)=2 by decide,AP,kn1,wv,rc.call,hbx,show¬x=0 from hbx▸h0,AD hx,(Tx (x:=x) w).call]
  .have nf:=nf.resolve_left hbx;rcases kp with k1|k1|k1<;>simp only[Az,Bi,E5,(Ky (x:=p) (y:=x) w).call,if_pos (And.intro hp hx),ne_eq,Cu,(H8 w lm hp).call,(H8 w lm hx).call,w.f0 hp,w.f0 hx,k1,show¬(2:Int)=1 by decide,show¬(4:Int)=1 by decide,show¬(4:Int)=2 by decide,AP,h0,(Tx (x:=b) w).call,AD MC,kn1,wv,rc.call,hbx,(H8 w lm MC).call,w.f1 MC,nf]
 have fits:xP A p x b:=⟨hp,hx,λh0=>⟨(Pc.resolve_left h0).2,λe=>nf ⟨h0,.inl e⟩,by
  by_cases h1:(A.nd b).E8=p;·exact h1
  .exact absurd ⟨h0,.inr h1⟩ nf⟩,kp,⟨kn1,wv⟩,re⟩
 have hA:A.Fg p x b=(A.cut x).L2 p x b:=by unfold Ar.Fg;rw[if_pos fits]
 obtain⟨h1,ZI,r1,w1,x1⟩:=aGD w lm ok hx;have TA:=hC ok hx wv;have vz:=lm.cut (x:=x);have Px:(A.cut x).has p:=JV.2 hp;have Nx:(A.cut x).has x:=JV.2 hx;have hxp:x≠p:=by rintro rfl;exact re .refl
 have qd:=vz.AZ TA p;obtain⟨k,Oz,hki,fk⟩:∃k,k<=((A.cut x).nd p).AZ.length/\(b=0->k=((A.cut x).nd p).AZ.length)/\(b≠0->B9 (λy=>decide (b=y)) 0 ((A.cut x).nd p).AZ=(k:Int)/\((A.cut x).nd p).AZ.takeWhile (λy=>decide (y≠b))=((A.cut x).nd p).AZ.take k/\((A.cut x).nd p).AZ.dropWhile (λy=>decide (y≠b))=((A.cut x).nd p).AZ.drop k):=by
  by_cases h0:b=0;·exact⟨_,Ac _,λ_=>rfl,λh=>absurd h0 h⟩
  .have fb:=fits.hb h0;have ax:((A.cut x).nd b).E8=p:=by
    rw[P8 ok hx,if_neg fb.2.1];split;·exact fb.2.2
    .exact fb.2.2
   have qi:b∈((A.cut x).nd p).AZ:=by have:=(TA.E8 b (JV.2 fb.1) (by rw[ax];have:=hp.1;omega)).2;rwa [ax] at this
   obtain⟨k,k1,k2,_,k4,k5⟩:=Zf qi;exact⟨k,by omega,λh=>absurd h h0,λ_=>⟨k2,k4,k5⟩⟩
 have PQ:=aw (y:=x) hki λh=>(fk h).2;have LA:=w1.LA Px;obtain⟨h2,ei,HV,Wf,Xp⟩:=au LA Oz qd x;have hpp:=(w1.pn Px).2.1;obtain⟨q1,sJ⟩:∃q1:PN,q1=⟨{(A.cut x).nd p with AZ:=Ig ((A.cut x).nd p).AZ b x},.Cm h1.length 0 (((A.cut x).nd p).AZ.length+1) 1,(pN ZI p).av,w1.ae Px⟩:=⟨_,rfl⟩;have hq1x:q1.x={(A.cut x).nd p with AZ:=Ig ((A.cut x).nd p).AZ b x}:=by rw[sJ]
 have hrow:q1.row=(pN ZI p).row.set 2 (.Cm h1.length 0 (((A.cut x).nd p).AZ.length+1) 1):=by rw[sJ];simp only[PN.row];rw[hpp];rfl
 have aGJ:n∈Fi a n m ZI:=by simp[Fi]
 have hkn:GK (pN ZI p).kv≠some n:=by intro e1;have:=w1.nd;unfold Fi at this;simp only[BW,AM,not_or] at this;exact this.2.1 (Ao.2 (.inr (Ci.2 ⟨_,(w1.pn Px).2.2,e1⟩)))
 have s2:=w1.sto Px (k:=2) (by decide) (v:= .Cm h1.length 0 (((A.cut x).nd p).AZ.length+1) 1) rfl hrow (Wf n (w1.lt n aGJ) hkn);have hlen:(Ig ((A.cut x).nd p).AZ b x).length=((A.cut x).nd p).AZ.length+1:=by rw[PQ,Aq,Bc,Al,A7];omega
 have w2:=w1.tQ Px (p:=q1) (h1:=h2) (λi hi hn=>Wf i (w1.lt i hi) hn) (by rw[sJ];refine .inr ⟨h1.length,[],by simp only[hlen],?_⟩;simp only[PQ,BB];exact HV) (.inr λj hj=>by rw[sJ] at hj;cases hj;exact Ac _)
 have Nw:∀i,i∈Fi a n m (ZI.set (p.toNat-1) q1)->i∈Fi a n m ZI\/i=h1.length:=by
  intro i hi;rcases cU w1 Px hi with h|h
  .exact .inl h
  .rw[sJ] at h;cases h;exact .inr rfl
 generalize hh3:h2.set n (.cells ((ZI.set (p.toNat-1) q1).map PN.row).flatten)=h3 at s2 w2;generalize aQJ:ZI.set (p.toNat-1) q1=jB at w2 Nw;rw[hq1x] at w2;have Yt:((A.cut x).set p {(A.cut x).nd p with AZ:=Ig ((A.cut x).nd p).AZ b x}).has x:=Hz.2 Nx;have Rq:((A.cut x).set p {(A.cut x).nd p with AZ:=Ig ((A.cut x).nd p).AZ b x}).nd x=(A.cut x).nd x:=by rw[IJ,if_neg (λh=>hxp h.1)]
 have WQ:=(w2.pn Yt).2.1;obtain⟨h4,s4,w4,i4,o4,l4⟩:=w2.wr Yt (k:=1) (by decide) (v:= I p) rfl (p:=⟨{(A.cut x).nd x with E8:=p},(pN jB x).kv,(pN jB x).av,by have:=(pN jB x).ok;rw[WQ,Rq] at this;exact this⟩) (by simp only[PN.row];rw[WQ,Rq];rfl) rfl (Ce Eh.AZ Rq).symm;have aGK:(A.cut x).L2 p x b=((A.cut x).set p {(A.cut x).nd p with AZ:=Ig ((A.cut x).nd p).AZ b x}).set x {(A.cut x).nd x with E8:=p}:=by unfold Ar.L2;simp only;rw[Rq]
 refine⟨0,h4,_,?_,by rw[hA,aGK];exact w4,?_⟩
 .rw[Ab,LG,YX];by_cases h0:b=0;·rw[hki h0] at ei;have kl:=LA.len;rcases kp with k1|k1|k1<;>simp only[Az,Bi,E5,(Ky (x:=p) (y:=x) w).call,if_pos (And.intro hp hx),ne_eq,Cu,(H8 w lm hp).call,(H8 w lm hx).call,w.f0 hp,w.f0 hx,k1,show¬(2:Int)=1 by decide,show¬(4:Int)=1 by decide,show¬(4:Int)=2 by decide,AP,h0,kn1,wv,rc.call,r1.call,w1.f2 Px,kl,FW,ei,s2,s4]
  .have fb:=fits.hb h0;have MC:=fb.1;have ri:=aB0 LA.Sd qd b;rw[(fk h0).1] at ri;have kl:=LA.len;rcases kp with k1|k1|k1<;>simp only[Az,Bi,E5,(Ky (x:=p) (y:=x) w).call,if_pos (And.intro hp hx),ne_eq,Cu,(H8 w lm hp).call,(H8 w lm hx).call,w.f0 hp,w.f0 hx,k1,show¬(2:Int)=1 by decide,show¬(4:Int)=1 by decide,show¬(4:Int)=2 by decide,AP,h0,(Tx (x:=b) w).call,AD MC,kn1,wv,rc.call,fb.2.1,(H8 w lm MC).call,w.f1 MC,fb.2.2,r1.call,w1.f2 Px,kl,ri.call,FW,ei,s2,s4]
 .have ZG:h3.length=h1.length+1:=by rw[<-hh3,Bj,Xp]
  have xx:Df h1 (λi=>i∈Fi a n m ZI) h4 (λi=>i∈Fi a n m (jB.set (x.toNat-1) ⟨{(A.cut x).nd x with E8:=p},(pN jB x).kv,(pN jB x).av,by have:=(pN jB x).ok;rw[WQ,Rq] at this;exact this⟩)):=by
   refine⟨by omega,λi hi hin=>?_,λi hi=>?_⟩;·have n1:i≠n:=λe1=>hin (e1▸aGJ);rw[o4 i n1,<-hh3,Aj (DR n1)];exact Wf i hi λe1=>hin (Kd (w1.pn Px).2.2 e1)
   .rw[i4] at hi;rcases Nw i hi with h|h
    .exact .inl h
    .exact .inr (by omega)
  exact x1.trans xx
end
def EI(a:Nat)(b:BS)(o c t:Aa):List Aa:=[Pt a 0,I b.Cy,o,c,I b.mode,I b.Tp,t,I b.head,I b.Kv,.bool b.Jj,I b.ctx.node,I b.ctx.AX,.str b.ctx.name,.bool b.ctx.No,.bool b.fs,.bool b.Ei,.str b.cE,.bool b.skip,I b.sw,.bool b.stop]
structure BX(h:Ae)(bi a:Nat)(o c t:Aa)(G:Nat->Prop)(b:BS):Prop where
 hb:h[bi]?=some (.cells (EI a b o c t))
 o:BM b.AR o
 t:Dh b.tm t
 w:PW h G a b.a
 nb:¬G bi
section
variable{h:Ae}{bi a:Nat}{o c t:Aa}{G F:Nat->Prop}{b:BS}{x:Int}{m:Nat}
theorem BX.lt(w:BX h bi a o c t G b):bi<h.length:=(Ah.1 w.hb).1
theorem BX.CP{h':Ae}(w:BX h bi a o c t G b)(hf:∀i,i=bi\/G i->h'[i]?=h[i]?):BX h' bi a o c t G b:=
 ⟨by rw[hf bi (.inl rfl)];exact w.hb,w.o,w.t,w.w.CP λi hi=>hf i (.inr hi),w.nb⟩
theorem BX.HB(w:BX h bi a o c t G b){u:Ae}:BX (h++u) bi a o c t G b:=w.CP λi hi=>Ad (by rcases hi with rfl|hi;exact w.lt;exact w.w.lt hi)
theorem BX.ld(w:BX h bi a o c t G b)(k:Nat):Bb h none (Pt bi k)=(EI a b o c t)[k]?:=by simp only[Bb,w.hb,Et]
theorem BX.l0(w:BX h bi a o c t G b):Bb h none (Pt bi 0)=some (Pt a 0):=w.ld 0
theorem BX.l1(w:BX h bi a o c t G b):Bb h none (Pt bi 1)=some (I b.Cy):=w.ld 1
theorem BX.l4(w:BX h bi a o c t G b):Bb h none (Pt bi 4)=some (I b.mode):=w.ld 4
theorem BX.l7(w:BX h bi a o c t G b):Bb h none (Pt bi 7)=some (I b.head):=w.ld 7
theorem BX.l9(w:BX h bi a o c t G b):Bb h none (Pt bi 9)=some (.bool b.Jj):=w.ld 9
theorem BX.di(w:BX h bi a o c t G b):Bb h none (Pt bi 15)=some (.bool b.Ei):=w.ld 15
theorem BX.l3(w:BX h bi a o c t G b):Bb h none (Pt bi 3)=some c:=w.ld 3
theorem BX.l6(w:BX h bi a o c t G b):Bb h none (Pt bi 6)=some t:=w.ld 6
theorem BX.atO(w:BX h bi a o c t G b):At h bi 2 o:=⟨_,w.hb,rfl⟩
theorem BX.pB(w:BX h bi a o c t G b):At h bi 3 c:=⟨_,w.hb,rfl⟩
theorem BX.sO(w:BX h bi a o c t G b):KG h bi 2 b.AR:=⟨o,w.atO,w.o⟩
theorem BX.sA(w:BX h bi a o c t G b):tX h (Pt bi 2) b.AR:=w.sO.at
theorem HC(w:BX h bi a o c t G b):BE cx 52 [Pt bi 0] h (.bool true) h:=by rw[Ab,yQ,t52];simp only[Az,Bi,w.l0]
theorem PW.pa{A:Ar}(w:PW h G a A):∃n m ps,PA h a n m ps A:=let⟨n,m,ps,w,_⟩:=w;⟨n,m,ps,w⟩
theorem TB(w:BX h bi a o c t G b)(ok:DG b)(rm:BQ b m)(x:Int):∃K V u,BE cx 86 [Pt bi 0,I x] h (.agg [I (b.a.nd x).kind,I (b.a.nd x).E8,K,I (b.a.nd x).Cy,I (b.a.nd x).AX,.str (b.a.nd x).name,V,.str (b.a.nd x).data,.str (b.a.nd x).pub,.str (b.a.nd x).sys,.bool (b.a.nd x).Cb,I (b.a.nd x).cont,I (b.a.nd x).DT]) (h++u)/\Dh (b.a.nd x).AZ K/\H9 (h++u) V (b.a.nd x).Ax/\Up h.length V:=by obtain⟨n,m',ps,wa⟩:=w.w.pa;obtain⟨r,u,r1,K,V,rfl,hK,hV⟩:=qe (x:=x) wa rm.Tq (rm.Tq.AZ ok.ok x);refine⟨K,V,u,?_,hK,hV⟩;rw[Ab,yZ,t86];simp only[Az,Bi,w.l0,r1.call]
theorem aGL(w:BX h bi a o c t G b)(rm:BQ b m):BE cx 32 [Pt bi 0] h (.agg (EU b.AR).row) h:=by have:=rm.AR;rw[Ab,yJ,t32];simp only[Az,Bi,EB,(HC w).call,(f39 w.sA (by omega)).call]
theorem aGM(w:BX h bi a o c t G b)(ok:DG b)(rm:BQ b m):BE cx 170 [Pt bi 0] h (.tuple [I b.I2.1,I b.I2.2]) h:=by
 have hl:=rm.AR;obtain⟨n,m',ps,wa⟩:=w.w.pa;have r1:=aBU w.sA (show b.AR.length<=1000000000 by omega) Ew;have r2:=aBU w.sA (show b.AR.length<=1000000000 by omega) A5;have b1:=JJ (q:=Bp [Ew]) (l:=b.AR);have b2:=JJ (q:=Bp [A5]) (l:=b.AR);unfold BS.I2;simp only
 generalize AK (Bp [Ew]) b.AR=tb at r1 b1⊢;generalize AK (Bp [A5]) b.AR=tp at r2 b2⊢;rw[Ab,nA,aA1];simp only[Az,r1.call,r2.call];refine⟨λh1=>?_,λh1=>⟨λh2=>?_,λh2=>?_⟩⟩;·rw[if_pos h1];simp only[Az,EB,(VF w.sA tp).call]
 .rw[if_neg h1,if_pos h2];simp only[Az,EB,(VF w.sA 0).call]
 .rw[if_neg h1,if_neg h2];simp only[Az,Bi,EB,(VF w.sA tb).call,w.l0,(aGp (x:=(GB b.AR tb).node) wa rm.Tq).call];refine⟨λh3=>?_,λh3=>?_⟩;·rw[if_pos h3]
  .rw[if_neg h3];have e1:(if tb-1<0 then 0 else tb-1)=max (tb-1) 0:=by omega
   simp only[Az,EB,CJ (show -9223372036854775808<=tb-1 by omega) (show tb-1<9223372036854775808 by omega),Yz,e1,(VF w.sA (max (tb-1) 0)).call]
theorem XL:Aw (.By 1) [S Ew,S R4,S R5,S R6,S wTr]=some (.sl 1 (GS.map CH)):=DE (ws:=GS) rfl (by decide)
theorem jF{v:Aa}{ws:List As}(hv:IG ws v)(hn:ws.length<=1000000000)(a:Item)(h:Ae):BE cx 50 [.agg a.row,v] h (.bool (Bp ws a)) h:=by rw[Ab,yO,t50];simp only[Az,EB,(aF6 hv hn _ h).call,Bp];refine⟨λh1=>by simp[h1],λh1=>by simp[h1]⟩
theorem ay{A:Ar}{x:Int}(hk:(A.nd x).kind=4)(ws:List As):Bp ws ⟨0,(A.nd x).AX,(A.nd x).name,false⟩=decide (Q4 ws A x):=by
 by_cases h:Q4 ws A x;·rw[AD h];unfold Bp;rw[AD];exact⟨h.2.1,h.2.2⟩
 .rw[AA h];unfold Bp;rw[AA];exact λh2=>h ⟨hk,h2.1,h2.2⟩
theorem qm(w:BX h bi a o c t G b)(ok:DG b)(rm:BQ b m)(x:Int):∃u,BE cx 85 [Pt bi 0,I x] h (.tuple [I (b.place x).1,I (b.place x).2]) (h++u):=by
 have hl:=rm.AR;by_cases hA:x=0/\b.AR=[]
 .refine⟨[],?_⟩;have e1:b.place x=(b.Cy,0):=by unfold BS.place;rw[if_pos hA]
  rw[e1,BB,Ab,iX,t85];simp only[Az,Bi,(HC w).call,hA.1,hA.2,Cu,(Tu w.sA).call,Int.natCast_zero,w.l1]
 .obtain⟨t',ht⟩:∃t',t'=if x=0 then(EU b.AR).node else x:=⟨_,rfl⟩
  obtain⟨K1,V1,u1,r1,_,_⟩:=TB w ok rm t';have w1:=w.HB (u:=u1);have e1:b.place x=if(b.a.nd (if b.Ei=true/\Q4 GS b.a t' then b.I2 else(t',0)).1).cont≠0 then((b.a.nd (if b.Ei=true/\Q4 GS b.a t' then b.I2 else(t',0)).1).cont,0) else if b.Ei=true/\Q4 GS b.a t' then b.I2 else(t',0):=by unfold BS.place;rw[if_neg hA,<-ht]
  obtain⟨pb,XF⟩:∃pb,pb=if b.Ei=true/\Q4 GS b.a t' then b.I2 else(t',0):=⟨_,rfl⟩
  rw[<-XF] at e1;obtain⟨K2,V2,u2,r2,_,_⟩:=TB w1 ok rm pb.1;have rf:=aGM w1 ok rm;have ri:=jF (ws:=GS) CR (by decide) ⟨0,(b.a.nd t').AX,(b.a.nd t').name,false⟩ (h++u1);have em:∀s n,Aw (.Br [I 0,I 0,S [],ff] [(1,1),(2,1)]) [I s,.str n]=some (.agg (Item.row ⟨0,s,n,false⟩)):=λ_ _=>rfl;refine⟨u1++u2,?_⟩;rw[<-AB];have last:∀(y:Int×Int),y=pb->W cx (.call 86 [Pt bi 0,I y.1] λv27=> .cells 13 v27 λc28=> .op (.int .neq) [g c28 11,I 0] λv29=> .AH v29 (.ret .ret [.tuple [g c28 11,I 0]]) (.ret .ret [.tuple [I y.1,I y.2]])) (λx_1 vs h1=>x_1=EL.ret/\vs=[.tuple [I (b.place x).1,I (b.place x).2]]/\h1=h++u1++u2) (h++u1):=by
   rintro _ rfl;rw[e1];simp only[Az,r2.call];refine⟨λh1=>?_,λh1=>?_⟩;·rw[if_pos h1]
   .rw[if_neg h1]
  rw[Ab,iX,t85];have di:=w1.di;have mid:W cx (.call 86 [Pt bi 0,I t'] λv13=> .cells 13 v13 λc14=> .Dg 200009 (.op .KT [Pt bi 0] λv15=> .op (.D8 15) [v15] λv16=> .load none v16 λv17=> .AH v17 (.op (.int .eql) [g c14 0,I 4] λv18=> .AH v18 (.op (.Br [I 0,I 0,S [],ff] [(1,1),(2,1)]) [g c14 4,g c14 5] λv19=> .op (.By 1) [S aSO,S aTd,S aTc,S aTe,S [116,114]] λv20=> .call 50 [v19,v20] λv21=> .ret .normal [v21]) (.ret .normal [ff])) (.ret .normal [ff])) (λx c22=>match x with
    | .normal=> .Dg 100046 (.AH (g c22 0) (.call 170 [Pt bi 0] λv23=> .op (.ext 0) [v23] λv24=> .op (.ext 1) [v23] λv25=> .ret .normal [v24,v25]) (.ret .normal [I t',I 0])) (λx c26=>match x with
     | .normal=> .call 86 [Pt bi 0,g c26 0] λv27=> .cells 13 v27 λc28=> .op (.int .neq) [g c28 11,I 0] λv29=> .AH v29 (.ret .ret [.tuple [g c28 11,I 0]]) (.ret .ret [.tuple [g c26 0,g c26 1]])
     | .exit i=> .fail
     | .ret=> .ret .ret [.tuple [g c26 0,g c26 1]])
    | .exit i=> .fail
    | .ret=> .ret .ret [.tuple [I t',I 0]])) (λx_1 vs h1=>x_1=EL.ret/\vs=[.tuple [I (b.place x).1,I (b.place x).2]]/\h1=h++u1++u2) h:=by
   rw[r1.call];by_cases hf:b.Ei=true
   .rw[hf] at di;by_cases k4:(b.a.nd t').kind=4
    .rw[ay k4] at ri;by_cases hw:Q4 GS b.a t';·rw[AD hw] at ri;rw[if_pos ⟨hf,hw⟩] at XF;have:=last b.I2 XF.symm;simp only[Az,Bi,di,k4,em,XL,ri.call,rf.call];simpa only[Az,Bi,Bc,BT] using this
     .rw[AA hw] at ri;rw[if_neg (λh=>hw h.2)] at XF;have:=last (t',0) XF.symm;simp only[Az,Bi,di,k4,em,XL,ri.call];simpa only[Az,Bi,Bc,BT] using this
    .rw[if_neg (λh=>k4 h.2.1)] at XF;have:=last (t',0) XF.symm;simp only[Az,Bi,di,k4];simpa only[Az,Bi,Bc,BT] using this
   .rw[if_neg (λh=>hf h.1)] at XF;have:=last (t',0) XF.symm;rw[show b.Ei=false by simpa using hf] at di;simp only[Az,di];simpa only[Az,Bi,Bc,BT] using this
  by_cases h0:x=0
  .have hne:b.AR≠[]:=λe=>hA ⟨h0,e⟩;have hl0:¬((b.AR.length:Nat):Int)=0:=by have:=FX.2 hne;omega
   rw[if_pos h0] at ht;rw[ht] at mid;simp only[Az,Bi,(HC w).call];rw[h0] at mid⊢;simp only[Az,Bi,EB,(Tu w.sA).call,hl0,(aGL w rm).call] at mid⊢;exact mid
  .rw[if_neg h0] at ht;rw[ht] at mid;simp only[Az,Bi,(HC w).call,h0,Fj] at mid⊢;exact mid
end
section
theorem sK{Q:Post}{h:Ae}{k:Aa->IT}:W cx (.OY k) Q h↔W cx (k (.map (some h.length))) Q (h++[.map (ft 0)]):=MW
section
variable{v:Aa}{l:List AW}{h:Ae}
set_option maxHeartbeats 1000000 in
theorem aLC(hv:Bx l v)(hb:l.length<=1000)(sp:Int):∃u,BE cx 108 [I sp,v] h u (h++[.map (ft 11)])/\Bx (l.map (CM sp)) u:=by
 have Du:AL 3 (l.map AW.row) v:=hv;have Ik:Ev cx 108 [I sp,v] h λr h'=>h'=h++[.map (ft 11)]/\Bx (l.map (CM sp)) r:=by
  unfold Ev;rw[l8,aAz];rw[sK];simp only[Az,Nat.reduceLeDiff,↓reduceIte,AI,B8,gU,aEq,aEr,aEs,aEt,aEu,aEv,aEw,aEx,aEy,aEz,N_,Du.Cq];refine A9 (λp:Nat×Aa=>[p.2,I (p.1:Int)]) (λp h1=>p.1<=l.length/\Bx ((l.take p.1).map (CM sp)) p.2/\h1=h++[.map (ft 11)]) (λp=>l.length-p.1) (0,.slnil) rfl ⟨AO _,.nil,rfl⟩ ?_;rintro⟨n,u⟩ h1 ⟨hn,hu,rfl⟩;simp only at hn hu;rcases AT n l.length with hlt|D2
  .have i1:(n:Int)<(l.length:Int):=by omega
   have GO:∀{q:List Aa},q=(CM sp l[n]).row->∃w,Aw (.append 3 40) [u,.sl 3 [q]]=some w/\Bx ((l.take (n+1)).map (CM sp)) w:=by
    rintro _ rfl;refine⟨_,AL.Ja (f:=AW.row) (a:=CM sp l[n]) (b:=40) hu ?_,?_⟩;·simp[AS];omega
    .rw[Av hlt,BI];exact .mk
   have inc:=BG (show n<9223372036854775807 by omega);by_cases s2:sp=2
   .subst s2;cases ef:DF (Ca l[n].name He) with
    |some x=>obtain⟨w,e3,hw⟩:=GO (q:=[I x.1,.str x.2,.str l[n].value]) (by simp only[CM,Jb,true_or,BN,ef,AW.row]);simp only[Az,Nat.reduceLeDiff,↓reduceIte,AI,i1,Du.Bz hlt,B8,AW.row,(aF3 _).Be rfl rfl,Ap,Ak,Ag,Ld,ef,DP,e3,inc];exact AF.next (n+1,w) rfl ⟨hlt,hw,rfl⟩ (by simp only;omega)
    |none=>obtain⟨w,e3,hw⟩:=GO (q:=[I 0,.str (Ca l[n].name He),.str l[n].value]) (by simp only[CM,Jb,true_or,BN,ef,AW.row]);simp only[Az,Nat.reduceLeDiff,↓reduceIte,AI,i1,Du.Bz hlt,B8,AW.row,(aF3 _).Be rfl rfl,Ap,Ak,Ag,Ld,ef,DP,e3,inc];exact AF.next (n+1,w) rfl ⟨hlt,hw,rfl⟩ (by simp only;omega)
   by_cases s3:sp=3
   .subst s3;by_cases hd:l[n].name=O_
    .have ef:DF To=none:=by decide
     obtain⟨w,e3,hw⟩:=GO (q:=[I 0,.str To,.str l[n].value]) (by simp only[CM,Jb,hd,or_true,BN,Ea,ef,AW.row,and_self,s2]);simp only[Az,Nat.reduceLeDiff,↓reduceIte,AI,i1,Du.Bz hlt,B8,AW.row,hd,show¬(3:Int)=2 by decide,Ap,An,Ak,Ag,Ld,ef,DP,e3,inc];exact AF.next (n+1,w) rfl ⟨hlt,hw,rfl⟩ (by simp only;omega)
    .cases ef:DF l[n].name with
     |some x=>obtain⟨w,e3,hw⟩:=GO (q:=[I x.1,.str x.2,.str l[n].value]) (by simp only[CM,Jb,hd,or_true,BN,Ea,ef,AW.row,and_false,s2]);simp only[Az,Nat.reduceLeDiff,↓reduceIte,AI,i1,Du.Bz hlt,B8,AW.row,hd,show¬(3:Int)=2 by decide,Ap,An,Ak,Ag,Ld,ef,DP,e3,inc];exact AF.next (n+1,w) rfl ⟨hlt,hw,rfl⟩ (by simp only;omega)
     |none=>obtain⟨w,e3,hw⟩:=GO (q:=[I 0,.str l[n].name,.str l[n].value]) (by simp only[CM,Jb,hd,or_true,BN,Ea,ef,AW.row,and_false,s2]);simp only[Az,Nat.reduceLeDiff,↓reduceIte,AI,i1,Du.Bz hlt,B8,AW.row,hd,show¬(3:Int)=2 by decide,Ap,An,Ak,Ag,Ld,ef,DP,e3,inc];exact AF.next (n+1,w) rfl ⟨hlt,hw,rfl⟩ (by simp only;omega)
   .obtain⟨w,e3,hw⟩:=GO (q:=[I 0,.str l[n].name,.str l[n].value]) (by simp only[CM,s2,s3,or_self,Ea,AW.row]);cases ef:DF l[n].name with
    |some x=>simp only[Az,Nat.reduceLeDiff,↓reduceIte,AI,i1,Du.Bz hlt,B8,AW.row,s2,s3,Ap,An,Ak,Ag,Ld,ef,DP,e3,inc];exact AF.next (n+1,w) rfl ⟨hlt,hw,rfl⟩ (by simp only;omega)
    |none=>simp only[Az,Nat.reduceLeDiff,↓reduceIte,AI,i1,Du.Bz hlt,B8,AW.row,s2,s3,Ap,An,Ak,Ag,Ld,ef,DP,e3,inc];exact AF.next (n+1,w) rfl ⟨hlt,hw,rfl⟩ (by simp only;omega)
  .have i1:¬(n:Int)<(l.length:Int):=by omega
   rw[Ay D2] at hu;simp only[Az,Nat.reduceLeDiff,↓reduceIte,AI,i1,An,Ak,Ag];exact⟨_,rfl,hu⟩
 obtain⟨r,h',hr,rfl,hu⟩:=Ik.ret;exact⟨r,hr,hu⟩
theorem TC{Q:Post}{s:As}{k:Aa->IT}:W cx (.Be 284 [.str aSD,.str s] k) Q h↔W cx (k (.str (Ca s He))) Q h:=by have e:=(aF2 Mk s (by decide+kernel)).Be (Q:=Q) (h:=h) (k:=k) rfl rfl;rw[U8] at e;exact e
theorem Se{Q:Post}{s:As}{k:Aa->IT}(hs:s.length<9223372036854775807):W cx (.Be 188 [.str aSH,.str s] k) Q h↔W cx (k (.bool (decide (s∈KH)))) Q h:=by rw[Iy (by decide) hs,iu]
set_option maxHeartbeats 1000000 in
theorem f180(hv:Bx l v)(hs:∀a∈l,a.name.length<=1000)(hb:l.length<=1000)(sp:Int):∃u,BE cx 226 [I sp,v] h u h/\Bx (l.map (CM sp)) u:=by
 have Du:AL 3 (l.map AW.row) v:=hv;have Ik:Ev cx 226 [I sp,v] h λr h'=>h'=h/\Bx (l.map (CM sp)) r:=by
  unfold Ev;rw[ng,aFr];refine A9 (λp:Nat×Aa=>[p.2,I (p.1:Int)]) (λp h1=>p.1<=l.length/\Bx ((l.take p.1).map (CM sp)) p.2/\h1=h) (λp=>l.length-p.1) (0,.slnil) rfl ⟨AO _,.nil,rfl⟩ ?_;rintro⟨n,u⟩ h1 ⟨hn,hu,rfl⟩;simp only at hn hu;rcases AT n l.length with hlt|D2
  .have i1:(n:Int)<(l.length:Int):=by omega
   have GO:∀{q:List Aa},q=(CM sp l[n]).row->∃w,Aw (.append 3 40) [u,.sl 3 [q]]=some w/\Bx ((l.take (n+1)).map (CM sp)) w:=by
    rintro _ rfl;refine⟨_,AL.Ja (f:=AW.row) (a:=CM sp l[n]) (b:=40) hu ?_,?_⟩;·simp[AS];omega
    .rw[Av hlt,BI];exact .mk
   have inc:=BG (show n<9223372036854775807 by omega);have Nt:=hs _ (AJ hlt);have aB4:∀nm,(sp=2\/sp=3)->Jb sp l[n].name=nm->CM sp l[n]=match DF nm with
     |some (s,m)=>⟨s,m,l[n].value⟩
     |none=>⟨0,nm,l[n].value⟩:=by
    rintro _ hsp rfl;rw[CM,if_pos hsp];rfl
   by_cases s2:sp=2
   .subst s2;have hnm:=aB4 (Ca l[n].name He) (.inl rfl) rfl;have ZJ:(Ca l[n].name He).length<9223372036854775807:=by rw[QX];omega
    generalize hg:Ca l[n].name He=nm at hnm ZJ;rcases Ps nm with⟨c1,c6,ef⟩|⟨c1,⟨c2,c6,ef⟩|⟨c2,⟨c3,c6,ef⟩|⟨c3,⟨c4,ef⟩|⟨c4,⟨c5,ef⟩|⟨c5,ef⟩⟩⟩⟩⟩
    .obtain⟨w,e3,hw⟩:=GO (q:=[I 4,.str (nm.drop 6),.str l[n].value]) (by rw[hnm];simp only[ef,AW.row]);simp only[Az,Nat.reduceLeDiff,↓reduceIte,AI,Du.Cq,i1,Du.Bz hlt,B8,AW.row,hg,TC,show¬(2:Int)=3 by decide,Ap,An,Ak,Ag,Se ZJ,c1,sl6 c6,DP,e3,inc];exact AF.next (n+1,w) rfl ⟨hlt,hw,rfl⟩ (by simp only;omega)
    .obtain⟨w,e3,hw⟩:=GO (q:=[I 5,.str (nm.drop 4),.str l[n].value]) (by rw[hnm];simp only[ef,AW.row]);simp only[Az,Nat.reduceLeDiff,↓reduceIte,AI,Du.Cq,i1,Du.Bz hlt,B8,AW.row,hg,TC,show¬(2:Int)=3 by decide,Ap,An,Ak,Ag,Se ZJ,c1,AV c2,sl4 c6,DP,e3,inc];exact AF.next (n+1,w) rfl ⟨hlt,hw,rfl⟩ (by simp only;omega)
    .obtain⟨w,e3,hw⟩:=GO (q:=[I 5,.str (nm.drop 4),.str l[n].value]) (by rw[hnm];simp only[ef,AW.row]);simp only[Az,Nat.reduceLeDiff,↓reduceIte,AI,Du.Cq,i1,Du.Bz hlt,B8,AW.row,hg,TC,show¬(2:Int)=3 by decide,Ap,An,Ak,Ag,Se ZJ,c1,c2,AV c3,sl4 c6,DP,e3,inc];exact AF.next (n+1,w) rfl ⟨hlt,hw,rfl⟩ (by simp only;omega)
    .obtain⟨w,e3,hw⟩:=GO (q:=[I 6,.str nm,.str l[n].value]) (by rw[hnm];simp only[ef,AW.row]);simp only[Az,Nat.reduceLeDiff,↓reduceIte,AI,Du.Cq,i1,Du.Bz hlt,B8,AW.row,hg,TC,show¬(2:Int)=3 by decide,Ap,An,Ak,Ag,Se ZJ,c1,c2,c3,AV c4,DP,e3,inc];exact AF.next (n+1,w) rfl ⟨hlt,hw,rfl⟩ (by simp only;omega)
    .obtain⟨w,e3,hw⟩:=GO (q:=[I 6,.str gV,.str l[n].value]) (by rw[hnm];simp only[ef,AW.row]);simp only[Az,Nat.reduceLeDiff,↓reduceIte,AI,Du.Cq,i1,Du.Bz hlt,B8,AW.row,hg,TC,show¬(2:Int)=3 by decide,Ap,An,Ak,Ag,Se ZJ,c1,c2,c3,c4,AV c5,DP,e3,inc];exact AF.next (n+1,w) rfl ⟨hlt,hw,rfl⟩ (by simp only;omega)
    .obtain⟨w,e3,hw⟩:=GO (q:=[I 0,.str nm,.str l[n].value]) (by rw[hnm];simp only[ef,AW.row]);simp only[Az,Nat.reduceLeDiff,↓reduceIte,AI,Du.Cq,i1,Du.Bz hlt,B8,AW.row,hg,TC,show¬(2:Int)=3 by decide,Ap,An,Ak,Ag,Se ZJ,c1,c2,c3,c4,c5,DP,e3,inc];exact AF.next (n+1,w) rfl ⟨hlt,hw,rfl⟩ (by simp only;omega)
   by_cases s3:sp=3
   .subst s3;by_cases hd:l[n].name=O_
    .have hnm:=aB4 To (.inr rfl) (by rw[Jb,if_neg (by decide),if_pos ⟨rfl,hd⟩]);rw[show DF To=none by decide] at hnm;obtain⟨w,e3,hw⟩:=GO (q:=[I 0,.str To,.str l[n].value]) (by rw[hnm];rfl);have ZJ:To.length<9223372036854775807:=by decide
     simp only[Az,Nat.reduceLeDiff,↓reduceIte,AI,Du.Cq,i1,Du.Bz hlt,B8,AW.row,hd,show¬(3:Int)=2 by decide,Ap,An,Ak,Ag,Se ZJ,show To∉KH by decide,show¬To=bS by decide,show¬To=Vf by decide,show¬To=bT by decide,show¬To=Vg by decide,DP,e3,inc];exact AF.next (n+1,w) rfl ⟨hlt,hw,rfl⟩ (by simp only;omega)
    have hnm:=aB4 l[n].name (.inr rfl) (by rw[Jb,if_neg (by decide),if_neg (λh=>hd h.2)]);have ZJ:l[n].name.length<9223372036854775807:=by omega
    rcases Ps l[n].name with⟨c1,c6,ef⟩|⟨c1,⟨c2,c6,ef⟩|⟨c2,⟨c3,c6,ef⟩|⟨c3,⟨c4,ef⟩|⟨c4,⟨c5,ef⟩|⟨c5,ef⟩⟩⟩⟩⟩
    .obtain⟨w,e3,hw⟩:=GO (q:=[I 4,.str (l[n].name.drop 6),.str l[n].value]) (by rw[hnm];simp only[ef,AW.row]);simp only[Az,Nat.reduceLeDiff,↓reduceIte,AI,Du.Cq,i1,Du.Bz hlt,B8,AW.row,hd,TC,show¬(3:Int)=2 by decide,Ap,An,Ak,Ag,Se ZJ,c1,sl6 c6,DP,e3,inc];exact AF.next (n+1,w) rfl ⟨hlt,hw,rfl⟩ (by simp only;omega)
    .obtain⟨w,e3,hw⟩:=GO (q:=[I 5,.str (l[n].name.drop 4),.str l[n].value]) (by rw[hnm];simp only[ef,AW.row]);simp only[Az,Nat.reduceLeDiff,↓reduceIte,AI,Du.Cq,i1,Du.Bz hlt,B8,AW.row,hd,TC,show¬(3:Int)=2 by decide,Ap,An,Ak,Ag,Se ZJ,c1,AV c2,sl4 c6,DP,e3,inc];exact AF.next (n+1,w) rfl ⟨hlt,hw,rfl⟩ (by simp only;omega)
    .obtain⟨w,e3,hw⟩:=GO (q:=[I 5,.str (l[n].name.drop 4),.str l[n].value]) (by rw[hnm];simp only[ef,AW.row]);simp only[Az,Nat.reduceLeDiff,↓reduceIte,AI,Du.Cq,i1,Du.Bz hlt,B8,AW.row,hd,TC,show¬(3:Int)=2 by decide,Ap,An,Ak,Ag,Se ZJ,c1,c2,AV c3,sl4 c6,DP,e3,inc];exact AF.next (n+1,w) rfl ⟨hlt,hw,rfl⟩ (by simp only;omega)
    .obtain⟨w,e3,hw⟩:=GO (q:=[I 6,.str l[n].name,.str l[n].value]) (by rw[hnm];simp only[ef,AW.row]);simp only[Az,Nat.reduceLeDiff,↓reduceIte,AI,Du.Cq,i1,Du.Bz hlt,B8,AW.row,hd,TC,show¬(3:Int)=2 by decide,Ap,An,Ak,Ag,Se ZJ,c1,c2,c3,AV c4,DP,e3,inc];exact AF.next (n+1,w) rfl ⟨hlt,hw,rfl⟩ (by simp only;omega)
    .obtain⟨w,e3,hw⟩:=GO (q:=[I 6,.str gV,.str l[n].value]) (by rw[hnm];simp only[ef,AW.row]);simp only[Az,Nat.reduceLeDiff,↓reduceIte,AI,Du.Cq,i1,Du.Bz hlt,B8,AW.row,hd,TC,show¬(3:Int)=2 by decide,Ap,An,Ak,Ag,Se ZJ,c1,c2,c3,c4,AV c5,DP,e3,inc];exact AF.next (n+1,w) rfl ⟨hlt,hw,rfl⟩ (by simp only;omega)
    .obtain⟨w,e3,hw⟩:=GO (q:=[I 0,.str l[n].name,.str l[n].value]) (by rw[hnm];simp only[ef,AW.row]);simp only[Az,Nat.reduceLeDiff,↓reduceIte,AI,Du.Cq,i1,Du.Bz hlt,B8,AW.row,hd,TC,show¬(3:Int)=2 by decide,Ap,An,Ak,Ag,Se ZJ,c1,c2,c3,c4,c5,DP,e3,inc];exact AF.next (n+1,w) rfl ⟨hlt,hw,rfl⟩ (by simp only;omega)
   .obtain⟨w,e3,hw⟩:=GO (q:=[I 0,.str l[n].name,.str l[n].value]) (by simp only[CM,s2,s3,or_self,Ea,AW.row]);simp only[Az,Nat.reduceLeDiff,↓reduceIte,AI,Du.Cq,i1,Du.Bz hlt,B8,AW.row,s2,s3,Ap,An,Ak,Ag,DP,e3,inc];exact AF.next (n+1,w) rfl ⟨hlt,hw,rfl⟩ (by simp only;omega)
  .have i1:¬(n:Int)<(l.length:Int):=by omega
   rw[Ay D2] at hu;simp only[Az,Nat.reduceLeDiff,↓reduceIte,AI,Du.Cq,i1,An,Ak,Ag];exact⟨_,rfl,hu⟩
 obtain⟨r,h',hr,rfl,hu⟩:=Ik.ret;exact⟨r,hr,hu⟩
end
end
def own(bi:Nat)(G:Nat->Prop):Nat->Prop:=λi=>i=bi\/G i
section
variable{h h':Ae}{bi a:Nat}{o c t:Aa}{G G' F:Nat->Prop}{b:BS}{x:Int}{m:Nat}
theorem Df.wz(x:Df h G h' G'):Df h (Am.own bi G) h' (Am.own bi G'):=⟨x.len,λi hi hn=>x.old i hi λhg=>hn (.inr hg),λi hi=>by
 rcases hi with rfl|hi
 .exact .inl (.inl rfl)
 .rcases x.own i hi with h|h
  .exact .inl (.inr h)
  .exact .inr h⟩
theorem BX.pC{A':Ar}(w:BX h bi a o c t G b)(hp:PW h' G' a A')(x:Df h G h' G'):BX h' bi a o c t G' {b with a:=A'}/\Df h (own bi G) h' (own bi G'):=
 ⟨⟨by rw[x.old bi w.lt w.nb];exact w.hb,w.o,w.t,hp,λhg=>by rcases x.own bi hg with h|h;exact w.nb h;have:=w.lt;omega⟩,x.wz⟩
theorem BX.step{A':Ar}{R:Ae->Prop}(w:BX h bi a o c t G b)(hPA:∀n m ps,PA h a n m ps b.a->∃h' n' m' Ip,R h'/\PA h' a n' m' Ip A'/\Df h (λi=>i∈Fi a n m ps) h' (λi=>i∈Fi a n' m' Ip)):
  ∃h' G',R h'/\BX h' bi a o c t G' {b with a:=A'}/\Df h (own bi G) h' (own bi G'):=by
 obtain⟨n,m,ps,wa,e⟩:=w.w;obtain⟨h',n',m',Ip,r,w',x⟩:=hPA n m ps wa;have eG:G=λi=>i∈Fi a n m ps:=funext λi=>propext (e i);obtain⟨w2,x2⟩:=w.pC w'.pw (by rw[eG];exact x);exact⟨h',_,r,w2,x2⟩
theorem BX.CN(w:BX h bi a o c t G b){u:Ae}:Df h (own bi G) (h++u) (own bi G):= .HB
theorem aGP{v:Aa}{l:List Int}{f:FuncId}{caps:List Aa}{q:Int->Bool}(hv:Dh l v)(hb:l.length<=1000000000)(hf:f<=99999)(hq:∀k∈l,∀u,∃u',BE cx f (I k::caps) (h++u) (.bool (q k)) (h++u++u')):
  ∃u,BE cx 196 [v,.func (.func f) [] caps] h (I (B9 q 0 l)) (h++u):=by
 have Du:AL 1 (l.map Cc) v:=hv;have Ik:Ev cx 196 [v,.func (.func f) [] caps] h λr h'=>r= I (B9 q 0 l)/\∃u,h'=h++u:=by
  unfold Ev;rw[nO,aBf];simp only[Az,Du.Cq];refine A9 (λk:Nat=>[I 0,I (k:Int)]) (λk h1=>k<=l.length/\B9 q 0 l=B9 q k (l.drop k)/\∃u,h1=h++u) (λk=>l.length-k) 0 rfl ⟨AO _,rfl,[],by simp⟩ ?_;rintro k h1 ⟨hk,ha,u,rfl⟩;rcases AT k l.length with hlt|D2
  .have i1:(k:Int)<(l.length:Int):=by omega
   have e1:Bb (h++u) none (.CA (Cc l[k]))=some (I l[k]):=rfl;obtain⟨u',r1⟩:=hq _ (AJ hlt) u;rw[AG hlt,B9] at ha;simp only[Az,↓reduceIte,Dt,Bi,i1,Du.Bz hlt,e1,hf,r1.call,BG (show k<9223372036854775807 by omega)];rw[Ct];refine⟨λh2=>?_,λh2=>?_⟩;·exact⟨_,rfl,by rw[ha,if_pos h2],u++u',by simp⟩
   .rw[if_neg (by simp[h2])] at ha;exact AF.next (k+1) rfl ⟨hlt,ha,u++u',by simp⟩ (by omega)
  .have i1:¬(k:Int)<(l.length:Int):=by omega
   rw[A3 D2,B9] at ha;simp only[Az,↓reduceIte,Dt,Bi,i1];exact⟨_,rfl,by rw[ha],u,rfl⟩
 obtain⟨r,h',hr,rfl,u,rfl⟩:=Ik.ret;exact⟨u,hr⟩
theorem qn{l:List Int}{q:Int->Bool}:decide (0<=B9 q 0 l)=l.any q:=by
 rcases GR (p:=q) (l:=l) (k:=0) with⟨h1,h2⟩|⟨n,y,h1,h2,h3⟩
 .rw[h1,eq_comm];have:=ZA.1 h2;simpa using this
 .rw[h1,eq_comm];have h4:=List.find?_some h3;have h5:=List.mem_of_find?_eq_some h3;rw[AD (by omega),List.any_eq_true];exact⟨y,h5,h4⟩
theorem BX.self(w:BX h bi a o c t G b){A':Ar}(e:A'=b.a):BX h bi a o c t G {b with a:=A'}:=by subst e;exact w
open Classical in
theorem cV{p bf:Int}(w:BX h bi a o c t G b)(ok:DG b)(rm:BQ b m):∃h' G',BE cx 47 [Pt bi 0,I x,I p,I bf] h (.tuple []) h'/\BX h' bi a o c t G' {b with a:=b.a.D0 x p bf}/\Df h (own bi G) h' (own bi G'):=by
 obtain⟨K1,V1,u1,r1,_,_⟩:=TB w ok rm p;have w1:=w.HB (u:=u1);have ec:∀v,Aa.cells (.ptr v)=[.ptr v]:=λ_=>rfl;have Hy:∀h2,(∃u,h2=h++u)->∃h' G',(∃er,BE cx 115 [Pt a 0,I p,I x,I bf] h2 (I er) h')/\BX h' bi a o c t G' {b with a:=b.a.Fg p x bf}/\Df h (own bi G) h' (own bi G'):=by
  rintro _ ⟨u,rfl⟩;have w2:=w.HB (u:=u);obtain⟨h',G',r,w',x'⟩:=w2.step (A':=b.a.Fg p x bf) (R:=λh'=>∃er,BE cx 115 [Pt a 0,I p,I x,I bf] (h++u) (I er) h') (λn m ps wa=>by obtain⟨er,h',Ip,r,wp,xp⟩:=aGH wa rm.Tq ok.ok (p:=p) (x:=x) (b:=bf);exact⟨h',n,m,Ip,⟨er,r⟩,wp,xp⟩)
  exact⟨h',G',r,w',w.CN.trans x'⟩
 by_cases k1:(b.a.nd p).kind=1
 .obtain⟨K2,V2,u2,r2,_,_⟩:=TB w1 ok rm x;have w2:=w1.HB (u:=u2);by_cases k2:(b.a.nd x).kind=4
  .obtain⟨n2,m2,jB,wa2⟩:=w2.w.pa;obtain⟨K,r3,hK⟩:=vy (x:=p) wa2 rm.Tq (rm.Tq.AZ ok.ok p);obtain⟨u3,r4⟩:=aGP (h:=h++u1++u2) (f:=114) (caps:=[.CA [Pt bi 0]]) (q:=λk=>decide ((b.a.nd k).kind=4)) hK (rm.Tq.AZ ok.ok p) (by decide) (λk _ u=>by have w3:=w2.HB (u:=u);obtain⟨K3,V3,u4,r5,_,_⟩:=TB w3 ok rm k;refine⟨u4,?_⟩;rw[Ab,mC,aAB];simp only[Az,r5.call])
   have r4':BE cx 112 [K,.func (.func 114) [] [.CA [Pt bi 0]]] (h++u1++u2) (.bool ((b.a.nd p).AZ.any λk=>decide ((b.a.nd k).kind=4))) (h++u1++u2++u3):=by rw[Ab,mB,aAA,<-qn];simp only[Az,r4.call]
   have w3:=w2.HB (u:=u3);by_cases k3:∃k∈(b.a.nd p).AZ,(b.a.nd k).kind=4
   .have e3:((b.a.nd p).AZ.any λk=>decide ((b.a.nd k).kind=4))=true:=by simpa using k3
    rw[e3] at r4';have e4:b.a.D0 x p bf=b.a:=by unfold Ar.D0;rw[if_pos ⟨k1,k2,k3⟩]
    refine⟨_,G,?_,w3.self e4,(w.CN.trans w1.CN).trans w2.CN⟩;rw[Ab,Vy,t47];simp only[Az,Bi,r1.call,k1,r2.call,k2,w2.l0,r3.call,r4'.call]
   .have e3:((b.a.nd p).AZ.any λk=>decide ((b.a.nd k).kind=4))=false:=by rw[List.any_eq_false];intro k hk;simpa using λe=>k3 ⟨k,hk,e⟩
    rw[e3] at r4';have e4:b.a.D0 x p bf=b.a.Fg p x bf:=by unfold Ar.D0;rw[if_neg (λh=>k3 h.2.2)]
    obtain⟨h',G',⟨er,r5⟩,w5,x5⟩:=Hy (h++u1++u2++u3) ⟨u1++u2++u3,by simp⟩;refine⟨h',G',?_,by rw[e4];exact w5,x5⟩;rw[Ab,Vy,t47];simp only[Az,Bi,r1.call,k1,r2.call,k2,w2.l0,r3.call,r4'.call,w3.l0,r5.call]
  .have e4:b.a.D0 x p bf=b.a.Fg p x bf:=by unfold Ar.D0;rw[if_neg (λh=>k2 h.2.1)]
   obtain⟨h',G',⟨er,r5⟩,w5,x5⟩:=Hy (h++u1++u2) ⟨u1++u2,by simp⟩;refine⟨h',G',?_,by rw[e4];exact w5,x5⟩;rw[Ab,Vy,t47];simp only[Az,Bi,r1.call,k1,r2.call,k2,w2.l0,r5.call]
 .have e4:b.a.D0 x p bf=b.a.Fg p x bf:=by unfold Ar.D0;rw[if_neg (λh=>k1 h.1)]
  obtain⟨h',G',⟨er,r5⟩,w5,x5⟩:=Hy (h++u1) ⟨u1,rfl⟩;refine⟨h',G',?_,by rw[e4];exact w5,x5⟩;rw[Ab,Vy,t47];simp only[Az,Bi,r1.call,k1,w1.l0,r5.call]
theorem aGQ(w:BX h bi a o c t G b)(ok:DG b)(rm:BQ b m)(p:Int):∃u,BE cx 111 [Pt bi 0,I p] h (I (b.Im p)) (h++u):=by
 obtain⟨K1,V1,u1,r1,_,_⟩:=TB w ok rm p;have w1:=w.HB (u:=u1);unfold BS.Im;by_cases hc:(b.a.nd p).cont=0
 .refine⟨u1,?_⟩;rw[if_neg (by simp[hc]),Ab,YV,ju];simp only[Az,Bi,r1.call,hc,ne_eq,Cu,w1.l1];refine⟨λh1=>?_,λh1=>?_⟩;·rw[if_pos h1]
  .rw[if_neg h1]
 .obtain⟨K2,V2,u2,r2,_,_⟩:=TB w1 ok rm (b.a.nd p).cont;have w2:=w1.HB (u:=u2);refine⟨u1++u2,?_⟩;rw[if_pos hc,<-AB,Ab,YV,ju];simp only[Az,Bi,r1.call,r2.call,hc,ne_eq,w2.l1];refine⟨λh1=>?_,λh1=>?_⟩;·rw[if_pos h1]
  .rw[if_neg h1]
def M8(nm:As)(av:Aa)(r:List Aa):Prop:=∃c0 c2 c3 c4 c5 c6 c7 c9 Tm U0,r=[c0,.str nm,c2,c3,c4,c5,c6,c7,av,c9,Tm,U0]
theorem LZ:Aa.agg Item.zero.row= .agg [I 0,I 0,S [],ff]:=rfl
variable{nm:As}{av:Aa}{l:List AW}{r:List Aa}{sp p:Int}
theorem BQ.len{k:Nat}(rm:BQ b k)(hk:3<=k):b.a.len+3<=1000000000:=by have:=rm.n;unfold Ar.len;omega
theorem az(w:BX h bi a o c t G b)(ok:DG b)(rm:BQ b (m+3))(hr:M8 nm av r)(hv:Bx l av)(hl:DL l)(hn:nm.length<=1000)(p sp:Int):
  ∃h' G',BE cx 46 [Pt bi 0,.agg r,I sp,I p] h (.agg (b.FE nm l sp).row) h'/\BX h' bi a o c t G' (b.D9 nm l sp p)/\Df h (own bi G) h' (own bi G'):=by
 obtain⟨c0,c2,c3,c4,c5,c6,c7,c9,Tm,U0,rfl⟩:=hr;by_cases hs:BS.Ho sp
 .obtain⟨u1,r1,hu⟩:=aLC (h:=h) hv hl.1 sp;have w1:=w.HB (u:=[.map (ft 11)]);obtain⟨u2,r2⟩:=aGQ w1 ok rm p;have w2:=w1.HB (u:=u2);have hd:=Sa ok (p:=p);have sp2:∀y∈l.map (CM sp),BS.Ho y.AX:=by intro y hy;obtain⟨z,_,rfl⟩:=Bk.1 hy;exact iF
  obtain⟨h',G',⟨r3,_⟩,w3,x3⟩:=w2.step (A':=b.a.elem (b.Im p) sp (BS.Io sp nm) (l.map (CM sp))) (R:=λh'=>BE cx 110 [Pt a 0,I (b.Im p),I sp,.str (BS.Io sp nm),u1] (h++[.map (ft 11)]++u2) (.tuple [I (b.a.len+1),I 0]) h'/\True) (λn m ps wa=>by obtain⟨h',n',m',Ip,r,wp,xp,_⟩:=aGz wa rm.Tq (rm.len (by omega)) hd hs hu (by rw[Ai];have:=hl.1;omega) sp2 (nm:=BS.Io sp nm);exact⟨h',n',m',Ip,⟨r,trivial⟩,wp,xp⟩)
  have r4:=f96 (h:=h') hu (λy hy=>by obtain⟨z,hz,rfl⟩:=Bk.1 hy;rw[XH];have:=(hl.2 z hz).2;have:AS=140737488355328:=rfl;omega) (by rw[Ai];have:=hl.1;omega) sp (BS.Io sp nm);have em:Aw (.Br [I 0,I 0,S [],ff] [(0,1),(1,1),(2,1),(3,1)]) [I (b.a.len+1),I sp,.str (BS.Io sp nm),.bool (EH sp (BS.Io sp nm) (l.map (CM sp)))]=some (.agg (b.FE nm l sp).row):=by rw[Xy];unfold BS.FE;rw[if_pos hs]
  refine⟨h',G',?_,by unfold BS.D9;rw[if_pos hs];exact w3,(w.CN.trans w1.CN).trans x3⟩;have s1:¬sp<0:=by have:=hs.1;omega
  have s2:¬7<sp:=by have:=hs.2;omega
  have hlen:=λ(y:Item)=>@Item.Co y;rw[Ab,iT,t46];by_cases h2:sp=2
  .have e:BS.Io sp nm=Ca nm HX:=by unfold BS.Io;rw[if_pos h2]
   rw[e] at r3 r4 em;subst h2;simp only[Az,↓reduceIte,AI,Bi,EB,(HC w).call,s1,s2,Fj,r1.call,Ds,Cu,(aKL nm).Be rfl rfl,w1.l0,r2.call,w2.l0,Bv,r3.call,ne_eq,r4.call,em,hlen]
  .have e:BS.Io sp nm=nm:=by unfold BS.Io;rw[if_neg h2]
   rw[e] at r3 r4 em;simp only[Az,↓reduceIte,AI,Bi,EB,(HC w).call,s1,s2,Fj,r1.call,h2,w1.l0,r2.call,w2.l0,Bv,r3.call,ne_eq,Cu,r4.call,em,hlen]
 .refine⟨h,G,?_,by unfold BS.D9;rw[if_neg hs];exact w,.refl⟩;have e:b.FE nm l sp=Item.zero:=by unfold BS.FE;rw[if_neg hs]
  rw[e,LZ,Ab,iT,t46];unfold BS.Ho at hs;by_cases h1:sp<0;·simp only[Az,↓reduceIte,AI,Bi,(HC w).call,h1,Ds]
  .simp only[Az,↓reduceIte,AI,Bi,(HC w).call,h1,Fj,show 7<sp by omega,Ds]
end
section
variable{h h':Ae}{bi a:Nat}{o c t:Aa}{G G' F:Nat->Prop}{b:BS}{x:Int}{m:Nat}
theorem Bd{k:Nat}{v:Aa}:Df h (own bi G) (put h bi k v) (own bi G):=⟨by rw[IB];exact Ac _,λi _ hn=>B4 λe=>hn (.inl e),λ_ h=> .inl h⟩
theorem BX.put{k:Nat}{v o' c' t':Aa}{b':BS}(w:BX h bi a o c t G b)(e:(EI a b o c t).set k v=EI a b' o' c' t')(ea:b'.a=b.a)(ho:BM b'.AR o')(ht:Dh b'.tm t'):BX (Am.put h bi k v) bi a o' c' t' G b':=
 ⟨by rw[Hn w.hb,e];exact AN w.lt,ho,ht,by rw[ea];exact w.w.CP λi hi=>B4 λe=>w.nb (e▸hi),w.nb⟩
theorem BX.Ia{u:Aa}{l:List Item}(w:BX h bi a o c t G b)(hu:BM l u):BX (Am.put h bi 2 u) bi a u c t G {b with AR:=l}:=w.put rfl rfl hu w.t
theorem BX.Kf{u:Aa}{l:List Cd}(w:BX h bi a o c t G b):BX (Am.put h bi 3 u) bi a o u t G {b with A4:=l}:=w.put rfl rfl w.o w.t
theorem BX.st{k:Nat}{v v0:Aa}(w:BX h bi a o c t G b)(hk:(EI a b o c t)[k]?=some v0)(hv:v.cells=[v]):Cv h 1 (Pt bi k) v=some (Am.put h bi k v):=At.store (v:=v0) ⟨_,w.hb,hk⟩ hv
variable{nm:As}{av:Aa}{l:List AW}{r:List Aa}{sp p:Int}
theorem aLF(w:BX h bi a o c t G b)(ok:DG b)(rm:BQ b (m+4))(hr:M8 nm av r)(hv:Bx l av)(hl:DL l)(hn:nm.length<=1000)(sp:Int):
  ∃h' o' G',BE cx 141 [Pt bi 0,.func (.func 46) [Pt bi 0] [],.agg r,I sp] h (I (b.Oj sp)) h'/\BX h' bi a o' c t G' (b.Ex nm l sp)/\Df h (own bi G) h' (own bi G'):=by
 obtain⟨u1,r1⟩:=qm w ok rm 0;have w1:=w.HB (u:=u1);obtain⟨h2,G2,r2,w2,x2⟩:=az (m:=m+1) w1 ok (rm.le (by omega)) hr hv hl hn (b.place 0).1 sp;have Fy:=hr;obtain⟨c0,c2,c3,c4,c5,c6,c7,c9,Tm,U0,rfl⟩:=hr;have ho:=rm.AR;by_cases hs:BS.Ho sp
 .have a_:=(Mp (nm:=nm) (at_:=l) (p:=(b.place 0).1) ok hs).1;have S2:=H7 (m:=m+1) (nm:=nm) (sp:=sp) (p:=(b.place 0).1) (rm.le (by omega)) hl;have VP:(b.FE nm l sp).node=b.a.len+1:=by unfold BS.FE;rw[if_pos hs]
  have Tg:¬(b.a.len+1=0):=by unfold Ar.len;omega
  have MA:(b.D9 nm l sp (b.place 0).1).AR=b.AR:=by unfold BS.D9;rw[if_pos hs]
  obtain⟨h3,G3,r3,w3,x3⟩:=cV (x:=b.a.len+1) (p:=(b.place 0).1) (bf:=(b.place 0).2) w2 a_ S2;obtain⟨v4,r4,hv4⟩:=f95 w3.sO (by simp only[MA];omega) (b.FE nm l sp);refine⟨Am.put h3 bi 2 v4,v4,G3,?_,?_,((w.CN.trans x2).trans x3).trans Bd⟩
  .have hh:b.Oj sp=b.a.len+1:=by unfold BS.Oj;rw[if_pos hs]
   rw[Ab,YZ,ki,hh];simp only[Az,Nat.reduceAdd,↓reduceIte,Dt,Bi,EB,r1.call,show(46:Nat)<=99999 by decide,r2.call,VP,Tg,ne_eq,r3.call];have e:=@Item.Ny (b.FE nm l sp);rw[VP] at e;rw[<-e] at r4;simp only[e] at r4⊢;simp only[r4.call,Az]
  .have:=w3.Ia hv4;unfold BS.Ex;rw[if_pos hs];exact this
 .refine⟨h2,o,G2,?_,?_,w.CN.trans x2⟩
  .have e:b.FE nm l sp=Item.zero:=by unfold BS.FE;rw[if_neg hs]
   have hh:b.Oj sp=0:=by unfold BS.Oj;rw[if_neg hs]
   rw[e,LZ] at r2;rw[Ab,YZ,ki,hh];simp only[Az,Nat.reduceAdd,↓reduceIte,Dt,Bi,EB,r1.call,show(46:Nat)<=99999 by decide,r2.call,ne_eq,Cu]
  .have:b.Ex nm l sp=b.D9 nm l sp (b.place 0).1:=by unfold BS.Ex BS.D9;rw[if_neg hs,if_neg hs]
   rw[this];exact w2
theorem aGR(w:BX h bi a o c t G b)(ok:DG b)(rm:BQ b (m+4))(hr:M8 nm av r)(hv:Bx l av)(hl:DL l)(hn:nm.length<=1000)(sp:Int):
  ∃h' o' G',BE cx 58 [Pt bi 0,.agg r,I sp] h (I (b.Oj sp)) h'/\BX h' bi a o' c t G' (b.Ex nm l sp)/\Df h (own bi G) h' (own bi G'):=by
 obtain⟨h',o',G',r1,w',x'⟩:=aLF w ok rm hr hv hl hn sp;refine⟨h',o',G',?_,w',x'⟩;obtain⟨c0,c2,c3,c4,c5,c6,c7,c9,Tm,U0,rfl⟩:=hr;rw[Ab,yR,t58];simp only[Az,Bi,(HC w).call,r1.call]
theorem qo(w:BX h bi a o c t G b)(ok:DG b)(rm:BQ b (m+4))(hr:M8 nm av r)(hv:Bx l av)(hl:DL l)(hn:nm.length<=1000):
  ∃h' o' G',BE cx 29 [Pt bi 0,.agg r] h (I (b.a.len+1)) h'/\BX h' bi a o' c t G' (b.Ex nm l 1)/\Df h (own bi G) h' (own bi G'):=by
 obtain⟨h',o',G',r1,w',x'⟩:=aGR w ok rm hr hv hl hn 1;refine⟨h',o',G',?_,w',x'⟩;have hh:b.Oj 1=b.a.len+1:=by unfold BS.Oj;rw[if_pos IP]
 rw[hh] at r1;obtain⟨c0,c2,c3,c4,c5,c6,c7,c9,Tm,U0,rfl⟩:=hr;rw[Ab,yH,t29];simp only[Az,r1.call]
end
def BO(l:List Cd)(v:Aa):Prop:=∃fs:List B3,fs.map (·.c)=l/\C0 fs v
theorem S3{α β:Type}{f:α->β}{q:β->Bool}{l:List α}:AK q (l.map f)=AK (λx=>q (f x)) l:=by unfold AK;rw[<-List.map_reverse,List.findIdx?_map,Ai];rfl
theorem jG{α β:Type}{f:α->β}{l:List α}{k:Nat}:(A6 l k).map f=A6 (l.map f) k:=by unfold A6;simp
theorem qp{fs:List B3}:since fs=hZ (fs.map (·.c)):=by unfold since hZ;rw[S3];rfl
theorem VQ{n:Int}{fs:List B3}:GC n fs=EE n (fs.map (·.c)):=by unfold GC EE;rw[S3];rfl
theorem pD{nm:As}{fs:List B3}:Ml nm fs=FL nm (fs.map (·.c)):=by
 unfold Ml FL;rw[<-List.map_reverse];generalize fs.reverse=r;induction r with
 |nil=>rfl
 |cons x r ih=>simp only[Bl,lP,Oi,ih,Ai]
theorem aGS{e:Cd}{fs:List B3}:QZ e fs=lT e (fs.map (·.c)).reverse:=by
 unfold QZ;rw[<-List.map_reverse];generalize fs.reverse=r;induction r with
 |nil=>rfl
 |cons x r ih=>simp only[Bl,iw,lT,ih]
theorem aGT{e:Cd}{fs:List B3}:Mm e fs=cC e (fs.map (·.c)).reverse:=by
 unfold Mm;rw[<-List.map_reverse];generalize fs.reverse=r;induction r with
 |nil=>rfl
 |cons x r ih=>simp only[Bl,gX,cC,ih,Ai]
theorem cW{e:Cd}{e':B3}{fs:List B3}(he:e'.c=e):(Ku e fs++[e']).map (·.c)=cD e (fs.map (·.c)):=by
 unfold Ku cD;rw[aGS,aGT,BI,List.map_singleton,he];split;·rw[jG]
 .rfl
theorem T8{fs:List B3}:(fs.take (Eg fs)).map (·.c)=FD (fs.map (·.c)):=by unfold FD Eg;rw[HS,qp]
theorem pE{l:List Cd}{fs:List B3}(e:fs.map (·.c)=l)(h:∀x∈l,x.Ax.length<=1000):∀x∈fs,WK x:=by intro x hx;have:=h x.c (by rw[<-e];exact Bk.2 ⟨x,hx,rfl⟩);unfold WK;omega
section
variable{h h':Ae}{bi a:Nat}{o c t:Aa}{G G' F:Nat->Prop}{b:BS}{x:Int}{m:Nat}
variable{nm:As}{av:Aa}{l:List AW}{r:List Aa}{sp p:Int}
theorem aLG(w:BX h bi a o c t G b)(hc:BO b.A4 c)(ok:DG b)(rm:BQ b (m+5))(hr:M8 nm av r)(hv:Bx l av)(hl:DL l)(hn:nm.length<=1000):
  ∃h' o' c' G',BE cx 30 [Pt bi 0,.agg r] h (I (b.a.len+1)) h'/\BX h' bi a o' c' t G' (b.Jc nm l)/\BO (b.Jc nm l).A4 c'/\Df h (own bi G) h' (own bi G'):=by
 obtain⟨h1,o1,G1,r1,w1,x1⟩:=qo (m:=m+1) w ok (rm.le (by omega)) hr hv hl hn;obtain⟨fs,efs,hf⟩:=hc;have ha:=rm.A4;have GI:fs.length=b.A4.length:=by rw[<-efs,Ai]
 obtain⟨u,e',O1,r2,hu⟩:=f30 (h:=h1) (id:=bi) (o:=3) (l:=fs) ⟨c,w1.pB,hf⟩ (by omega) (pE efs λx hx=>((rm.Dl x hx).2).1) (e:=⟨⟨b.a.len+1,nm,l⟩,av,hv⟩) (by unfold WK;have:=hl.1;simp only;omega);refine⟨_,o1,u,G1,?_,w1.Kf (u:=u),?_,x1.trans Bd⟩
 .obtain⟨c0,c2,c3,c4,c5,c6,c7,c9,Tm,U0,rfl⟩:=hr;have Tg:¬(b.a.len+1=0):=by unfold Ar.len;omega
  have r2':BE cx 84 [Pt bi 3,.agg [I (b.a.len+1),.str nm,av]] h1 (.tuple []) (put h1 bi 3 u):=r2;have Wr:av.cells=[av]:=AL.cells hv;rw[Ab,yI,t30];simp only[Az,Nat.reduceLeDiff,↓reduceIte,AI,Bi,r1.call,Tg,ne_eq,Wr,r2'.call]
 .refine⟨_,?_,hu⟩;rw[cW O1,efs];unfold BS.Jc;simp only;rw[FF]
end
theorem aGU:∀x:Fin 64,(BitVec.ofInt 8 192|||BitVec.ofInt 8 (x.val:Int)).toNat=192+x.val:=by decide
theorem aGV:∀x:Fin 32,(BitVec.ofInt 8 224|||BitVec.ofInt 8 (x.val:Int)).toNat=224+x.val:=by decide
theorem aGW:∀x:Fin 16,(BitVec.ofInt 8 240|||BitVec.ofInt 8 (x.val:Int)).toNat=240+x.val:=by decide
theorem aGX:∀x:Fin 64,(BitVec.ofInt 8 128|||BitVec.ofInt 8 (x.val:Int)).toNat=128+x.val:=by decide
theorem aGY:∀x:Fin 256,(BitVec.ofInt 8 (x.val:Int)&&& BitVec.ofInt 8 63).toNat=x.val%64:=by decide
theorem pF{a b:Int}:Aw (.int .or) [.int .u8 a,.int .u8 b]=some (.int .u8 (IntKind.u8.wrap (BitVec.ofInt 8 a|||BitVec.ofInt 8 b).toNat)):=rfl
theorem aB6{a b:Int}:Aw (.int .and) [.int .u8 a,.int .u8 b]=some (.int .u8 (IntKind.u8.wrap (BitVec.ofInt 8 a&&& BitVec.ofInt 8 b).toNat)):=rfl
theorem ba{x:Nat}(h:x<64):Aw (.int .or) [.int .u8 192,.int .u8 (x:Int)]=some (.int .u8 ((192+x:Nat):Int)):=by rw[pF,aGU ⟨x,h⟩,IntKind.wrap_u8];congr 2;simp only;omega
theorem cX{x:Nat}(h:x<32):Aw (.int .or) [.int .u8 224,.int .u8 (x:Int)]=some (.int .u8 ((224+x:Nat):Int)):=by rw[pF,aGV ⟨x,h⟩,IntKind.wrap_u8];congr 2;simp only;omega
theorem bb{x:Nat}(h:x<16):Aw (.int .or) [.int .u8 240,.int .u8 (x:Int)]=some (.int .u8 ((240+x:Nat):Int)):=by rw[pF,aGW ⟨x,h⟩,IntKind.wrap_u8];congr 2;simp only;omega
theorem Kg{x:Nat}(h:x<64):Aw (.int .or) [.int .u8 128,.int .u8 (x:Int)]=some (.int .u8 ((128+x:Nat):Int)):=by rw[pF,aGX ⟨x,h⟩,IntKind.wrap_u8];congr 2;simp only;omega
theorem Kh{x:Nat}(h:x<256):Aw (.int .and) [.int .u8 (x:Int),.int .u8 63]=some (.int .u8 ((x%64:Nat):Int)):=by rw[aB6,aGY ⟨x,h⟩,IntKind.wrap_u8];congr 2;simp only;omega
theorem T9{n:Nat}:Aw (.int .shr) [.int .i32 (n:Int),.int .u64 6]=some (.int .i32 ((n/64:Nat):Int)):=by rw[show Aw (.int .shr) [.int .i32 (n:Int),.int .u64 6]=some (.int .i32 ((n:Int).fdiv 64)) from rfl,Int.fdiv_eq_ediv_of_nonneg _ (by omega)];rfl
theorem VR{n:Nat}:Aw (.int .shr) [.int .i32 (n:Int),.int .u64 12]=some (.int .i32 ((n/4096:Nat):Int)):=by rw[show Aw (.int .shr) [.int .i32 (n:Int),.int .u64 12]=some (.int .i32 ((n:Int).fdiv 4096)) from rfl,Int.fdiv_eq_ediv_of_nonneg _ (by omega)];rfl
theorem bc{n:Nat}:Aw (.int .shr) [.int .i32 (n:Int),.int .u64 18]=some (.int .i32 ((n/262144:Nat):Int)):=by rw[show Aw (.int .shr) [.int .i32 (n:Int),.int .u64 18]=some (.int .i32 ((n:Int).fdiv 262144)) from rfl,Int.fdiv_eq_ediv_of_nonneg _ (by omega)];rfl
theorem Sf{k:IntKind}{n:Nat}:Aw (.conv .u8) [.int k (n:Int)]=some (.int .u8 ((n%256:Nat):Int)):=by rw[TY,IntKind.wrap_u8];congr 2
theorem Zg{n:Int}:Aw (.conv .u32) [.int .i32 n]=some (.int .u32 (n%4294967296)):=by rw[TY,IntKind.wrap_u32]
theorem XM{n:Nat}(h:n<256):((UInt8.ofNat n).toNat:Int)=(n:Int):=by rw[UInt8.toNat_ofNat'];congr 1;omega
def dj(b:UInt8):Aa:= .int .u8 (b.toNat:Int)
theorem JK{h:Ae}{bs:As}(hb:bs≠[])(hl:bs.length<=8):Fo h 1 1 .slnil (.sl 1 (BZ bs))=some (h++[.cells (bs.map dj)],.Cm h.length 0 bs.length 1):=by
 have GI:∀bs:As,(BZ bs).flatten=bs.map dj:=by
  intro bs;induction bs with
  |nil=>rfl
  |cons c bs ih=>show[dj c]++(BZ bs).flatten=_;rw[ih];rfl
 cases bs with
 |nil=>exact absurd rfl hb
 |cons c bs=>
  have hm:AS=140737488355328:=rfl;have hlen:(BZ (c::bs)).length=(c::bs).length:=by simp[BZ]
  have e:BZ (c::bs)=[.int .u8 c.toNat]::BZ bs:=rfl;have e1:Gi h 1 (.sl 1 (BZ (c::bs)))=some (BZ (c::bs)):=by simp[Gi]
  unfold Fo;rw[e1,e];simp only
  rw[<-e,if_pos (by rw[hlen];omega),GI,hlen]
theorem aLH{h:Ae}(r:Int)(hr: -2147483648<=r/\r<=2147483647):BE cx 88 [.slnil,.int .i32 r] h (.Cm h.length 0 (GU r).length 1) (h++[.cells ((GU r).map dj)]):=by
 have one:∀{k1:Nat} (h1:k1<256),Aw (.By 1) [.int .u8 (k1:Int)]=some (.sl 1 (BZ [UInt8.ofNat k1])):=by intro k1 h1;simp only[BZ,Bl,DQ,XM h1];rfl
 have ZW:∀{k1 k2:Nat} (h1:k1<256) (h2:k2<256),Aw (.By 1) [.int .u8 (k1:Int),.int .u8 (k2:Int)]=some (.sl 1 (BZ [UInt8.ofNat k1,UInt8.ofNat k2])):=by intro k1 k2 h1 h2;simp only[BZ,Bl,DQ,XM h1,XM h2];rfl
 have Sx:∀{k1 k2 k3:Nat} (h1:k1<256) (h2:k2<256) (h3:k3<256),Aw (.By 1) [.int .u8 (k1:Int),.int .u8 (k2:Int),.int .u8 (k3:Int)]=some (.sl 1 (BZ [UInt8.ofNat k1,UInt8.ofNat k2,UInt8.ofNat k3])):=by intro k1 k2 k3 h1 h2 h3;simp only[BZ,Bl,DQ,XM h1,XM h2,XM h3];rfl
 have four:∀{k1 k2 k3 k4:Nat} (h1:k1<256) (h2:k2<256) (h3:k3<256) (h4:k4<256),Aw (.By 1) [.int .u8 (k1:Int),.int .u8 (k2:Int),.int .u8 (k3:Int),.int .u8 (k4:Int)]=some (.sl 1 (BZ [UInt8.ofNat k1,UInt8.ofNat k2,UInt8.ofNat k3,UInt8.ofNat k4])):=by intro k1 k2 k3 k4 h1 h2 h3 h4;simp only[BZ,Bl,DQ,XM h1,XM h2,XM h3,XM h4];rfl
 have ya:Aw (.By 1) [.int .u8 239,.int .u8 191,.int .u8 189]=some (.sl 1 (BZ [239,191,189])):=rfl;rw[Ab,zB,t88];simp only[Az,Zg];by_cases h0:0<=r
 .obtain⟨n,rfl⟩:=OX h0;have em:(n:Int)%4294967296=(n:Int):=by omega
  rw[em];by_cases c1:n<128
  .have e:GU (n:Int)=[UInt8.ofNat n]:=by unfold GU;rw[if_pos (by omega)];rfl
   have e8:n%256=n:=by omega
   rw[e];simp only[Az,Bi,show(n:Int)<=127 by omega,Sf,e8,one (show n<256 by omega),JK (bs:=[UInt8.ofNat n]) (by simp) (by simp)]
  .have aB7:BE cx 171 [.slnil,.int .i32 (n:Int)] h (.Cm h.length 0 (GU (n:Int)).length 1) (h++[.cells ((GU (n:Int)).map dj)]):=by
    rw[Ab,Y3,lp];simp only[Az,Zg,em];by_cases c2:n<2048
    .have e:GU (n:Int)=[UInt8.ofNat (192+n/64),UInt8.ofNat (128+n%64)]:=by unfold GU;rw[if_neg (by omega),if_pos (by omega)];rfl
     rw[e];have a1:n/64%256=n/64:=by omega
     have a2:n%256%64=n%64:=by omega
     simp only[Az,Bi,show(n:Int)<=2047 by omega,T9,Sf,a1,ba (show n/64<64 by omega),Kh (show n%256<256 by omega),a2,Kg (show n%64<64 by omega),ZW (show 192+n/64<256 by omega) (show 128+n%64<256 by omega),JK (bs:=[UInt8.ofNat (192+n/64),UInt8.ofNat (128+n%64)]) (by simp) (by simp)]
    .by_cases c3:n<65536/\¬(55296<=n/\n<57344)
     .have e:GU (n:Int)=[UInt8.ofNat (224+n/4096),UInt8.ofNat (128+n/64%64),UInt8.ofNat (128+n%64)]:=by unfold GU;rw[if_neg (by omega),if_neg (by omega),if_pos (by omega)];rfl
      rw[e];have a1:n/4096%256=n/4096:=by omega
      have a2:n/64%256%64=n/64%64:=by omega
      have a3:n%256%64=n%64:=by omega
      have g:=JK (h:=h) (bs:=[UInt8.ofNat (224+n/4096),UInt8.ofNat (128+n/64%64),UInt8.ofNat (128+n%64)]) (by simp) (by simp);have t3:=Sx (show 224+n/4096<256 by omega) (show 128+n/64%64<256 by omega) (show 128+n%64<256 by omega);by_cases c4:n<55296;·simp only[Az,Bi,show¬(n:Int)<=2047 by omega,show(n:Int)<55296 by omega,T9,VR,Sf,a1,cX (show n/4096<32 by omega),Kh (show n/64%256<256 by omega),a2,Kg (show n/64%64<64 by omega),Kh (show n%256<256 by omega),a3,Kg (show n%64<64 by omega),t3,g]
      .simp only[Az,Bi,show¬(n:Int)<=2047 by omega,show¬(n:Int)<55296 by omega,show(57343:Int)<n by omega,show(n:Int)<=65535 by omega,T9,VR,Sf,a1,cX (show n/4096<32 by omega),Kh (show n/64%256<256 by omega),a2,Kg (show n/64%64<64 by omega),Kh (show n%256<256 by omega),a3,Kg (show n%64<64 by omega),t3,g]
     .by_cases c5:65536<=n/\n<=1114111
      .have e:GU (n:Int)=[UInt8.ofNat (240+n/262144),UInt8.ofNat (128+n/4096%64),UInt8.ofNat (128+n/64%64),UInt8.ofNat (128+n%64)]:=by unfold GU;rw[if_neg (by omega),if_neg (by omega),if_neg (by omega),if_pos (by omega)];rfl
       rw[e];have a0:n/262144%256=n/262144:=by omega
       have a1:n/4096%256%64=n/4096%64:=by omega
       have a2:n/64%256%64=n/64%64:=by omega
       have a3:n%256%64=n%64:=by omega
       have g:=JK (h:=h) (bs:=[UInt8.ofNat (240+n/262144),UInt8.ofNat (128+n/4096%64),UInt8.ofNat (128+n/64%64),UInt8.ofNat (128+n%64)]) (by simp) (by simp);have t4:=four (show 240+n/262144<256 by omega) (show 128+n/4096%64<256 by omega) (show 128+n/64%64<256 by omega) (show 128+n%64<256 by omega);simp only[Az,Bi,show¬(n:Int)<=2047 by omega,show¬(n:Int)<55296 by omega,show(57343:Int)<n by omega,show¬(n:Int)<=65535 by omega,show(65535:Int)<n by omega,show(n:Int)<=1114111 by omega,T9,VR,bc,Sf,a0,bb (show n/262144<16 by omega),Kh (show n/4096%256<256 by omega),a1,Kg (show n/4096%64<64 by omega),Kh (show n/64%256<256 by omega),a2,Kg (show n/64%64<64 by omega),Kh (show n%256<256 by omega),a3,Kg (show n%64<64 by omega),t4,g]
      .have e:GU (n:Int)=[239,191,189]:=by unfold GU;rw[if_neg (by omega),if_neg (by omega),if_neg (by omega),if_neg (by omega)]
       rw[e];have g:=JK (h:=h) (bs:=[239,191,189]) (by simp) (by simp);by_cases c6:n<65536;·simp only[Az,Bi,show¬(n:Int)<=2047 by omega,show¬(n:Int)<55296 by omega,show¬(57343:Int)<n by omega,show¬(65535:Int)<n by omega,ya,g]
       .simp only[Az,Bi,show¬(n:Int)<=2047 by omega,show¬(n:Int)<55296 by omega,show(57343:Int)<n by omega,show¬(n:Int)<=65535 by omega,show(65535:Int)<n by omega,show¬(n:Int)<=1114111 by omega,ya,g]
   simp only[Az,Bi,show¬(n:Int)<=127 by omega,aB7.call]
 .have e:GU r=[239,191,189]:=by unfold GU;rw[if_neg (by omega),if_neg (by omega),if_neg (by omega),if_neg (by omega)]
  have g:=JK (h:=h) (bs:=[239,191,189]) (by simp) (by simp);have aB7:BE cx 171 [.slnil,.int .i32 r] h (.Cm h.length 0 (GU r).length 1) (h++[.cells ((GU r).map dj)]):=by rw[e,Ab,Y3,lp];simp only[Az,Bi,Zg,show¬(r%4294967296)<=2047 by omega,show¬(r%4294967296)<55296 by omega,show(57343:Int)<r%4294967296 by omega,show¬(r%4294967296)<=65535 by omega,show(65535:Int)<r%4294967296 by omega,show¬(r%4294967296)<=1114111 by omega,ya,g]
  simp only[Az,Bi,show¬(r%4294967296)<=127 by omega,aB7.call]
theorem VS(r:Int):(GU r).length<=4:=by unfold GU;split<;>(try split)<;>(try split)<;>(try split)<;>simp
theorem cY{l:List Int}{bf:Int}(hb:bf≠0->bf∈l):∃i,i<=l.length/\(bf=0->i=l.length)/\(bf≠0->B9 (λy=>decide (bf=y)) 0 l=(i:Int))/\R7 l bf=if i=0 then none else l[i-1]?:=by
 by_cases h0:bf=0
 .refine⟨l.length,Ac _,λ_=>rfl,λh=>absurd h0 h,?_⟩;unfold R7;rw[if_pos h0,dS];split;·rename_i h;rw[E1 (by omega)]
  .rfl
 .obtain⟨k,k1,k2,k3,k4,k5⟩:=Zf (hb h0);refine⟨k,by omega,λh=>absurd h h0,λ_=>k2,?_⟩;unfold R7;rw[if_neg h0,k4,dS,Al,Cn (by omega)];split;·rename_i h;subst h;simp
  .rw[Cg];rw[if_pos (by omega)]
theorem Zh{s u:As}(h:s.length+u.length<=2000000000):Aw (.str .add) [.str s,.str u]=some (.str (s++u)):=by
 have:s.length+u.length<=9223372036854775807:=by omega
 simp[Aw,ZL,this]
theorem XN:∀s:As,(BZ s).flatten=s.map dj
 |[]=>rfl
 |c::s=>by show[dj c]++(BZ s).flatten=_;rw[XN s];rfl
section
variable{h h':Ae}{bi a:Nat}{o c t:Aa}{G G' F:Nat->Prop}{b:BS}{x:Int}{m:Nat}
variable{nm:As}{av:Aa}{l:List AW}{r:List Aa}{sp p:Int}
theorem Zi{k d:Int}{s:As}(ok:DG b)(rm:BQ b (m+1))(hk:k=5\/k=6)(hd:b.a.has d/\(b.a.nd d).kind=1)(hs:s.length<=100000):DG {b with a:=b.a.add {kind:=k,Cy:=d,data:=s}}/\BQ {b with a:=b.a.add {kind:=k,Cy:=d,data:=s}} m:=
 ⟨ok.Jl (YP ok.ok (by unfold Ar.len;omega) hd hk) iC,rm.Ft (k:=1) (Mr (AO _) hs)⟩
theorem aLI(w:BX h bi a o c t G b)(ok:DG b)(rm:BQ b (m+5))(r:Int)(hr: -2147483648<=r/\r<=2147483647):
  ∃h' G',BE cx 31 [Pt bi 0,.int .i32 r] h (.tuple []) h'/\BX h' bi a o c t G' (b.iA r)/\Df h (own bi G) h' (own bi G'):=by
 obtain⟨u1,r1⟩:=qm w ok rm 0;obtain⟨hp,hbf⟩:=Vq ok (t:=0) (.inl rfl);have w1:=w.HB (u:=u1);unfold BS.iA;generalize(b.place 0).1=p at*;generalize(b.place 0).2=bf at*;obtain⟨K,V,u2,r2,hK,_⟩:=TB w1 ok rm p;have w2:=w1.HB (u:=u2);have x2:Df h (own bi G) (h++u1++u2) (own bi G):=w.CN.trans w1.CN;unfold BS.Kw;by_cases hk:(b.a.nd p).kind=4\/(b.a.nd p).kind=2;rotate_left
 .refine⟨_,G,?_,?_,x2⟩;·have k4:¬(b.a.nd p).kind=4:=λe=>hk (.inl e);have k2:¬(b.a.nd p).kind=2:=λe=>hk (.inr e);rw[Ab,Vx,t31];simp only[Az,Bi,(HC w).call,r1.call,r2.call,ne_eq,k4,k2]
  .rw[if_neg hk];exact w2
 rw[if_pos hk];obtain⟨i,hi,sH,Tn,hpv⟩:=cY (l:=(b.a.nd p).AZ) (bf:=bf) (λh=>by have:=hbf h;have h2:=(ok.ok.E8 bf this.1 (by rw[this.2];have:=hp.1;omega)).2;rwa [this.2] at h2);rw[hpv];have Oz:=rm.Tq.AZ ok.ok p;have ri:=aB0 (h:=h++u1++u2) (x:=bf) hK.Sd Oz;have r35:=aLH (h:=h++u1++u2) r hr;have ZE:=VS r;generalize hs:GU r=s at*;have f3:Kn (h++u1++u2++[.cells (s.map dj)]) (.Cm (h++u1++u2).length 0 s.length 1)=some (h++u1++u2++[.CG],.sl 1 (BZ s)):=by have GI:=XN s;have:=JF (h:=h++u1++u2++[.cells (s.map dj)]) (id:=(h++u1++u2).length) (z:=1) (Au:=BZ s) (by intro q hq;obtain⟨y,_,rfl⟩:=Bk.1 hq;rfl) (by rw[GI];simp);rw[show(BZ s).length=s.length by simp[BZ]] at this;rw[this];congr 2;rw[B2 _ _ (Ac _),DB];rfl
 have b3:Aw .S7 [.sl 1 (BZ s)]=some (.str s):=by simp[Aw,Uc,P2]
 have w3:=w2.HB (u:=[.CG]);have x3:Df h (own bi G) (h++u1++u2++[.CG]) (own bi G):=x2.trans w2.CN;have Zj:=ok.ok.Cy p hp;have new:∀h3,(∃u,h3=h++u1++u2++[.CG]++u)->∃h' h4 G',BE cx 90 [Pt a 0,I (b.a.nd p).Cy,.str s] h3 (.tuple [I (b.a.len+1),I 0]) h4/\BE cx 47 [Pt bi 0,I (b.a.len+1),I p,I bf] h4 (.tuple []) h'/\BX h' bi a o c t G' {b with a:=(b.a.add {kind:=5,Cy:=(b.a.nd p).Cy,data:=s}).D0 (b.a.len+1) p bf}/\Df h (own bi G) h' (own bi G'):=by
  rintro _ ⟨u,rfl⟩;have w4:=w3.HB (u:=u);obtain⟨h4,G4,⟨r4,_⟩,w5,x5⟩:=w4.step (A':=b.a.add (Hq 5 (b.a.nd p).Cy s).x) (R:=λh'=>BE cx 90 [Pt a 0,I (b.a.nd p).Cy,.str s] (h++u1++u2++[.CG]++u) (.tuple [I (b.a.len+1),I 0]) h'/\True) (λn m ps wa=>by obtain⟨h',r,wp,o1,l1⟩:=aLm (s:=s) wa rm.Tq (by have:=rm.n;unfold Ar.len;omega) Zj;exact⟨h',_,_,_,⟨r,trivial⟩,wp,wa.Rb rfl o1 l1⟩)
  obtain⟨X_,rm5⟩:=Zi (m:=m) (k:=5) (s:=s) ok (rm.le (by omega)) (.inl rfl) Zj (by omega);obtain⟨h',G',r6,w6,x6⟩:=cV (x:=b.a.len+1) (p:=p) (bf:=bf) w5 X_ rm5;exact⟨h',h4,G',r4,r6,w6,(x3.trans w3.CN).trans (x5.trans x6)⟩
 have kl:=(hK.Sd (h:=h++u1++u2)).len;have Nt:i<=1000000000:=by omega
 by_cases hz:i=0
 .subst hz;obtain⟨h',h4,G',r4,r6,w6,x6⟩:=new (h++u1++u2++[.CG]) ⟨[],by simp⟩;simp only[↓reduceIte];refine⟨h',G',?_,w6,x6⟩;rw[Ab,Vx,t31];rcases hk with hk|hk<;>by_cases h0:bf=0
  all_goals first|(rw[<-sH h0] at kl;simp only[Az,Bi,(HC w).call,r1.call,r2.call,hk,ne_eq,Cu,show¬(2:Int)=4 by decide,kl,AV h0,r35.call,f3,b3,show¬(0:Int)<((0:Nat):Int) by decide,w3.l0,r4.call,Cu,r6.call];done)|(rw[Tn h0] at ri;simp only[Az,Bi,(HC w).call,r1.call,r2.call,hk,ne_eq,Cu,show¬(2:Int)=4 by decide,kl,h0,r35.call,f3,b3,show¬(0:Int)<((0:Nat):Int) by decide,w3.l0,r4.call,Cu,r6.call,ri.call])
 .obtain⟨j,rfl⟩:∃j,i=j+1:=⟨i-1,by omega⟩;have hj:j<(b.a.nd p).AZ.length:=by omega
  rw[if_neg hz,GH,Af hj];simp only
  have ht:=ok.ok.LA p hp _ (AJ hj);obtain⟨q,e1,e2⟩:=(hK.Sd (h:=h++u1++u2++[.CG])).at_ j hj;obtain⟨K7,V7,u7,r7,_,_⟩:=TB w3 ok rm (b.a.nd p).AZ[j];have w7:=w3.HB (u:=u7);obtain⟨q',e1',e2'⟩:=(hK.Sd (h:=h++u1++u2++[.CG]++u7)).at_ j hj;rw[e1,BC] at e1';subst e1';have sb:Aw (.int .sub) [I ((j+1:Nat):Int),I 1]=some (I (j:Int)):=by have:=Hm (n:=j+1) (by omega) (by omega);simpa using this
  generalize hte:(b.a.nd p).AZ[j]=te at*;by_cases k5:(b.a.nd te).kind=5
  .rw[if_pos k5];have fK:=rm.data te;obtain⟨h8,G8,⟨r8,_⟩,w8,x8⟩:=w7.step (A':=b.a.Q5 te ((b.a.nd te).data++s)) (R:=λh'=>BE cx 89 [Pt a 0,I te,.str ((b.a.nd te).data++s)] (h++u1++u2++[.CG]++u7) (I 0) h'/\True) (λn m ps wa=>by obtain⟨h',Ip,r,wp,xp⟩:=aLn (s:=(b.a.nd te).data++s) wa rm.Tq ht.1 k5;exact⟨h',n,m,Ip,⟨r,trivial⟩,wp,xp⟩)
   refine⟨h8,G8,?_,w8,(x3.trans w3.CN).trans x8⟩;rw[Ab,Vx,t31];rcases hk with hk|hk<;>by_cases h0:bf=0
   all_goals first|(rw[<-sH h0] at kl;simp only[Az,Bi,(HC w).call,r1.call,r2.call,hk,ne_eq,Cu,show¬(2:Int)=4 by decide,kl,AV h0,r35.call,f3,b3,show(0:Int)<((j+1:Nat):Int) by omega,sb,e1,e2,r7.call,k5,w7.l0,e2',Zh (show(b.a.nd te).data.length+s.length<=2000000000 by omega),Cu,r8.call];done)|(rw[Tn h0] at ri;simp only[Az,Bi,(HC w).call,r1.call,r2.call,hk,ne_eq,Cu,show¬(2:Int)=4 by decide,kl,h0,r35.call,f3,b3,show(0:Int)<((j+1:Nat):Int) by omega,sb,e1,e2,r7.call,k5,w7.l0,e2',Zh (show(b.a.nd te).data.length+s.length<=2000000000 by omega),Cu,r8.call,ri.call])
  .rw[if_neg k5];obtain⟨h',h4,G',r4,r6,w6,x6⟩:=new _ ⟨u7,rfl⟩;refine⟨h',G',?_,w6,x6⟩;rw[Ab,Vx,t31];rcases hk with hk|hk<;>by_cases h0:bf=0
   all_goals first|(rw[<-sH h0] at kl;simp only[Az,Bi,(HC w).call,r1.call,r2.call,hk,ne_eq,Cu,show¬(2:Int)=4 by decide,kl,AV h0,r35.call,f3,b3,show(0:Int)<((j+1:Nat):Int) by omega,sb,e1,e2,r7.call,k5,w7.l0,r4.call,Cu,r6.call];done)|(rw[Tn h0] at ri;simp only[Az,Bi,(HC w).call,r1.call,r2.call,hk,ne_eq,Cu,show¬(2:Int)=4 by decide,kl,h0,r35.call,f3,b3,show(0:Int)<((j+1:Nat):Int) by omega,sb,e1,e2,r7.call,k5,w7.l0,r4.call,Cu,r6.call,ri.call])
theorem Lj{s:As}{p bf x:Int}{h0 h1:Ae}(hstart:(¬x=0/\p=x/\bf=0/\h1=h0)\/(x=0/\BE cx 85 [Pt bi 0,I 0] h0 (.tuple [I p,I bf]) h1))
  (w0:BX h0 bi a o c t G b) (x0:Df h0 (own bi G) h1 (own bi G)) (w:BX h1 bi a o c t G b) (ok:DG b) (rm:BQ b (m+1)) (hs:s.length<=100000):
  ∃h' G',BE cx 59 [Pt bi 0,.str s,I x] h0 (.tuple []) h'/\BX h' bi a o c t G' {b with a:=BS.Eo b.a s p bf}/\Df h0 (own bi G) h' (own bi G'):=by
 obtain⟨K,V,u2,r2,hK,_⟩:=TB w ok rm p;have w2:=w.HB (u:=u2);unfold BS.Eo;by_cases hk:J9 (b.a.nd p).kind
 .rw[if_pos hk];have hp:b.a.has p:=by
   by_cases hp:b.a.has p;·exact hp
   .rw[GM hp] at hk;unfold J9 at hk;simp at hk
  have Zj:=ok.ok.Cy p hp;obtain⟨h4,G4,⟨r4,_⟩,w5,x5⟩:=w2.step (A':=b.a.add (Hq 6 (b.a.nd p).Cy s).x) (R:=λh'=>BE cx 14 [Pt a 0,I (b.a.nd p).Cy,.str s] (h1++u2) (.tuple [I (b.a.len+1),I 0]) h'/\True) (λn m ps wa=>by obtain⟨h',r,wp,o1,l1⟩:=we (s:=s) wa rm.Tq (by have:=rm.n;unfold Ar.len;omega) Zj;exact⟨h',_,_,_,⟨r,trivial⟩,wp,wa.Rb rfl o1 l1⟩)
  obtain⟨X_,rm5⟩:=Zi (m:=m) (k:=6) (s:=s) ok rm (.inr rfl) Zj hs;obtain⟨h',G',r6,w6,x6⟩:=cV (x:=b.a.len+1) (p:=p) (bf:=bf) w5 X_ rm5;refine⟨h',G',?_,w6,(x0.trans w.CN).trans (x5.trans x6)⟩;rw[Ab,yS,t59];rcases hstart with⟨hx,rfl,rfl,rfl⟩|⟨hx,r1⟩
  .rcases hk with hk|hk|hk<;>simp only[Az,Bi,(HC w0).call,r2.call,hk,ne_eq,Cu,show¬(2:Int)=1 by decide,show¬(4:Int)=1 by decide,show¬(4:Int)=2 by decide,w2.l0,r4.call,r6.call,hx]
  .rcases hk with hk|hk|hk<;>simp only[Az,Bi,(HC w0).call,r2.call,hk,ne_eq,Cu,show¬(2:Int)=1 by decide,show¬(4:Int)=1 by decide,show¬(4:Int)=2 by decide,w2.l0,r4.call,r6.call,AV hx,r1.call]
 .rw[if_neg hk];refine⟨_,G,?_,w2,x0.trans w.CN⟩;unfold J9 at hk;have k1:¬(b.a.nd p).kind=1:=by omega
  have k2:¬(b.a.nd p).kind=2:=by omega
  have k4:¬(b.a.nd p).kind=4:=by omega
  rw[Ab,yS,t59];rcases hstart with⟨hx,rfl,rfl,rfl⟩|⟨hx,r1⟩
  .simp only[Az,Bi,(HC w0).call,r2.call,ne_eq,k1,k2,k4,hx]
  .simp only[Az,Bi,(HC w0).call,r2.call,ne_eq,k1,k2,k4,AV hx,r1.call]
theorem aLL(w:BX h bi a o c t G b)(ok:DG b)(rm:BQ b (m+1))(s:As)(hs:s.length<=100000)(x:Int):
  ∃h' G',BE cx 59 [Pt bi 0,.str s,I x] h (.tuple []) h'/\BX h' bi a o c t G' (b.JW s x)/\Df h (own bi G) h' (own bi G'):=by
 unfold BS.JW;by_cases h0:x=0;·rw[if_pos h0];obtain⟨u1,r1⟩:=qm w ok rm 0;exact Lj (p:=(b.place 0).1) (bf:=(b.place 0).2) (.inr ⟨h0,r1⟩) w w.CN (w.HB (u:=u1)) ok rm hs
 .rw[if_neg h0];exact Lj (p:=x) (bf:=0) (.inl ⟨h0,rfl,rfl,rfl⟩) w .refl w ok rm hs
theorem aLM(w:BX h bi a o c t G b)(ok:DG b)(rm:BQ b (m+4))(hr:M8 nm av r)(hv:Bx l av)(hl:DL l)(hn:nm.length<=1000)(st:Int):
  ∃h' o' G',BE cx 60 [Pt bi 0,.agg r,I st] h (.tuple []) h'/\BX h' bi a o' c t G' (b.OO nm l st)/\Df h (own bi G) h' (own bi G'):=by
 obtain⟨h1,o1,G1,r1,w1,x1⟩:=qo w ok rm hr hv hl hn;have s1:=w1.st (k:=18) (v:= I st) rfl rfl;have w2:BX (put h1 bi 18 (I st)) bi a o1 c t G1 {b.Ex nm l 1 with sw:=st}:=w1.put rfl rfl w1.o w1.t;have s2:=w2.st (k:=5) (v:= I (b.Ex nm l 1).mode) rfl rfl;have w3:BX (put (put h1 bi 18 (I st)) bi 5 (I (b.Ex nm l 1).mode)) bi a o1 c t G1 {b.Ex nm l 1 with sw:=st,Tp:=(b.Ex nm l 1).mode}:=w2.put rfl rfl w1.o w1.t;have s3:=w3.st (k:=4) (v:=I 8) rfl rfl;have w4:BX (put (put (put h1 bi 18 (I st)) bi 5 (I (b.Ex nm l 1).mode)) bi 4 (I 8)) bi a o1 c t G1 (b.OO nm l st):=w3.put rfl rfl w1.o w1.t;refine⟨_,o1,G1,?_,w4,((x1.trans Bd).trans Bd).trans Bd⟩;obtain⟨c0,c2,c3,c4,c5,c6,c7,c9,Tm,U0,rfl⟩:=hr;rw[Ab,aAo,t60];simp only[Az,(HC w).call,r1.call,w1.l4,s1,s2,s3]
theorem aLN(w:BX h bi a o c t G b)(rm:BQ b m):
  ∃h' o',BE cx 61 [Pt bi 0] h (.tuple []) h'/\BX h' bi a o' c t G b.IK/\Df h (own bi G) h' (own bi G):=by
 have ho:=rm.AR;have r1:=aKR w.sA (show b.AR.length<=1000000000 by omega) 3 (v:= .sl 1 ([wP].map CH)) (ws:=[wP]) CR (by decide);have em:Aw (.By 1) [S [112]]=some (.sl 1 ([wP].map CH)):=DE (ws:=[wP]) rfl (by decide);unfold BS.IK;by_cases hs:I1 (Bp [wP]) (IH 3) b.AR.reverse=true;·rw[if_pos hs];rw[hs] at r1;obtain⟨u1,r2,Nu⟩:=aGd w.sO (by omega) wP;have w1:=w.Ia Nu;have DW:=OK (b:=DZ wP) (a:=CC) (l:=b.AR);obtain⟨u2,r3,Il⟩:=f66 w1.sO (by simp only;omega) (w:= .sl 1 ([wP].map CH)) (ws:=[wP]) CR (by decide);refine⟨_,u2,?_,w1.Ia Il,Bd.trans Bd⟩;rw[Ab,yT,t61];simp only[Az,(HC w).call,em,r1.call,r2.call,r3.call]
 .rw[if_neg hs];rw[show I1 (Bp [wP]) (IH 3) b.AR.reverse=false by simpa using hs] at r1;refine⟨h,o,?_,w,.refl⟩;rw[Ab,yT,t61];simp only[Az,(HC w).call,em,r1.call]
end
section
variable{h h':Ae}{bi a:Nat}{o c t:Aa}{G G' F:Nat->Prop}{b:BS}{x:Int}{m:Nat}
variable{nm:As}{av:Aa}{l:List AW}{r:List Aa}{sp p:Int}
theorem Rd{α:Type}{l:List α}{n:Nat}(hn:n<l.length):(l.take (n+1)).reverse=l[n]::(l.take n).reverse:=by rw[Av hn,Nf];rfl
theorem aG0(w:BX h bi a o c t G b)(rm:BQ b m)(nm:As):
  ∃h' o',BE cx 63 [Pt bi 0,.str nm] h (.tuple []) h'/\BX h' bi a o' c t G (b.C1 nm)/\Df h (own bi G) h' (own bi G):=by
 have ho:=rm.AR;have Ik:Ev cx 63 [Pt bi 0,.str nm] h λr h'=>r= .tuple []/\∃o',BX h' bi a o' c t G (b.C1 nm)/\Df h (own bi G) h' (own bi G):=by
  unfold Ev;rw[yU,t63];simp only[Az,Bi,(HC w).call,(Tu w.sA).call,CJ (show -9223372036854775808<=(b.AR.length:Int)-1 by omega) (show(b.AR.length:Int)-1<9223372036854775808 by omega)];refine A9 (λn:Nat=>[I ((n:Int)-1)]) (λn h1=>n<=b.AR.length/\(b.AR.reverse.find? λi=>Bp [nm] i||Gc i)=((b.AR.take n).reverse.find? λi=>Bp [nm] i||Gc i)/\h1=h) (λn=>n) b.AR.length rfl ⟨Ac _,by rw[Bu],rfl⟩ ?_;rintro n h1 ⟨hn,ha,rfl⟩;cases n with
  |zero=>
   have e:b.C1 nm=b:=by unfold BS.C1;rw[ha];rfl
   simp only[Az,Bi,show¬(0:Int)<=((0:Nat):Int)-1 by omega];exact⟨_,rfl,rfl,o,by rw[e];exact w,.refl⟩
  |succ n=>
   have hlt:n<b.AR.length:=by omega
   have i1:((n+1:Nat):Int)-1=(n:Int):=by omega
   have r1:=VF w.sA (n:Int);rw[Hg hlt] at r1;have em:Aw (.By 1) [.str nm]=some (.sl 1 ([nm].map CH)):=DE (ws:=[nm]) rfl (by simp);have r2:=jF (ws:=[nm]) CR (by simp) b.AR[n] h1;rw[Rd hlt,I0] at ha;generalize hi:b.AR[n]=i at*;rw[Item.row] at r2;simp only[Az,Bi,EB,i1,show(0:Int)<=(n:Int) by omega,r1.call,em];have r2':BE cx 50 [.agg i.row,.sl 1 ([nm].map CH)] h1 (.bool (Bp [nm] i)) h1:=r2;rw[r2'.call,KO,Ct];refine⟨λh2=>?_,λh2=>?_⟩
   .obtain⟨u1,r3,Nu⟩:=aGd w.sO (by omega) nm;have w1:=w.Ia Nu;have DW:=OK (b:=DZ nm) (a:=CC) (l:=b.AR);obtain⟨u2,r4,Il⟩:=aGe w1.sO (by simp only;omega) i.node;simp only[Az,r3.call,r4.call];refine⟨_,rfl,rfl,u2,?_,Bd.trans Bd⟩;have e:b.C1 nm={b with AR:=Gd i.node (Dr (DZ nm) CC b.AR)}:=by unfold BS.C1;rw[ha];simp only[h2,da,BN]
    rw[e];exact w1.Ia Il
   .simp only[h2,Jg] at ha;simp only[(aFZ i.AX i.name).Be rfl rfl];rw[KO,Ct];refine⟨λh3=>?_,λh3=>?_⟩
    .have h3':Gc i=true:=h3;rw[h3'] at ha;have e:b.C1 nm=b:=by unfold BS.C1;rw[ha];simp only[h2,C2,Ea]
     simp only[Az];exact⟨_,rfl,rfl,o,by rw[e];exact w,.refl⟩
    .have h3':Gc i=false:=h3;rw[h3'] at ha;simp only[Az,CJ (show -9223372036854775808<=(n:Int)-1 by omega) (show(n:Int)-1<9223372036854775808 by omega)];exact AF.next n rfl ⟨by omega,ha,rfl⟩ (by omega)
 obtain⟨r,h',hr,rfl,o',w',x'⟩:=Ik.ret;exact⟨h',o',hr,w',x'⟩
theorem aG1(w:BX h bi a o c t G b)(rm:BQ b m){k:Nat}(hk:k<=b.AR.length):BE cx 204 [Pt bi 0,I (k:Int)] h (I (BS.IC (b.AR.take k))) h:=by
 have ho:=rm.AR;rw[Ab,nV,aBk];simp only[Az,CJ (show -9223372036854775808<=(k:Int)-1 by omega) (show(k:Int)-1<9223372036854775808 by omega)];refine A9 (λn:Nat=>[I 0,I ((n:Int)-1)]) (λn h1=>n<=k/\((b.AR.take k).reverse.find? λi=>Bp [A5] i||Bp [Ew] i)=((b.AR.take n).reverse.find? λi=>Bp [A5] i||Bp [Ew] i)/\h1=h) (λn=>n) k rfl ⟨Ac _,rfl,rfl⟩ ?_;rintro n h1 ⟨hn,ha,rfl⟩;cases n with
 |zero=>simp only[Az,Bi,show¬(0:Int)<=((0:Nat):Int)-1 by omega];unfold BS.IC;rw[ha];rfl
 |succ n=>
  have hlt:n<b.AR.length:=by omega
  have i1:((n+1:Nat):Int)-1=(n:Int):=by omega
  have r1:=VF w.sA (n:Int);rw[Hg hlt] at r1;have em1:Aw (.By 1) [S A5]=some (.sl 1 ([A5].map CH)):=DE (ws:=[A5]) rfl (by decide);have sL:Aw (.By 1) [S Ew]=some (.sl 1 ([Ew].map CH)):=DE (ws:=[Ew]) rfl (by decide);have r2:=jF (ws:=[A5]) CR (by decide) b.AR[n] h1;have r3:=jF (ws:=[Ew]) CR (by decide) b.AR[n] h1;rw[Rd hlt,I0] at ha;simp only[Az,Bi,i1,show(0:Int)<=(n:Int) by omega,r1.call,em1,r2.call,sL,r3.call,CJ (show -9223372036854775808<=(n:Int)-1 by omega) (show(n:Int)-1<9223372036854775808 by omega)];rw[Ct];refine⟨λh2=>?_,λh2=>?_⟩;·simp only[h2,da] at ha;unfold BS.IC;rw[ha];simp only[h2,BN]
  .simp only[h2,Jg] at ha;rw[Ct];refine⟨λh3=>?_,λh3=>?_⟩;·rw[h3] at ha;unfold BS.IC;rw[ha];simp only[h2,C2,Ea]
   .rw[h3] at ha;exact AF.next n rfl ⟨by omega,ha,rfl⟩ (by omega)
def jH(r:As×Int):List Aa:=[.str r.1,I r.2]
theorem Zk{z:Nat}{Au:List (List Aa)}{args:List Aa}(e:args=Au.map Aa.agg)(hz:∀r∈Au,r.length=z)(hl:Au.length*z<=16777216):Aw (.By z) args=some (.sl z Au):=by
 subst e;have e1:(Au.map Aa.agg).all (λa=>a.cells.length==z)=true:=by simp[Aa.cells];exact hz
 have e2:(Au.map Aa.agg).map (·.cells)=Au:=by rw[List.map_map];exact List.map_id _
 rw[lL,e1,e2];simp[hl]
theorem bd{args:List Aa}(e:args=(Iw.map jH).map Aa.agg):Aw (.By 2) args=some (.sl 2 (Iw.map jH)):=Zk e (λr hr=>by obtain⟨x,_,rfl⟩:=Bk.1 hr;rfl) (by decide)
theorem aG2:BE cx 203 [] h (.sl 2 (Iw.map jH)) h:=by rw[Ab,nU,aBj];simp only[Az,Nat.reduceLeDiff,↓reduceIte,AI,Bi];exact(Ce (λz=>Xs z λv=>[v]=[Aa.sl 2 (Iw.map jH)]) (bd rfl)).mpr (by rw[J6])
theorem OT{s:As}{i:Item}:Bp [s] i=decide (i.AX=1/\i.name=s):=by unfold Bp;simp
theorem sM{i:Item}{k:Nat}:b.Gn i k=match Iw.find? λr=>Bp [r.1] i with
  |some r=>some r.2
  |none=>if Bp [JX] i then some (BS.IC (b.AR.take k)) else if Bp [xU,xV] i&&decide (0<k) then some 15 else if Bp [A5] i then some (b.tm.getLast?.getD 7) else if Bp [Pu] i&&decide (0<k) then some 4 else if Bp [Dc] i then some (if b.head=0 then 3 else 6) else if k=0 then some 7 else none:=by
 unfold BS.Gn;by_cases hs:i.AX=1
 .rw[if_pos hs];have e:(λr:As×Int=>Bp [r.1] i)=λr=>decide (r.1=i.name):=by funext r;rw[OT,D1];exact⟨λh=>h.2.symm,λh=>⟨hs,h.symm⟩⟩
  rw[e];cases hf:Iw.find? λr=>decide (r.1=i.name) with
  |some r=>rfl
  |none=>simp only[Bp,hs,NC,AM,List.not_mem_nil,or_false,BK,DI]
 .rw[if_neg hs];have e:(λr:As×Int=>Bp [r.1] i)=λ_=>false:=by funext r;rw[OT,AA (λh=>hs h.1)]
  rw[e];have e2:Iw.find? (λ_=>false)=none:=by decide
  rw[e2];simp only[Bp,hs,false_and,Fj,C2,Ea,Bool.false_and]
theorem aG3(w:BX h bi a o c t G b)(rm:BQ b m)(i:Item){k:Nat}(hk:k<=b.AR.length):BE cx 122 [Pt bi 0,.agg i.row,I (k:Int)] h (.tuple [I ((b.Gn i k).getD 7),.bool (b.Gn i k).isSome]) h:=by
 have ho:=rm.AR;have htm:=rm.tm;have kS:AL 2 (Iw.map jH) (.sl 2 (Iw.map jH)):= .mk;have fi:=λws hw=>jF (ws:=ws) CR hw i h;rw[sM,Ab,mI,aAH];have hlen:Iw.length=9:=rfl;have lv:=kS.Cq;rw[hlen] at lv;simp only[Az,↓reduceIte,EB,aG2.call,lv];refine A9 (λn:Nat=>[I 0,ff,I (n:Int)]) (λn h1=>n<=9/\(Iw.find? λr=>Bp [r.1] i)=((Iw.drop n).find? λr=>Bp [r.1] i)/\h1=h) (λn=>9 -n) 0 rfl ⟨AO _,rfl,rfl⟩ ?_;rintro n h1 ⟨hn,ha,rfl⟩;rcases AT n 9 with hlt|D2
 .have Ra:n<Iw.length:=hlt;have em:Aw (.By 1) [.str Iw[n].1]=some (.sl 1 ([Iw[n].1].map CH)):=DE (ws:=[Iw[n].1]) rfl (by simp);rw[AG Ra,I0] at ha;simp only[Az,Nat.reduceLeDiff,↓reduceIte,Bi,show(n:Int)<((9:Nat):Int) by omega,kS.Bz Ra,jH,em,(fi [Iw[n].1] (by simp)).call,BG (show n<9223372036854775807 by omega)];rw[Ct];refine⟨λh2=>?_,λh2=>?_⟩;·rw[h2] at ha;rw[ha];simp
  .rw[h2] at ha;exact AF.next (n+1) rfl ⟨hlt,ha,rfl⟩ (by omega)
 .have h9:n=9:=by omega
  subst h9;have ha:(Iw.find? λr=>Bp [r.1] i)=none:=ha;rw[ha];have e1:Aw (.By 1) [S aTl]=some (.sl 1 ([JX].map CH)):=DE (ws:=[JX]) rfl (by decide);have e2:Aw (.By 1) [S [116,100],S [116,104]]=some (.sl 1 ([xU,xV].map CH)):=DE (ws:=[xU,xV]) rfl (by decide);have e3:Aw (.By 1) [S aSI]=some (.sl 1 ([A5].map CH)):=DE (ws:=[A5]) rfl (by decide);have e4:Aw (.By 1) [S aTs]=some (.sl 1 ([Pu].map CH)):=DE (ws:=[Pu]) rfl (by decide);have e5:Aw (.By 1) [S aSR]=some (.sl 1 ([Dc].map CH)):=DE (ws:=[Dc]) rfl (by decide);have q1:=fi [JX] (by decide);have q2:=fi [xU,xV] (by decide);have q3:=fi [A5] (by decide);have q4:=fi [Pu] (by decide);have q5:=fi [Dc] (by decide);have rs:=aG1 w rm hk;have lt:=(Dh.Sd (h:=h1) w.t);have i9:¬((9:Nat):Int)<((9:Nat):Int):=by decide
  have l6:=w.l6;have yt:b.tm≠[]->∃p,Aw (.int .sub) [I (b.tm.length:Int),I 1]=some (I ((b.tm.length-1:Nat):Int))/\Aw (.Fm 1) [t,I ((b.tm.length-1:Nat):Int)]=some p/\Bb h1 none p=some (I (b.tm.getLast?.getD 7)):=by intro hne;have hpos:=FX.2 hne;obtain⟨p,p1,p2⟩:=lt.at_ (b.tm.length-1) (by omega);refine⟨p,Hm hpos (by omega),p1,?_⟩;rw[p2,dS,Af (by omega)];rfl
  by_cases g1:Bp [JX] i=true;·rw[g1] at q1;simp only[Az,↓reduceIte,Bi,i9,e1,q1.call,rs.call,g1,Ib,Option.isSome_some]
  .have g1:Bp [JX] i=false:=by simpa using g1
   rw[g1] at q1;by_cases k0:0<k
   .have k1:¬k=0:=by omega
    have k2:¬(k:Int)=0:=by omega
    have k3:(0:Int)<(k:Int):=by omega
    cases g2:Bp [xU,xV] i<;>rw[g2] at q2;rotate_left;·simp only[Az,↓reduceIte,i9,e1,q1.call,e2,q2.call,k0,k3,g1,IV]
    cases g3:Bp [A5] i<;>rw[g3] at q3;rotate_left
    .by_cases ht:b.tm=[];·simp only[Az,↓reduceIte,i9,e1,q1.call,e2,q2.call,e3,q3.call,k0,k3,g1,IV,l6,lt.len,ht,Int.natCast_zero,Int.lt_irrefl,List.getLast?_nil]
     .obtain⟨p,p1,p2,p3⟩:=yt ht;have FJ:¬b.tm.length=0:=λe=>ht (tO.1 e);simp only[Az,↓reduceIte,i9,e1,q1.call,e2,q2.call,e3,q3.call,k0,k3,g1,IV,l6,lt.len,show(0:Int)<(b.tm.length:Int) by omega,p1,p2,p3]
    cases g4:Bp [Pu] i<;>rw[g4] at q4;rotate_left;·simp only[Az,↓reduceIte,i9,e1,q1.call,e2,q2.call,e3,q3.call,e4,q4.call,k0,k3,g1,IV]
    all_goals cases g5:Bp [Dc] i<;>rw[g5] at q5
    all_goals first
     |simp only[Az,↓reduceIte,i9,e1,q1.call,e2,q2.call,e3,q3.call,e4,q4.call,e5,q5.call,k0,k1,k2,k3,g1,IV];done
     |by_cases hh:b.head=0
      .simp only[Az,↓reduceIte,i9,e1,q1.call,e2,q2.call,e3,q3.call,e4,q4.call,e5,q5.call,k0,k2,k3,g1,IV,w.l7,hh]
      .simp only[Az,↓reduceIte,i9,e1,q1.call,e2,q2.call,e3,q3.call,e4,q4.call,e5,q5.call,k0,k2,k3,g1,IV,w.l7,hh]
   .have k1:k=0:=by omega
    subst k1;have k3:¬(0:Int)<((0:Nat):Int):=by decide
    have k2:((0:Nat):Int)=0:=rfl;by_cases g3:Bp [A5] i=true
    .rw[g3] at q3;cases g2:Bp [xU,xV] i<;>rw[g2] at q2<;>by_cases ht:b.tm=[];all_goals first
      |simp only[Az,↓reduceIte,i9,e1,q1.call,e2,q2.call,e3,q3.call,k2,g1,g3,IV,l6,lt.len,ht,Int.lt_irrefl,List.getLast?_nil,C8];done
      |obtain⟨p,p1,p2,p3⟩:=yt ht
       have FJ:¬b.tm.length=0:=λe=>ht (tO.1 e);simp only[Az,↓reduceIte,i9,e1,q1.call,e2,q2.call,e3,q3.call,k2,g1,g3,IV,l6,lt.len,show(0:Int)<(b.tm.length:Int) by omega,p1,p2,p3,C8]
    .have g3:Bp [A5] i=false:=by simpa using g3
     rw[g3] at q3;cases g2:Bp [xU,xV] i<;>rw[g2] at q2<;>cases g4:Bp [Pu] i<;>rw[g4] at q4<;>cases g5:Bp [Dc] i<;>rw[g5] at q5<;>by_cases hh:b.head=0;all_goals simp only[Az,↓reduceIte,i9,e1,q1.call,e2,q2.call,e3,q3.call,e4,q4.call,e5,q5.call,k2,g1,g3,IV,w.l7,hh,C8]
end
section
variable{h h':Ae}{bi a:Nat}{o c t:Aa}{G G' F:Nat->Prop}{b:BS}{x:Int}{m:Nat}
variable{nm:As}{av:Aa}{l:List AW}{r:List Aa}{sp p:Int}
theorem BX.sN(w:BX h bi a o c t G b):Bb h (some 4) (Pt bi 10)=some (.agg b.ctx.row):=by simp only[Bb,w.hb];rfl
theorem BX.cZ(w:BX h bi a o c t G b)(v:Int):BX (Am.put h bi 4 (I v)) bi a o c t G {b with mode:=v}:=w.put rfl rfl w.o w.t
theorem BQ.mode{v:Int}(rm:BQ b m):BQ {b with mode:=v} m:=⟨rm.n,rm.at_,rm.data,rm.AR,rm.A4,rm.tm,rm.Dl,rm.Wk⟩
theorem qq(w:BX h bi a o c t G b)(rm:BQ b m):
  ∃h',BE cx 51 [Pt bi 0] h (.tuple []) h'/\BX h' bi a o c t G b.HO/\Df h (own bi G) h' (own bi G):=by
 have ho:=rm.AR;have Ik:Ev cx 51 [Pt bi 0] h λr h'=>r= .tuple []/\BX h' bi a o c t G b.HO/\Df h (own bi G) h' (own bi G):=by
  unfold Ev;have w1:=w.cZ 7;rw[yP,t51];simp only[Az,Bi,(HC w).call,w.st (k:=4) (v:=I 7) rfl rfl,(Tu w1.sA).call,CJ (show -9223372036854775808<=(b.AR.length:Int)-1 by omega) (show(b.AR.length:Int)-1<9223372036854775808 by omega)];refine A9 (λn:Nat=>[I ((n:Int)-1)]) (λn h1=>n<=b.AR.length/\b.Kx b.AR.length=b.Kx n/\h1=Am.put h bi 4 (I 7)) (λn=>n) b.AR.length rfl ⟨Ac _,rfl,rfl⟩ ?_;rintro n h1 ⟨hn,ha,rfl⟩;cases n with
  |zero=>
   have e:b.HO={b with mode:=7}:=by unfold BS.HO;rw[ha];rfl
   simp only[Az,Bi,show¬(0:Int)<=((0:Nat):Int)-1 by omega];exact⟨_,rfl,rfl,by rw[e];exact w1,Bd⟩
  |succ n=>
   have hlt:n<b.AR.length:=by omega
   have i1:((n+1:Nat):Int)-1=(n:Int):=by omega
   have r1:=VF w1.sA (n:Int);rw[show GB ({b with mode:=7}:BS).AR (n:Int)=b.AR[n] from Hg hlt] at r1;have r2:∀i:Item,BE cx 122 [Pt bi 0,.agg i.row,I (n:Int)] (Am.put h bi 4 (I 7)) (.tuple [I ((b.Gn i n).getD 7),.bool (b.Gn i n).isSome]) (Am.put h bi 4 (I 7)):=λi=>aG3 w1 rm.mode i (k:=n) (by simp only;omega);have r3:=r2 (b.D4 n);have hst:∀v,Cv (Am.put h bi 4 (I 7)) 1 (Pt bi 4) (I v)=some (Am.put (Am.put h bi 4 (I 7)) bi 4 (I v)):=λv=>w1.st (k:=4) rfl rfl;have e:b.Kx (n+1)=match b.Gn (b.D4 n) n with|some m=>m|none=>b.Kx n:=rfl
   rw[e] at ha;have Qm:=w1.l9;have hlc:=w1.sN;have Nw:=CJ (show -9223372036854775808<=(n:Int)-1 by omega) (show(n:Int)-1<9223372036854775808 by omega);cases hm:b.Gn (b.D4 n) n with
   |none=>
    rw[hm] at r3 ha;by_cases h0:n=0
    .have Wx:((n:Int)=0)=True:=AV (by omega);cases hf:b.Jj with
     |true=>
      have er:b.D4 n=b.ctx:=by unfold BS.D4;rw[if_pos ⟨h0,hf⟩]
      rw[er] at r3;rw[show({b with mode:=7}:BS).Jj=true from hf] at Qm;simp only[Az,EB,i1,r1.call,Qm,hlc,r3.call,hst,IV,show(0:Int)<=(n:Int) by omega,Wx,Nw];exact AF.next n rfl ⟨by omega,ha,rfl⟩ (by omega)
     |false=>
      have er:b.D4 n=b.AR[n]:=by unfold BS.D4;rw[if_neg (by simp[hf]),AE,Af hlt];rfl
      rw[er] at r3;rw[show({b with mode:=7}:BS).Jj=false from hf] at Qm;simp only[Az,EB,i1,r1.call,Qm,hlc,r3.call,hst,IV,show(0:Int)<=(n:Int) by omega,Wx,Nw];exact AF.next n rfl ⟨by omega,ha,rfl⟩ (by omega)
    .have er:b.D4 n=b.AR[n]:=by unfold BS.D4;rw[if_neg (by simp[h0]),AE,Af hlt];rfl
     rw[er] at r3;have Wx:¬(n:Int)=0:=by omega
     simp only[Az,EB,i1,r1.call,r3.call,hst,IV,show(0:Int)<=(n:Int) by omega,Wx,Nw];exact AF.next n rfl ⟨by omega,ha,rfl⟩ (by omega)
   |some v=>
    rw[hm] at r3 ha;have e:b.HO={b with mode:=v}:=by unfold BS.HO;rw[ha]
    have w2:BX (Am.put (Am.put h bi 4 (I 7)) bi 4 (I v)) bi a o c t G b.HO:=by rw[e];exact w1.cZ v
    by_cases h0:n=0
    .have Wx:((n:Int)=0)=True:=AV (by omega);cases hf:b.Jj with
     |true=>
      have er:b.D4 n=b.ctx:=by unfold BS.D4;rw[if_pos ⟨h0,hf⟩]
      rw[er] at r3;rw[show({b with mode:=7}:BS).Jj=true from hf] at Qm;simp only[Az,EB,i1,r1.call,Qm,hlc,r3.call,hst,IV,show(0:Int)<=(n:Int) by omega,Wx];exact⟨_,rfl,rfl,w2,Bd.trans Bd⟩
     |false=>
      have er:b.D4 n=b.AR[n]:=by unfold BS.D4;rw[if_neg (by simp[hf]),AE,Af hlt];rfl
      rw[er] at r3;rw[show({b with mode:=7}:BS).Jj=false from hf] at Qm;simp only[Az,EB,i1,r1.call,Qm,hlc,r3.call,hst,IV,show(0:Int)<=(n:Int) by omega,Wx];exact⟨_,rfl,rfl,w2,Bd.trans Bd⟩
    .have er:b.D4 n=b.AR[n]:=by unfold BS.D4;rw[if_neg (by simp[h0]),AE,Af hlt];rfl
     rw[er] at r3;have Wx:¬(n:Int)=0:=by omega
     simp only[Az,EB,i1,r1.call,r3.call,hst,IV,show(0:Int)<=(n:Int) by omega,Wx];exact⟨_,rfl,rfl,w2,Bd.trans Bd⟩
 obtain⟨r,h',hr,rfl,w',x'⟩:=Ik.ret;exact⟨h',hr,w',x'⟩
theorem sP{h0 u:Ae}{V:Aa}{L:List AW}{N:Nat}(hN:N=h0.length)(hV:H9 (h0++u) V L)(hU:Up N V)(hb:L.length<=1000000000)(y:AW):
  ∃u' V',Fo (h0++u) 3 40 V (.sl 3 [y.row])=some (h0++u',V')/\H9 (h0++u') V' (L++[y])/\Up N V':=by
 subst hN;have aX:AS=140737488355328:=rfl;rcases hV with⟨rfl,rfl⟩|⟨id,rfl,hc,hl⟩
 .refine⟨u++[.cells (([y]:List AW).map AW.row).flatten],.Cm (h0++u).length 0 1 3,by rw[<-AB];rfl,.inr ⟨(h0++u).length,rfl,by simp,by simp⟩,λid k e=>by injection e with e;rw[<-e,Aq];omega⟩
 .have Hj:h0.length<=id:=hU id _ rfl;have hg:=IF (b:=40) (Au:=L.map AW.row) (r2:=[y.row]) (v:= .sl 3 [y.row]) (aBZ L) (by decide) hc .mk (by simp) (by rw[Ai];simp;omega);rw[Ai] at hg;have e:(h0++u).set id .CG++[.cells (L.map AW.row++[y.row]).flatten]=h0++(u.set (id-h0.length) .CG++[.cells ((L++[y]).map AW.row).flatten]):=by rw[B2 _ _ Hj,AB,BI];rfl
  rw[e] at hg;have Xp:(h0++(u.set (id-h0.length) De.CG++[.cells ((L++[y]).map AW.row).flatten]))=(h0++u.set (id-h0.length) De.CG)++[.cells ((L++[y]).map AW.row).flatten]:=by rw[AB]
  have ZG:(h0++u.set (id-h0.length) De.CG).length=(h0++u).length:=by simp
  refine⟨_,_,hg,.inr ⟨(h0++u).length,by simp,?_,?_⟩,λid k e=>by injection e with e;rw[<-e,Aq];omega⟩;·rw[Xp,<-ZG,Bg (Ac _),DB];rfl
  .rw[Xp];simp only[Aq,Bj,Bc,BT];omega
theorem aG4(y c:AW)(h:Ae):BE cx 149 [.agg c.row,.CA y.row] h (.bool (decide (Da ⟨0,y.name,y.value⟩=Da c))) h:=by
 rw[Ab,ku,aEW,AW.row,AW.row];simp only[Az];refine⟨λh1=>?_,λh1=>?_⟩;·congr 2;rw[D1];simp[Da,h1];exact eq_comm
 .rw[AA (λe=>h1 (by simp[Da] at e;exact e.1.symm))]
theorem AW.XO{y:AW}:(⟨0,y.name,y.value⟩:AW).row=[I 0,.str y.name,.str y.value]:=rfl
theorem Sg(k:Int×As):∀{l out:List AW},(GD out l).any (λz=>decide (k=Da z))=(out++l).any λz=>decide (k=Da z)
 |[],out=>by simp[GD]
 |y::l,out=>by
  rw[GD];split
  .rename_i h;rw[Sg k,List.any_append,List.any_append,List.any_cons];by_cases hk:k=Da y;·subst hk;rw[h];rfl
   .simp[hk]
  .rw[Sg k,AB];rfl
theorem be(k:Int×As)(l:List AW):(Cf l).any (λz=>decide (k=Da z))=l.any λz=>decide (k=Da z):=Sg k
theorem OU{l:List AW}{y:AW}:Cf (l++[y])=if(Cf l).any (λz=>decide (Da y=Da z)) then Cf l else Cf l++[y]:=VL
theorem aLO(w:BX h bi a o c t G b)(ok:DG b)(rm:BQ b (m+1000))(hr:M8 nm av r)(hv:Bx l av)(hl:DL l)(x:Int):
  ∃h' G',BE cx 64 [Pt bi 0,.agg r,I x] h (.tuple []) h'/\BX h' bi a o c t G' (b.GF l x)/\Df h (own bi G) h' (own bi G'):=by
 obtain⟨K1,V1,u1,r1,_,_⟩:=TB w ok rm x;have w1:=w.HB (u:=u1);obtain⟨c0,c2,c3,c4,c5,c6,c7,c9,Tm,U0,rfl⟩:=hr;have x1:Df h (own bi G) (h++u1) (own bi G):=w.CN;by_cases hk:(b.a.nd x).kind=4;rotate_left;·refine⟨h++u1,G,?_,by unfold BS.GF;rw[if_neg hk];exact w1,x1⟩;rw[Ab,yV,t64];simp only[Az,↓reduceIte,Bi,(HC w).call,r1.call,ne_eq,hk]
 obtain⟨K2,V2,u2,r2,_,hV,hU⟩:=TB w1 ok rm x;have w2:=w1.HB (u:=u2);have x2:Df h (own bi G) (h++u1++u2) (own bi G):=x1.trans w1.CN;have hx:b.a.has x:=by
  by_cases hp:b.a.has x;·exact hp
  .rw[GM hp] at hk;simp at hk
 have hal:=rm.at_ x;have eS:=hl.1;have Ik:Ev cx 64 [Pt bi 0,.agg [c0,.str nm,c2,c3,c4,c5,c6,c7,av,c9,Tm,U0],I x] h λr h'=>r= .tuple []/\∃G',BX h' bi a o c t G' (b.GF l x)/\Df h (own bi G) h' (own bi G'):=by
  unfold Ev;rw[yV,t64];have hvl:=AL.Cq hv;simp only[Az,↓reduceIte,Bi,(HC w).call,r1.call,r2.call,ne_eq,hk,hvl];refine A9 (λs:Aa×Nat=>[s.1,I (s.2:Int)]) (λs h1=>∃u L,h1=h++u1++u/\s.2<=l.length/\H9 h1 s.1 L/\Up (h++u1).length s.1/\Cf L=Cf ((b.a.nd x).Ax++BS.plain (l.take s.2))/\(∀y∈L,BS.Ho y.AX)/\L.length<=(b.a.nd x).Ax.length+s.2) (λs=>l.length-s.2) (V2,0) rfl ⟨u2,(b.a.nd x).Ax,rfl,AO _,hV,hU,?_,?_,by simp⟩ ?_;·simp[BS.plain]
  .exact λy hy=>(ok.ok.Q3 x hx).dg y hy
  rintro⟨V,n⟩ h1 ⟨u,L,rfl,hn,hV,hU,hL,hs,DW⟩;simp only at hn hV hU hL DW;rcases AT n l.length with hlt|D2
  .have e2:=AL.Bz (k:= .i64) hv hlt;rw[AW.row] at e2;have r3:=wh hV.in_ (by omega) (F:= .func (.func 149) [] [.CA l[n].row]) (q:=λc=>decide (Da ⟨0,l[n].name,l[n].value⟩=Da c)) ⟨_,_,rfl,by decide,λc=>aG4 l[n] c _⟩;rw[AW.row] at r3;obtain⟨u',V',g1,g2,g3⟩:=sP (N:=(h++u1).length) rfl hV hU (by omega) ⟨0,l[n].name,l[n].value⟩;rw[AW.XO] at g1;have em:Aw (.By 3) [.agg [I 0,.str l[n].name,.str l[n].value]]=some (.sl 3 [[I 0,.str l[n].name,.str l[n].value]]):=rfl;have e1:Cf ((b.a.nd x).Ax++BS.plain (l.take (n+1)))=Cf (L++[⟨0,l[n].name,l[n].value⟩]):=by rw[Av hlt,BS.plain,BI,<-AB,List.map_singleton,OU,OU,hL];rfl
   have e3:Cf (L++[⟨0,l[n].name,l[n].value⟩])=if L.any (λz=>decide (Da ⟨0,l[n].name,l[n].value⟩=Da z)) then Cf L else Cf L++[⟨0,l[n].name,l[n].value⟩]:=by rw[OU,be]
   simp only[Az,Nat.reduceLeDiff,↓reduceIte,AI,Bi,show(n:Int)<(l.length:Int) by omega,e2,r3.call,em,g1,BG (show n<9223372036854775807 by omega)];rw[Ct];refine⟨λh2=>?_,λh2=>?_⟩
   .refine AF.next (V',n+1) rfl ⟨u',_,rfl,hlt,g2,g3,e1.symm,?_,by simp;omega⟩ (by simp only;omega);intro y hy;rcases Ao.1 hy with hy|hy
    .exact hs y hy
    .simp at hy;subst hy;exact⟨by simp only;omega,by simp only;omega⟩
   .have h2:(L.any λz=>decide (Da ⟨0,l[n].name,l[n].value⟩=Da z))=true:=by simpa using h2
    rw[if_pos h2] at e3;exact AF.next (V,n+1) rfl ⟨u,L,rfl,hlt,hV,hU,by rw[e1,e3],hs,by simp only;omega⟩ (by simp only;omega)
  .have Nt:n=l.length:=by omega
   subst Nt;rw[Bu] at hL;simp only[Az,↓reduceIte,Bi,show¬(l.length:Int)<(l.length:Int) by omega,(w1.HB (u:=u)).l0];obtain⟨h3,G3,r3,w3,x3⟩:=(w1.HB (u:=u)).step (A':=b.a.Iu x L) (R:=λh3=>BE cx 150 [Pt a 0,I x,V] (h++u1++u) (I 0) h3) λn m ps wa=>by obtain⟨h',Ip,f1,f2,f3⟩:=aGs wa rm.Tq hx hk hV.in_ (by omega) hs;exact⟨h',n,m,Ip,f1,f2,f3⟩
   have e:b.GF l x={b with a:=b.a.Iu x L}:=by unfold BS.GF;rw[if_pos hk];unfold Ar.Iu;rw[hL]
   simp only[Az,r3.call];refine⟨_,rfl,rfl,G3,?_,?_⟩;·rw[e];exact w3
   .exact(x1.trans w1.CN).trans x3
 obtain⟨r,h',hr,rfl,G',w',x'⟩:=Ik.ret;exact⟨h',G',hr,w',x'⟩
end
section
variable{h h':Ae}{bi a:Nat}{o c t:Aa}{G G' F:Nat->Prop}{b b':BS}{x:Int}{m:Nat}
variable{nm:As}{av:Aa}{l:List AW}{r:List Aa}{sp p:Int}
theorem BQ.sub(rm:BQ b m)(ha:b'.a=b.a)(ho:b'.AR.Sublist b.AR)(hc:b'.A4.Sublist b.A4)(ht:b'.tm.length<=b.tm.length):BQ b' m:=
 ⟨by rw[ha];exact rm.n,by rw[ha];exact rm.at_,by rw[ha];exact rm.data,by have:=rm.AR;have:=ho.length_le;omega,by have:=rm.A4;have:=hc.length_le;omega,by have:=rm.tm;omega,λe he=>rm.Dl e (hc.subset he),λi hi=>rm.Wk i (ho.subset hi)⟩
theorem aG5{v:Aa}{l:List Int}(hv:Dh l v)(hb:l.length<=1000000000)(h:Ae):∃u,BE cx 53 [v] h u h/\Dh l u:=by
 have Du:AL 1 (l.map Cc) v:=hv;have hm:AS=140737488355328:=rfl;obtain⟨u,e,hu⟩:=AL.YC (l:=([]:List Int)) (f:=Cc) (v:= .sl 1 []) (b:=8) .mk Du (by simp;omega);rcases Du with rfl|⟨rfl,h0⟩
 .refine⟨u,?_,hu⟩;rw[Ab,iU,t53];simp only[Az,show Aw (.GL false .sl) [.sl 1 (l.map Cc),.slnil]=some (.bool false) from rfl,show Aw (.By 1) []=some (.sl 1 []) from rfl,e]
 .refine⟨.slnil,?_,.inr ⟨rfl,h0⟩⟩;rw[Ab,iU,t53];simp only[Az,show Aw (.GL false .sl) [.slnil,.slnil]=some (.bool true) from rfl]
theorem BX.jI{u:Aa}{l:List Int}(w:BX h bi a o c t G b)(hu:Dh l u):BX (Am.put h bi 6 u) bi a o c u G {b with tm:=l}:=w.put rfl rfl w.o hu
theorem dA:Aw (.By 1) [S aSI]=some (.sl 1 ([A5].map CH)):=DE (ws:=[A5]) rfl (by decide)
theorem aLP(w:BX h bi a o c t G b)(hc:BO b.A4 c)(rm:BQ b m):
  ∃h' o' c' t',BE cx 65 [Pt bi 0] h (.tuple []) h'/\BX h' bi a o' c' t' G b.C7/\BO b.C7.A4 c'/\Df h (own bi G) h' (own bi G):=by
 have ho:=rm.AR;have Rs:=rm.A4;have htm:=rm.tm;have r1:=aBU w.sA (by omega) A5;by_cases Fh:AK (Bp [A5]) b.AR<0;·refine⟨h,o,c,t,?_,by unfold BS.C7;rw[if_pos Fh];exact w,by unfold BS.C7;rw[if_pos Fh];exact hc,.refl⟩;rw[Ab,iW,t65];simp only[Az,Bi,(HC w).call,r1.call,Fh]
 obtain⟨u1,r2,Nu⟩:=aK1 w.sO (by omega);have w1:=w.Ia Nu;have l1:(Dr Cr CC b.AR).length<=b.AR.length:=OK;obtain⟨u2,r3,Il⟩:=f66 w1.sO (by simp only;omega) (CR (ws:=[A5])) (by decide);have w2:=w1.Ia Il;obtain⟨fs,Gr,hcs⟩:=hc;have GI:fs.length=b.A4.length:=by rw[<-Gr,Ai]
 obtain⟨u3,r4,qt⟩:=f65 (show RU _ bi 3 fs from⟨c,w2.pB,hcs⟩) (by omega);have w3:=w2.Kf (u:=u3) (l:=FD b.A4);have L3:BO (FD b.A4) u3:=⟨_,by rw[T8,Gr],qt⟩;have lt:=AL.Cq w.t;have l6:=w3.l6;have e:b.C7=BS.HO {b with AR:=Dr CC (Bp [A5]) (Dr Cr CC b.AR),A4:=FD b.A4,tm:=b.tm.dropLast}:=by unfold BS.C7;rw[if_neg Fh]
 have sO:(Dr CC (Bp [A5]) (Dr Cr CC b.AR)).Sublist b.AR:=(EF (p:=CC) (q:=Bp [A5]) (l:=Dr Cr CC b.AR)).trans EF;have x3:Df h (own bi G) (put (put (put h bi 2 u1) bi 2 u2) bi 3 u3) (own bi G):=(Bd.trans Bd).trans Bd;by_cases h0:b.tm=[]
 .have w3':BX (put (put (put h bi 2 u1) bi 2 u2) bi 3 u3) bi a u2 u3 t G {b with AR:=Dr CC (Bp [A5]) (Dr Cr CC b.AR),A4:=FD b.A4,tm:=b.tm.dropLast}:=by
   have:b.tm.dropLast=b.tm:=by rw[h0];rfl
   rw[this];exact w3
  obtain⟨h4,r5,w4,x4⟩:=qq w3' (rm.sub (b':={b with AR:=Dr CC (Bp [A5]) (Dr Cr CC b.AR),A4:=FD b.A4,tm:=b.tm.dropLast}) rfl sO (EX _ _) (by simp));refine⟨h4,u2,u3,t,?_,by rw[e];exact w4,by rw[e];exact L3,x3.trans x4⟩;have lt0:Aw (.len false) [t]=some (I 0):=by rw[lt,h0];rfl
  rw[Ab,iW,t65];simp only[Az,Bi,(HC w).call,r1.call,Fh,r2.call,dA,r3.call,r4.call,l6,lt0,r5.call,IV]
 .have hpos:=FX.2 h0;obtain⟨u4,e4,hu4⟩:=AL.Lb w.t (k:= .i64) (n:=b.tm.length-1) (by omega);rw[<-List.dropLast_eq_take] at hu4;obtain⟨u5,r5,hu5⟩:=aG5 hu4 (by simp;omega) (put (put (put h bi 2 u1) bi 2 u2) bi 3 u3);have w4:=w3.jI hu5;obtain⟨h5,r6,w5,x5⟩:=qq w4 (rm.sub (b':={b with AR:=Dr CC (Bp [A5]) (Dr Cr CC b.AR),A4:=FD b.A4,tm:=b.tm.dropLast}) rfl sO (EX _ _) (by simp));refine⟨h5,u2,u3,u5,?_,by rw[e];exact w5,by rw[e];exact L3,(x3.trans Bd).trans x5⟩;rw[Ab,iW,t65];simp only[Az,Bi,(HC w).call,r1.call,Fh,r2.call,dA,r3.call,r4.call,l6,lt,show(0:Int)<(b.tm.length:Int) by omega,Hm hpos (show b.tm.length<9223372036854775807 by omega),e4,r5.call,w3.st (k:=6) (v0:=t) rfl (AL.cells hu5),r6.call,IV]
theorem aLR(w:BX h bi a o c t G b):∃h',BE cx 66 [Pt bi 0] h (.tuple []) h'/\BX h' bi a o c t G {b with stop:=true}/\Df h (own bi G) h' (own bi G):=by refine⟨_,?_,w.put (k:=19) (v:= .bool true) rfl rfl w.o w.t,Bd⟩;rw[Ab,aAq,t66];simp only[Az,(HC w).call,w.st (k:=19) (v:=tt) rfl rfl]
theorem aG9(w:BX h bi a o c t G b)(rm:BQ b m):∃h' o',BE cx 68 [Pt bi 2] h (.agg b.iB.row) h'/\BX h' bi a o' c t G b.P9/\Df h (own bi G) h' (own bi G):=by
 have ho:=rm.AR;have ld:Bb h none (Pt bi 2)=some o:=w.ld 2;have lo:=AL.Cq w.o;unfold BS.P9 BS.iB;by_cases h2:b.AR.length<2;·refine⟨h,o,?_,by rw[if_pos h2];exact w,.refl⟩;rw[if_pos h2,Ab,YS,t68];simp only[Az,↓reduceIte,AI,Bi,(Tu w.sA).call,show(b.AR.length:Int)<2 by omega];rfl
 .obtain⟨u,e,hu⟩:=AL.Lb w.o (k:= .i64) (n:=b.AR.length-1) (by omega);refine⟨_,u,?_,by rw[if_neg h2];exact w.Ia hu,Bd⟩;rw[if_neg h2,Ab,YS,t68];simp only[Az,↓reduceIte,AI,Bi,EB,(Tu w.sA).call,show¬(b.AR.length:Int)<2 by omega,(f39 w.sA (by omega)).call,ld,lo,Hm (show 0<b.AR.length by omega) (show b.AR.length<9223372036854775807 by omega),e,w.st (k:=2) (v0:=o) rfl (AL.cells hu)]
end
end Go.Am
end
