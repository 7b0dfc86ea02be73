/- Lemmas -/
import Derived.Test.YtefjamneieebhaaGreatDoorS26
set_option linter.unusedVariables false
set_option linter.unusedSimpArgs false
section
namespace Go.Am
open Go
set_option maxRecDepth 100000
section
variable{h h':Ad}{a n:Nat}{m:Option Nat}{ps:List PN}{A:Ar}{x:Int}{F:Nat->Prop}
theorem dC{p:PN}(w:PA h a n m ps A)(hx:A.has x){i:Nat}(hi:i∈Fo a n m (ps.set (x.toNat-1) p)):i∈Fo a n m ps\/GQ p.kv=some i:=by
 obtain⟨e1,e2⟩:=VP w hx p;unfold Fo at hi⊢;rw[e2,Gq] at hi;simp only[AL,Ao,Ch] at hi⊢;rcases hi with h1|h1|h1|⟨q,h1,h2⟩|⟨q,h1,h2⟩
 .exact .inl (.inl h1)
 .exact .inl (.inr (.inl h1))
 .exact .inl (.inr (.inr (.inl h1)))
 .exact .inl (.inr (.inr (.inr ⟨q,Bf h1,h2⟩)))
 .rcases h1 with rfl|h1
  .exact .inr h2
  .exact .inl (.inr (.inr (.inr ⟨q,Bv h1,h2⟩)))
theorem bl{kv:Aa}{l:List Int}{k:Nat}(hk:Jf h kv l)(OH:k<=l.length)(hb:l.length<=1000000000)(y:Int):
  ∃h1,Ep .qH h [kv,I (k:Int),.sl 1 [[I y]]]=some (h1,.Cl h.length 0 (l.length+1) 1)/\h1[h.length]?=some (.cells ((l.take k++y::l.drop k).map (Aa.int .i64)))/\(∀i,i<h.length->GQ kv≠some i->h1[i]?=h[i]?)/\h1.length=h.length+1:=by
 rcases hk with⟨rfl,rfl⟩|⟨id,cs,rfl,hc⟩
 .have:k=0:=by simpa using OH
  subst this;exact⟨h++[.cells [I y]],rfl,by simp,λi hi _=>Af hi,by simp⟩
 .have Ht:=(Ah.1 hc).1;refine⟨h.set id .CG++[.cells ((l.take k++y::l.drop k).map (Aa.int .i64))],?_,by rw[Bg (by simp)];simp,λi hi hn=>?_,by simp⟩
  .simp only[Ep,OE,hc];rw[if_pos (by have:AS=140737488355328:=rfl;simp;omega)];simp only[AQ];have e1:(l.map (Aa.int .i64)++cs).take k=(l.take k).map (Aa.int .i64):=by rw[CT (by simpa using OH),HS]
   have e2:(l.map (Aa.int .i64)++cs).take l.length=l.map (Aa.int .i64):=KI (by simp);rw[e1,e2];simp
  .rw[Af (by simpa using hi),Aj];intro e;exact hn (by rw[e];rfl)
theorem Ni{p b:Int}(hf:¬yE A p x b):A.Fe p x b=A:=by unfold Ar.Fe;rw[if_neg hf]
theorem bm{l:List Int}{b y:Int}{k:Nat}(hb:b=0->k=l.length)(h2:b≠0->l.takeWhile (λy=>decide (y≠b))=l.take k/\l.dropWhile (λy=>decide (y≠b))=l.drop k):Ig l b y=l.take k++y::l.drop k:=by
 unfold Ig;by_cases h0:b=0;·rw[if_pos h0,hb h0];simp
 .rw[if_neg h0,(h2 h0).1,(h2 h0).2]
open Classical in
set_option maxHeartbeats 1000000 in
theorem aGy{e p b:Int}(w:PA h a n m ps A)(lm:L9 A)(ok:Eu A e):
  ∃er h' Iz,BI cx 159 [Pt a 0,I p,I x,I b] h (I er) h'/\PA h' a n m Iz (A.Fe p x b)/\De h (λi=>i∈Fo a n m ps) h' (λi=>i∈Fo a n m Iz):=by
 by_cases WW:A.has p/\A.has x;rotate_left;·refine⟨3,h,ps,?_,by rw[Ni (λf=>WW ⟨f.hp,f.hn⟩)];exact w,.refl⟩;rw[Ab,LJ,Za];simp only[AB,Bi,E3,(Kw (x:=p) (y:=x) w).call,if_neg WW,ne_eq,show¬(3:Int)=0 by decide]
 obtain⟨hp,hx⟩:=WW;by_cases hb:b≠0/\¬A.has b;·refine⟨3,h,ps,?_,by rw[Ni (λf=>hb.2 (f.hb hb.1).1)];exact w,.refl⟩;rw[Ab,LJ,Za];simp only[AB,Bi,E3,(Kw (x:=p) (y:=x) w).call,if_pos (And.intro hp hx),ne_eq,Cn,hb.1,(TE (x:=b) w).call,AA hb.2,AP]
 have Pl:b=0\/(b≠0/\A.has b):=by
  by_cases h0:b=0;·exact .inl h0
  .refine .inr ⟨h0,?_⟩;by_cases h1:A.has b;·exact h1
   .exact absurd ⟨h0,h1⟩ hb
 by_cases kp:J9 (A.nd p).kind;rotate_left
 .refine⟨4,h,ps,?_,by rw[Ni (λf=>kp f.kp)];exact w,.refl⟩;unfold J9 at kp;have k1:¬(A.nd p).kind=1:=λe=>kp (.inl e);have k2:¬(A.nd p).kind=2:=λe=>kp (.inr (.inl e));have k4:¬(A.nd p).kind=4:=λe=>kp (.inr (.inr e));rw[Ab,LJ,Za];rcases Pl with h0|⟨h0,MJ⟩
  .simp only[AB,Bi,E3,(Kw (x:=p) (y:=x) w).call,if_pos (And.intro hp hx),ne_eq,Cn,(H8 w lm hp).call,(H8 w lm hx).call,w.f0 hp,w.f0 hx,k1,AP,h0,k2,k4]
  .simp only[AB,Bi,E3,(Kw (x:=p) (y:=x) w).call,if_pos (And.intro hp hx),ne_eq,Cn,(H8 w lm hp).call,(H8 w lm hx).call,w.f0 hp,w.f0 hx,k1,AP,h0,(TE (x:=b) w).call,Az MJ,k2,k4]
 by_cases kn:(A.nd x).kind=1\/(A.nd x).kind=2
 .refine⟨4,h,ps,?_,by rw[Ni (λf=>by have:=f.kn;omega)];exact w,.refl⟩;rw[Ab,LJ,Za];rcases kp with k1|k1|k1<;>rcases kn with k2|k2<;>rcases Pl with h0|⟨h0,MJ⟩
  all_goals first|(simp only[AB,Bi,E3,(Kw (x:=p) (y:=x) w).call,if_pos (And.intro hp hx),ne_eq,Cn,(H8 w lm hp).call,(H8 w lm hx).call,w.f0 hp,w.f0 hx,k1,show¬(2:Int)=1 by decide,show¬(4:Int)=1 by decide,show¬(4:Int)=2 by decide,AP,h0,k2];done)|simp only[AB,Bi,E3,(Kw (x:=p) (y:=x) w).call,if_pos (And.intro hp hx),ne_eq,Cn,(H8 w lm hp).call,(H8 w lm hx).call,w.f0 hp,w.f0 hx,k1,show¬(2:Int)=1 by decide,show¬(4:Int)=1 by decide,show¬(4:Int)=2 by decide,AP,h0,(TE (x:=b) w).call,Az MJ,k2]
 have kn1:¬(A.nd x).kind=1:=λe=>kn (.inl e);have we:¬(A.nd x).kind=2:=λe=>kn (.inr e);have rc:=aGr w ok hx hp;by_cases re:Reach A x p
 .refine⟨4,h,ps,?_,by rw[Ni (λf=>f.re re)];exact w,.refl⟩;rw[Az re] at rc;rw[Ab,LJ,Za];rcases kp with k1|k1|k1<;>rcases Pl with h0|⟨h0,MJ⟩
  all_goals first|(simp only[AB,Bi,E3,(Kw (x:=p) (y:=x) w).call,if_pos (And.intro hp hx),ne_eq,Cn,(H8 w lm hp).call,(H8 w lm hx).call,w.f0 hp,w.f0 hx,k1,show¬(2:Int)=1 by decide,show¬(4:Int)=1 by decide,show¬(4:Int)=2 by decide,AP,h0,kn1,we,rc.call];done)|simp only[AB,Bi,E3,(Kw (x:=p) (y:=x) w).call,if_pos (And.intro hp hx),ne_eq,Cn,(H8 w lm hp).call,(H8 w lm hx).call,w.f0 hp,w.f0 hx,k1,show¬(2:Int)=1 by decide,show¬(4:Int)=1 by decide,show¬(4:Int)=2 by decide,AP,h0,(TE (x:=b) w).call,Az MJ,kn1,we,rc.call]
 rw[AA re] at rc;by_cases nf:b≠0/\(b=x\/(A.nd b).E6≠p)
 .refine⟨5,h,ps,?_,by rw[Ni (λf=>by have:=f.hb nf.1;rcases nf.2 with h|h;exact this.2.1 h;exact h this.2.2)];exact w,.refl⟩;obtain⟨h0,nf⟩:=nf;have MJ:=(Pl.resolve_left h0).2;rw[Ab,LJ,Za];by_cases hbx:b=x;·have aQJ:=hbx;rcases kp with k1|k1|k1<;>simp only[AB,Bi,E3,(Kw (x:=p) (y:=x) w).call,if_pos (And.intro hp hx),ne_eq,Cn,(H8 w lm hp).call,(H8 w lm hx).call,w.f0 hp,w.f0 hx,k1,show¬(2:Int)=1 by decide,show¬(4:Int)=1 by decide,show¬(4:Int)=2 by decide,AP,kn1,we,rc.call,hbx,show¬x=0 from hbx▸h0,Az hx,(TE (x:=x) w).call]
  .have nf:=nf.resolve_left hbx;rcases kp with k1|k1|k1<;>simp only[AB,Bi,E3,(Kw (x:=p) (y:=x) w).call,if_pos (And.intro hp hx),ne_eq,Cn,(H8 w lm hp).call,(H8 w lm hx).call,w.f0 hp,w.f0 hx,k1,show¬(2:Int)=1 by decide,show¬(4:Int)=1 by decide,show¬(4:Int)=2 by decide,AP,h0,(TE (x:=b) w).call,Az MJ,kn1,we,rc.call,hbx,(H8 w lm MJ).call,w.f1 MJ,nf]
 have fits:yE A p x b:=⟨hp,hx,λh0=>⟨(Pl.resolve_left h0).2,λe=>nf ⟨h0,.inl e⟩,by
  by_cases h1:(A.nd b).E6=p;·exact h1
  .exact absurd ⟨h0,.inr h1⟩ nf⟩,kp,⟨kn1,we⟩,re⟩
 have hA:A.Fe p x b=(A.cut x).L7 p x b:=by unfold Ar.Fe;rw[if_pos fits]
 obtain⟨h1,ZM,r1,w1,x1⟩:=aGu w lm ok hx;have TG:=iI ok hx we;have vq:=lm.cut (x:=x);have PH:(A.cut x).has p:=JX.2 hp;have LX:(A.cut x).has x:=JX.2 hx;have hxp:x≠p:=by rintro rfl;exact re .refl
 have qc:=vq.AY TG p;obtain⟨k,OH,hki,f_⟩:∃k,k<=((A.cut x).nd p).AY.length/\(b=0->k=((A.cut x).nd p).AY.length)/\(b≠0->B9 (λy=>decide (b=y)) 0 ((A.cut x).nd p).AY=(k:Int)/\((A.cut x).nd p).AY.takeWhile (λy=>decide (y≠b))=((A.cut x).nd p).AY.take k/\((A.cut x).nd p).AY.dropWhile (λy=>decide (y≠b))=((A.cut x).nd p).AY.drop k):=by
  by_cases h0:b=0;·exact⟨_,Ac _,λ_=>rfl,λh=>absurd h0 h⟩
  .have fb:=fits.hb h0;have bn:((A.cut x).nd b).E6=p:=by
    rw[Qc ok hx,if_neg fb.2.1];split;·exact fb.2.2
    .exact fb.2.2
   have qg:b∈((A.cut x).nd p).AY:=by have:=(TG.E6 b (JX.2 fb.1) (by rw[bn];have:=hp.1;omega)).2;rwa [bn] at this
   obtain⟨k,k1,k2,_,k4,k5⟩:=Zn qg;exact⟨k,by omega,λh=>absurd h h0,λ_=>⟨k2,k4,k5⟩⟩
 have Kr:=bm (y:=x) hki λh=>(f_ h).2;have LF:=w1.LF PH;obtain⟨h2,ei,HH,Wh,Xv⟩:=bl LF OH qc x;have hpp:=(w1.pn PH).2.1;obtain⟨q1,sU⟩:∃q1:PN,q1=⟨{(A.cut x).nd p with AY:=Ig ((A.cut x).nd p).AY b x},.Cl h1.length 0 (((A.cut x).nd p).AY.length+1) 1,(pN ZM p).av,w1.ba PH⟩:=⟨_,rfl⟩;have hq1x:q1.x={(A.cut x).nd p with AY:=Ig ((A.cut x).nd p).AY b x}:=by rw[sU]
 have hrow:q1.row=(pN ZM p).row.set 2 (.Cl h1.length 0 (((A.cut x).nd p).AY.length+1) 1):=by rw[sU];simp only[PN.row];rw[hpp];rfl
 have aGA:n∈Fo a n m ZM:=by simp[Fo]
 have hkn:GQ (pN ZM p).kv≠some n:=by intro e1;have:=w1.nd;unfold Fo at this;simp only[BV,AL,not_or] at this;exact this.2.1 (Ao.2 (.inr (Ch.2 ⟨_,(w1.pn PH).2.2,e1⟩)))
 have s2:=w1.sto PH (k:=2) (by decide) (v:= .Cl h1.length 0 (((A.cut x).nd p).AY.length+1) 1) rfl hrow (Wh n (w1.lt n aGA) hkn);have hlen:(Ig ((A.cut x).nd p).AY b x).length=((A.cut x).nd p).AY.length+1:=by rw[Kr,As,Bd,Al,A8];omega
 have w2:=w1.uC PH (p:=q1) (h1:=h2) (λi hi hn=>Wh i (w1.lt i hi) hn) (by rw[sU];refine .inr ⟨h1.length,[],by simp only[hlen],?_⟩;simp only[Kr,BC];exact HH) (.inr λj hj=>by rw[sU] at hj;cases hj;exact Ac _)
 have NI:∀i,i∈Fo a n m (ZM.set (p.toNat-1) q1)->i∈Fo a n m ZM\/i=h1.length:=by
  intro i hi;rcases dC w1 PH hi with h|h
  .exact .inl h
  .rw[sU] at h;cases h;exact .inr rfl
 generalize hh3:h2.set n (.cells ((ZM.set (p.toNat-1) q1).map PN.row).flatten)=h3 at s2 w2;generalize aQM:ZM.set (p.toNat-1) q1=jJ at w2 NI;rw[hq1x] at w2;have Yy:((A.cut x).set p {(A.cut x).nd p with AY:=Ig ((A.cut x).nd p).AY b x}).has x:=Hw.2 LX;have Rx:((A.cut x).set p {(A.cut x).nd p with AY:=Ig ((A.cut x).nd p).AY b x}).nd x=(A.cut x).nd x:=by rw[IK,if_neg (λh=>hxp h.1)]
 have WW:=(w2.pn Yy).2.1;obtain⟨h4,s4,w4,i4,o4,l4⟩:=w2.wr Yy (k:=1) (by decide) (v:= I p) rfl (p:=⟨{(A.cut x).nd x with E6:=p},(pN jJ x).kv,(pN jJ x).av,by have:=(pN jJ x).ok;rw[WW,Rx] at this;exact this⟩) (by simp only[PN.row];rw[WW,Rx];rfl) rfl (Cd Eg.AY Rx).symm;have aGB:(A.cut x).L7 p x b=((A.cut x).set p {(A.cut x).nd p with AY:=Ig ((A.cut x).nd p).AY b x}).set x {(A.cut x).nd x with E6:=p}:=by unfold Ar.L7;simp only;rw[Rx]
 refine⟨0,h4,_,?_,by rw[hA,aGB];exact w4,?_⟩
 .rw[Ab,LJ,Za];by_cases h0:b=0;·rw[hki h0] at ei;have kl:=LF.len;rcases kp with k1|k1|k1<;>simp only[AB,Bi,E3,(Kw (x:=p) (y:=x) w).call,if_pos (And.intro hp hx),ne_eq,Cn,(H8 w lm hp).call,(H8 w lm hx).call,w.f0 hp,w.f0 hx,k1,show¬(2:Int)=1 by decide,show¬(4:Int)=1 by decide,show¬(4:Int)=2 by decide,AP,h0,kn1,we,rc.call,r1.call,w1.f2 PH,kl,GC,ei,s2,s4]
  .have fb:=fits.hb h0;have MJ:=fb.1;have ri:=aB5 LF.Sm qc b;rw[(f_ h0).1] at ri;have kl:=LF.len;rcases kp with k1|k1|k1<;>simp only[AB,Bi,E3,(Kw (x:=p) (y:=x) w).call,if_pos (And.intro hp hx),ne_eq,Cn,(H8 w lm hp).call,(H8 w lm hx).call,w.f0 hp,w.f0 hx,k1,show¬(2:Int)=1 by decide,show¬(4:Int)=1 by decide,show¬(4:Int)=2 by decide,AP,h0,(TE (x:=b) w).call,Az MJ,kn1,we,rc.call,fb.2.1,(H8 w lm MJ).call,w.f1 MJ,fb.2.2,r1.call,w1.f2 PH,kl,ri.call,GC,ei,s2,s4]
 .have ZK:h3.length=h1.length+1:=by rw[<-hh3,Bj,Xv]
  have xx:De h1 (λi=>i∈Fo a n m ZM) h4 (λi=>i∈Fo a n m (jJ.set (x.toNat-1) ⟨{(A.cut x).nd x with E6:=p},(pN jJ x).kv,(pN jJ x).av,by have:=(pN jJ x).ok;rw[WW,Rx] at this;exact this⟩)):=by
   refine⟨by omega,λi hi hin=>?_,λi hi=>?_⟩;·have n1:i≠n:=λe1=>hin (e1▸aGA);rw[o4 i n1,<-hh3,Aj (DQ n1)];exact Wh i hi λe1=>hin (Kd (w1.pn PH).2.2 e1)
   .rw[i4] at hi;rcases NI i hi with h|h
    .exact .inl h
    .exact .inr (by omega)
  exact x1.trans xx
end
def Jg(a:Nat)(b:BS)(o c t:Aa):List Aa:=[Pt a 0,I b.Cy,o,c,I b.mode,I b.Q9,t,I b.head,I b.L0,.bool b.Im,I b.ctx.node,I b.ctx.AZ,.str b.ctx.name,.bool b.ctx.NA,.bool b.fs,.bool b.Eh,.str b.WR,.bool b.skip,I b.sw,.bool b.stop]
structure BX(h:Ad)(bi a:Nat)(o c t:Aa)(G:Nat->Prop)(b:BS):Prop where
 hb:h[bi]?=some (.cells (Jg a b o c t))
 o:BN b.AO o
 t:Dg b.tm t
 w:PW h G a b.a
 nb:¬G bi
section
variable{h:Ad}{bi a:Nat}{o c t:Aa}{G F:Nat->Prop}{b:BS}{x:Int}{m:Nat}
theorem BX.lt(w:BX h bi a o c t G b):bi<h.length:=(Ah.1 w.hb).1
theorem BX.CW{h':Ad}(w:BX h bi a o c t G b)(hf:∀i,i=bi\/G i->h'[i]?=h[i]?):BX h' bi a o c t G b:=
 ⟨by rw[hf bi (.inl rfl)];exact w.hb,w.o,w.t,w.w.CW λi hi=>hf i (.inr hi),w.nb⟩
theorem BX.HA(w:BX h bi a o c t G b){u:Ad}:BX (h++u) bi a o c t G b:=w.CW λi hi=>Af (by rcases hi with rfl|hi;exact w.lt;exact w.w.lt hi)
theorem BX.ld(w:BX h bi a o c t G b)(k:Nat):A6 h none (Pt bi k)=(Jg a b o c t)[k]?:=by simp only[A6,w.hb,Et]
theorem BX.l0(w:BX h bi a o c t G b):A6 h none (Pt bi 0)=some (Pt a 0):=w.ld 0
theorem BX.l1(w:BX h bi a o c t G b):A6 h none (Pt bi 1)=some (I b.Cy):=w.ld 1
theorem BX.l4(w:BX h bi a o c t G b):A6 h none (Pt bi 4)=some (I b.mode):=w.ld 4
theorem BX.l7(w:BX h bi a o c t G b):A6 h none (Pt bi 7)=some (I b.head):=w.ld 7
theorem BX.l9(w:BX h bi a o c t G b):A6 h none (Pt bi 9)=some (.bool b.Im):=w.ld 9
theorem BX.uM(w:BX h bi a o c t G b):A6 h none (Pt bi 15)=some (.bool b.Eh):=w.ld 15
theorem BX.l3(w:BX h bi a o c t G b):A6 h none (Pt bi 3)=some c:=w.ld 3
theorem BX.l6(w:BX h bi a o c t G b):A6 h none (Pt bi 6)=some t:=w.ld 6
theorem BX.atO(w:BX h bi a o c t G b):At h bi 2 o:=⟨_,w.hb,rfl⟩
theorem BX.pL(w:BX h bi a o c t G b):At h bi 3 c:=⟨_,w.hb,rfl⟩
theorem BX.sO(w:BX h bi a o c t G b):KG h bi 2 b.AO:=⟨o,w.atO,w.o⟩
theorem BX.sA(w:BX h bi a o c t G b):uJ h (Pt bi 2) b.AO:=w.sO.at
theorem Ho(w:BX h bi a o c t G b):BI cx 35 [Pt bi 0] h (.bool true) h:=by rw[Ab,yY,t35];simp only[AB,Bi,w.l0]
theorem PW.pa{A:Ar}(w:PW h G a A):∃n m ps,PA h a n m ps A:=let⟨n,m,ps,w,_⟩:=w;⟨n,m,ps,w⟩
theorem TH(w:BX h bi a o c t G b)(ok:DG b)(rm:BQ b m)(x:Int):∃K V u,BI cx 45 [Pt bi 0,I x] h (.agg [I (b.a.nd x).kind,I (b.a.nd x).E6,K,I (b.a.nd x).Cy,I (b.a.nd x).AZ,.str (b.a.nd x).name,V,.str (b.a.nd x).data,.str (b.a.nd x).pub,.str (b.a.nd x).sys,.bool (b.a.nd x).Cq,I (b.a.nd x).cont,I (b.a.nd x).DT]) (h++u)/\Dg (b.a.nd x).AY K/\H9 (h++u) V (b.a.nd x).Ax/\Up h.length V:=by obtain⟨n,m',ps,wa⟩:=w.w.pa;obtain⟨r,u,r1,K,V,rfl,hK,hV⟩:=aGf (x:=x) wa rm.Wo (rm.Wo.AY ok.ok x);refine⟨K,V,u,?_,hK,hV⟩;rw[Ab,zC,t45];simp only[AB,Bi,w.l0,r1.call]
theorem qk(w:BX h bi a o c t G b)(rm:BQ b m):BI cx 17 [Pt bi 0] h (.agg (D7 b.AO).row) h:=by have:=rm.AO;rw[Ab,yS,t17];simp only[AB,Bi,EB,(Ho w).call,(f39 w.sA (by omega)).call]
theorem aGC(w:BX h bi a o c t G b)(ok:DG b)(rm:BQ b m):BI cx 46 [Pt bi 0] h (.tuple [I b.I3.1,I b.I3.2]) h:=by
 have hl:=rm.AO;obtain⟨n,m',ps,wa⟩:=w.w.pa;have r1:=aBZ w.sA (show b.AO.length<=1000000000 by omega) Ew;have r2:=aBZ w.sA (show b.AO.length<=1000000000 by omega) A5;have b1:=JL (q:=Bp [Ew]) (l:=b.AO);have b2:=JL (q:=Bp [A5]) (l:=b.AO);unfold BS.I3;simp only
 generalize AJ (Bp [Ew]) b.AO=tb at r1 b1⊢;generalize AJ (Bp [A5]) b.AO=tp at r2 b2⊢;rw[Ab,zD,t46];simp only[AB,r1.call,r2.call];refine⟨λh1=>?_,λh1=>⟨λh2=>?_,λh2=>?_⟩⟩;·rw[if_pos h1];simp only[AB,EB,(f113 w.sA tp).call]
 .rw[if_neg h1,if_pos h2];simp only[AB,EB,(f113 w.sA 0).call]
 .rw[if_neg h1,if_neg h2];simp only[AB,Bi,EB,(f113 w.sA tb).call,w.l0,(aGg (x:=(Gy b.AO tb).node) wa rm.Wo).call];refine⟨λh3=>?_,λh3=>?_⟩;·rw[if_pos h3]
  .rw[if_neg h3];have e1:(if tb-1<0 then 0 else tb-1)=max (tb-1) 0:=by omega
   simp only[AB,EB,CJ (show -9223372036854775808<=tb-1 by omega) (show tb-1<9223372036854775808 by omega),YF,e1,(f113 w.sA (max (tb-1) 0)).call]
theorem XR:Aw (.Bx 1) [S Ew,S Sc,S Sd,S Se,S wTr]=some (.sl 1 (GO.map CH)):=DE (ws:=GO) rfl (by decide)
theorem jN{v:Aa}{ws:List Ap}(hv:IH ws v)(hn:ws.length<=1000000000)(a:Item)(h:Ad):BI cx 36 [.agg a.row,v] h (.bool (Bp ws a)) h:=by rw[Ab,yZ,t36];simp only[AB,EB,(aFZ hv hn _ h).call,Bp];refine⟨λh1=>by simp[h1],λh1=>by simp[h1]⟩
theorem bo{A:Ar}{x:Int}(hk:(A.nd x).kind=4)(ws:List Ap):Bp ws ⟨0,(A.nd x).AZ,(A.nd x).name,false⟩=decide (Ra ws A x):=by
 by_cases h:Ra ws A x;·rw[Az h];unfold Bp;rw[Az];exact⟨h.2.1,h.2.2⟩
 .rw[AA h];unfold Bp;rw[AA];exact λh2=>h ⟨hk,h2.1,h2.2⟩
theorem bq(w:BX h bi a o c t G b)(ok:DG b)(rm:BQ b m)(x:Int):∃u,BI cx 14 [Pt bi 0,I x] h (.tuple [I (b.place x).1,I (b.place x).2]) (h++u):=by
 have hl:=rm.AO;by_cases hA:x=0/\b.AO=[]
 .refine⟨[],?_⟩;have e1:b.place x=(b.Cy,0):=by unfold BS.place;rw[if_pos hA]
  rw[e1,BC,Ab,i5,t14];simp only[AB,Bi,(Ho w).call,hA.1,hA.2,Cn,(Sk w.sA).call,Int.natCast_zero,w.l1]
 .obtain⟨t',ht⟩:∃t',t'=if x=0 then(D7 b.AO).node else x:=⟨_,rfl⟩
  obtain⟨K1,V1,u1,r1,_,_⟩:=TH w ok rm t';have w1:=w.HA (u:=u1);have e1:b.place x=if(b.a.nd (if b.Eh=true/\Ra GO b.a t' then b.I3 else(t',0)).1).cont≠0 then((b.a.nd (if b.Eh=true/\Ra GO b.a t' then b.I3 else(t',0)).1).cont,0) else if b.Eh=true/\Ra GO b.a t' then b.I3 else(t',0):=by unfold BS.place;rw[if_neg hA,<-ht]
  obtain⟨pb,XL⟩:∃pb,pb=if b.Eh=true/\Ra GO b.a t' then b.I3 else(t',0):=⟨_,rfl⟩
  rw[<-XL] at e1;obtain⟨K2,V2,u2,r2,_,_⟩:=TH w1 ok rm pb.1;have rf:=aGC w1 ok rm;have ri:=jN (ws:=GO) CQ (by decide) ⟨0,(b.a.nd t').AZ,(b.a.nd t').name,false⟩ (h++u1);have em:∀s n,Aw (.Bs [I 0,I 0,S [],ff] [(1,1),(2,1)]) [I s,.str n]=some (.agg (Item.row ⟨0,s,n,false⟩)):=λ_ _=>rfl;refine⟨u1++u2,?_⟩;rw[<-AD];have last:∀(y:Int×Int),y=pb->W cx (.call 45 [Pt bi 0,I y.1] λv27=> .cells 13 v27 λc28=> .op (.int .neq) [g c28 11,I 0] λv29=> .AH v29 (.ret .ret [.tuple [g c28 11,I 0]]) (.ret .ret [.tuple [I y.1,I y.2]])) (λx_1 vs h1=>x_1=EK.ret/\vs=[.tuple [I (b.place x).1,I (b.place x).2]]/\h1=h++u1++u2) (h++u1):=by
   rintro _ rfl;rw[e1];simp only[AB,r2.call];refine⟨λh1=>?_,λh1=>?_⟩;·rw[if_pos h1]
   .rw[if_neg h1]
  rw[Ab,i5,t14];have uM:=w1.uM;have mid:W cx (.call 45 [Pt bi 0,I t'] λv13=> .cells 13 v13 λc14=> .Df 200009 (.op .KQ [Pt bi 0] λv15=> .op (.EC 15) [v15] λv16=> .load none v16 λv17=> .AH v17 (.op (.int .eql) [g c14 0,I 4] λv18=> .AH v18 (.op (.Bs [I 0,I 0,S [],ff] [(1,1),(2,1)]) [g c14 4,g c14 5] λv19=> .op (.Bx 1) [S aSv,S aSN,S aSK,S aSO,S [116,114]] λv20=> .call 36 [v19,v20] λv21=> .ret .normal [v21]) (.ret .normal [ff])) (.ret .normal [ff])) (λx c22=>match x with
    | .normal=> .Df 100046 (.AH (g c22 0) (.call 46 [Pt bi 0] λv23=> .op (.ext 0) [v23] λv24=> .op (.ext 1) [v23] λv25=> .ret .normal [v24,v25]) (.ret .normal [I t',I 0])) (λx c26=>match x with
     | .normal=> .call 45 [Pt bi 0,g c26 0] λv27=> .cells 13 v27 λc28=> .op (.int .neq) [g c28 11,I 0] λv29=> .AH v29 (.ret .ret [.tuple [g c28 11,I 0]]) (.ret .ret [.tuple [g c26 0,g c26 1]])
     | .exit i=> .fail
     | .ret=> .ret .ret [.tuple [g c26 0,g c26 1]])
    | .exit i=> .fail
    | .ret=> .ret .ret [.tuple [I t',I 0]])) (λx_1 vs h1=>x_1=EK.ret/\vs=[.tuple [I (b.place x).1,I (b.place x).2]]/\h1=h++u1++u2) h:=by
   rw[r1.call];by_cases hf:b.Eh=true
   .rw[hf] at uM;by_cases k4:(b.a.nd t').kind=4
    .rw[bo k4] at ri;by_cases hw:Ra GO b.a t';·rw[Az hw] at ri;rw[if_pos ⟨hf,hw⟩] at XL;have:=last b.I3 XL.symm;simp only[AB,Bi,uM,k4,em,XR,ri.call,rf.call];simpa only[AB,Bi,Bd,BT] using this
     .rw[AA hw] at ri;rw[if_neg (λh=>hw h.2)] at XL;have:=last (t',0) XL.symm;simp only[AB,Bi,uM,k4,em,XR,ri.call];simpa only[AB,Bi,Bd,BT] using this
    .rw[if_neg (λh=>k4 h.2.1)] at XL;have:=last (t',0) XL.symm;simp only[AB,Bi,uM,k4];simpa only[AB,Bi,Bd,BT] using this
   .rw[if_neg (λh=>hf h.1)] at XL;have:=last (t',0) XL.symm;rw[show b.Eh=false by simpa using hf] at uM;simp only[AB,uM];simpa only[AB,Bi,Bd,BT] using this
  by_cases h0:x=0
  .have hne:b.AO≠[]:=λe=>hA ⟨h0,e⟩;have hl0:¬((b.AO.length:Nat):Int)=0:=by have:=FU.2 hne;omega
   rw[if_pos h0] at ht;rw[ht] at mid;simp only[AB,Bi,(Ho w).call];rw[h0] at mid⊢;simp only[AB,Bi,EB,(Sk w.sA).call,hl0,(qk w rm).call] at mid⊢;exact mid
  .rw[if_neg h0] at ht;rw[ht] at mid;simp only[AB,Bi,(Ho w).call,h0,Fg] at mid⊢;exact mid
end
section
theorem sV{Q:Post}{h:Ad}{k:Aa->IT}:W cx (.O7 k) Q h↔W cx (k (.map (some h.length))) Q (h++[.map (ft 0)]):=M5
section
variable{v:Aa}{l:List AU}{h:Ad}
set_option maxHeartbeats 1000000 in
theorem aLF(hv:Bw l v)(hb:l.length<=1000)(sp:Int):∃u,BI cx 182 [I sp,v] h u (h++[.map (ft 11)])/\Bw (l.map (CM sp)) u:=by
 have Du:AM 3 (l.map AU.row) v:=hv;have Ik:Ev cx 182 [I sp,v] h λr h'=>h'=h++[.map (ft 11)]/\Bw (l.map (CM sp)) r:=by
  unfold Ev;rw[nM,aBa];rw[sV];simp only[AB,Nat.reduceLeDiff,↓reduceIte,AK,B8,iC,aEp,aEq,aEr,aEs,aEt,aEu,aEv,aEw,aEx,aEy,I_,Du.Cp];refine Bb (λp:Nat×Aa=>[p.2,I (p.1:Int)]) (λp h1=>p.1<=l.length/\Bw ((l.take p.1).map (CM sp)) p.2/\h1=h++[.map (ft 11)]) (λp=>l.length-p.1) (0,.slnil) rfl ⟨AR _,.nil,rfl⟩ ?_;rintro⟨n,u⟩ h1 ⟨hn,hu,rfl⟩;simp only at hn hu;rcases AT n l.length with hlt|D1
  .have i1:(n:Int)<(l.length:Int):=by omega
   have GK:∀{q:List Aa},q=(CM sp l[n]).row->∃w,Aw (.append 3 40) [u,.sl 3 [q]]=some w/\Bw ((l.take (n+1)).map (CM sp)) w:=by
    rintro _ rfl;refine⟨_,AM.Jb (f:=AU.row) (a:=CM sp l[n]) (b:=40) hu ?_,?_⟩;·simp[AS];omega
    .rw[Av hlt,BH];exact .mk
   have inc:=BF (show n<9223372036854775807 by omega);by_cases s2:sp=2
   .subst s2;cases ef:DF (Ca l[n].name Hd) with
    |some x=>obtain⟨w,e3,hw⟩:=GK (q:=[I x.1,.str x.2,.str l[n].value]) (by simp only[CM,Jc,true_or,BK,ef,AU.row]);simp only[AB,Nat.reduceLeDiff,↓reduceIte,AK,i1,Du.Bz hlt,B8,AU.row,(f235 _).Bc rfl rfl,Aq,Ak,Ag,La,ef,DO,e3,inc];exact AF.next (n+1,w) rfl ⟨hlt,hw,rfl⟩ (by simp only;omega)
    |none=>obtain⟨w,e3,hw⟩:=GK (q:=[I 0,.str (Ca l[n].name Hd),.str l[n].value]) (by simp only[CM,Jc,true_or,BK,ef,AU.row]);simp only[AB,Nat.reduceLeDiff,↓reduceIte,AK,i1,Du.Bz hlt,B8,AU.row,(f235 _).Bc rfl rfl,Aq,Ak,Ag,La,ef,DO,e3,inc];exact AF.next (n+1,w) rfl ⟨hlt,hw,rfl⟩ (by simp only;omega)
   by_cases s3:sp=3
   .subst s3;by_cases hd:l[n].name=J_
    .have ef:DF Tx=none:=by decide
     obtain⟨w,e3,hw⟩:=GK (q:=[I 0,.str Tx,.str l[n].value]) (by simp only[CM,Jc,hd,or_true,BK,D9,ef,AU.row,and_self,s2]);simp only[AB,Nat.reduceLeDiff,↓reduceIte,AK,i1,Du.Bz hlt,B8,AU.row,hd,show¬(3:Int)=2 by decide,Aq,An,Ak,Ag,La,ef,DO,e3,inc];exact AF.next (n+1,w) rfl ⟨hlt,hw,rfl⟩ (by simp only;omega)
    .cases ef:DF l[n].name with
     |some x=>obtain⟨w,e3,hw⟩:=GK (q:=[I x.1,.str x.2,.str l[n].value]) (by simp only[CM,Jc,hd,or_true,BK,D9,ef,AU.row,and_false,s2]);simp only[AB,Nat.reduceLeDiff,↓reduceIte,AK,i1,Du.Bz hlt,B8,AU.row,hd,show¬(3:Int)=2 by decide,Aq,An,Ak,Ag,La,ef,DO,e3,inc];exact AF.next (n+1,w) rfl ⟨hlt,hw,rfl⟩ (by simp only;omega)
     |none=>obtain⟨w,e3,hw⟩:=GK (q:=[I 0,.str l[n].name,.str l[n].value]) (by simp only[CM,Jc,hd,or_true,BK,D9,ef,AU.row,and_false,s2]);simp only[AB,Nat.reduceLeDiff,↓reduceIte,AK,i1,Du.Bz hlt,B8,AU.row,hd,show¬(3:Int)=2 by decide,Aq,An,Ak,Ag,La,ef,DO,e3,inc];exact AF.next (n+1,w) rfl ⟨hlt,hw,rfl⟩ (by simp only;omega)
   .obtain⟨w,e3,hw⟩:=GK (q:=[I 0,.str l[n].name,.str l[n].value]) (by simp only[CM,s2,s3,or_self,D9,AU.row]);cases ef:DF l[n].name with
    |some x=>simp only[AB,Nat.reduceLeDiff,↓reduceIte,AK,i1,Du.Bz hlt,B8,AU.row,s2,s3,Aq,An,Ak,Ag,La,ef,DO,e3,inc];exact AF.next (n+1,w) rfl ⟨hlt,hw,rfl⟩ (by simp only;omega)
    |none=>simp only[AB,Nat.reduceLeDiff,↓reduceIte,AK,i1,Du.Bz hlt,B8,AU.row,s2,s3,Aq,An,Ak,Ag,La,ef,DO,e3,inc];exact AF.next (n+1,w) rfl ⟨hlt,hw,rfl⟩ (by simp only;omega)
  .have i1:¬(n:Int)<(l.length:Int):=by omega
   rw[Ay D1] at hu;simp only[AB,Nat.reduceLeDiff,↓reduceIte,AK,i1,An,Ak,Ag];exact⟨_,rfl,hu⟩
 obtain⟨r,h',hr,rfl,hu⟩:=Ik.ret;exact⟨r,hr,hu⟩
theorem TI{Q:Post}{s:Ap}{k:Aa->IT}:W cx (.Bc 266 [.str aSk,.str s] k) Q h↔W cx (k (.str (Ca s Hd))) Q h:=by have e:=(aFV Mr s (by decide+kernel)).Bc (Q:=Q) (h:=h) (k:=k) rfl rfl;rw[Vg] at e;exact e
theorem Sn{Q:Post}{s:Ap}{k:Aa->IT}(hs:s.length<9223372036854775807):W cx (.Bc 140 [.str aSp,.str s] k) Q h↔W cx (k (.bool (decide (s∈KH)))) Q h:=by rw[Iy (by decide) hs,jb]
set_option maxHeartbeats 1000000 in
theorem f180(hv:Bw l v)(hs:∀a∈l,a.name.length<=1000)(hb:l.length<=1000)(sp:Int):∃u,BI cx 201 [I sp,v] h u h/\Bw (l.map (CM sp)) u:=by
 have Du:AM 3 (l.map AU.row) v:=hv;have Ik:Ev cx 201 [I sp,v] h λr h'=>h'=h/\Bw (l.map (CM sp)) r:=by
  unfold Ev;rw[nl,aFo];refine Bb (λp:Nat×Aa=>[p.2,I (p.1:Int)]) (λp h1=>p.1<=l.length/\Bw ((l.take p.1).map (CM sp)) p.2/\h1=h) (λp=>l.length-p.1) (0,.slnil) rfl ⟨AR _,.nil,rfl⟩ ?_;rintro⟨n,u⟩ h1 ⟨hn,hu,rfl⟩;simp only at hn hu;rcases AT n l.length with hlt|D1
  .have i1:(n:Int)<(l.length:Int):=by omega
   have GK:∀{q:List Aa},q=(CM sp l[n]).row->∃w,Aw (.append 3 40) [u,.sl 3 [q]]=some w/\Bw ((l.take (n+1)).map (CM sp)) w:=by
    rintro _ rfl;refine⟨_,AM.Jb (f:=AU.row) (a:=CM sp l[n]) (b:=40) hu ?_,?_⟩;·simp[AS];omega
    .rw[Av hlt,BH];exact .mk
   have inc:=BF (show n<9223372036854775807 by omega);have NF:=hs _ (AI hlt);have aB9:∀nm,(sp=2\/sp=3)->Jc sp l[n].name=nm->CM sp l[n]=match DF nm with
     |some (s,m)=>⟨s,m,l[n].value⟩
     |none=>⟨0,nm,l[n].value⟩:=by
    rintro _ hsp rfl;rw[CM,if_pos hsp];rfl
   by_cases s2:sp=2
   .subst s2;have hnm:=aB9 (Ca l[n].name Hd) (.inl rfl) rfl;have ZN:(Ca l[n].name Hd).length<9223372036854775807:=by rw[Q2];omega
    generalize hg:Ca l[n].name Hd=nm at hnm ZN;rcases PD nm with⟨c1,c6,ef⟩|⟨c1,⟨c2,c6,ef⟩|⟨c2,⟨c3,c6,ef⟩|⟨c3,⟨c4,ef⟩|⟨c4,⟨c5,ef⟩|⟨c5,ef⟩⟩⟩⟩⟩
    .obtain⟨w,e3,hw⟩:=GK (q:=[I 4,.str (nm.drop 6),.str l[n].value]) (by rw[hnm];simp only[ef,AU.row]);simp only[AB,Nat.reduceLeDiff,↓reduceIte,AK,Du.Cp,i1,Du.Bz hlt,B8,AU.row,hg,TI,show¬(2:Int)=3 by decide,Aq,An,Ak,Ag,Sn ZN,c1,sl6 c6,DO,e3,inc];exact AF.next (n+1,w) rfl ⟨hlt,hw,rfl⟩ (by simp only;omega)
    .obtain⟨w,e3,hw⟩:=GK (q:=[I 5,.str (nm.drop 4),.str l[n].value]) (by rw[hnm];simp only[ef,AU.row]);simp only[AB,Nat.reduceLeDiff,↓reduceIte,AK,Du.Cp,i1,Du.Bz hlt,B8,AU.row,hg,TI,show¬(2:Int)=3 by decide,Aq,An,Ak,Ag,Sn ZN,c1,AW c2,sl4 c6,DO,e3,inc];exact AF.next (n+1,w) rfl ⟨hlt,hw,rfl⟩ (by simp only;omega)
    .obtain⟨w,e3,hw⟩:=GK (q:=[I 5,.str (nm.drop 4),.str l[n].value]) (by rw[hnm];simp only[ef,AU.row]);simp only[AB,Nat.reduceLeDiff,↓reduceIte,AK,Du.Cp,i1,Du.Bz hlt,B8,AU.row,hg,TI,show¬(2:Int)=3 by decide,Aq,An,Ak,Ag,Sn ZN,c1,c2,AW c3,sl4 c6,DO,e3,inc];exact AF.next (n+1,w) rfl ⟨hlt,hw,rfl⟩ (by simp only;omega)
    .obtain⟨w,e3,hw⟩:=GK (q:=[I 6,.str nm,.str l[n].value]) (by rw[hnm];simp only[ef,AU.row]);simp only[AB,Nat.reduceLeDiff,↓reduceIte,AK,Du.Cp,i1,Du.Bz hlt,B8,AU.row,hg,TI,show¬(2:Int)=3 by decide,Aq,An,Ak,Ag,Sn ZN,c1,c2,c3,AW c4,DO,e3,inc];exact AF.next (n+1,w) rfl ⟨hlt,hw,rfl⟩ (by simp only;omega)
    .obtain⟨w,e3,hw⟩:=GK (q:=[I 6,.str iD,.str l[n].value]) (by rw[hnm];simp only[ef,AU.row]);simp only[AB,Nat.reduceLeDiff,↓reduceIte,AK,Du.Cp,i1,Du.Bz hlt,B8,AU.row,hg,TI,show¬(2:Int)=3 by decide,Aq,An,Ak,Ag,Sn ZN,c1,c2,c3,c4,AW c5,DO,e3,inc];exact AF.next (n+1,w) rfl ⟨hlt,hw,rfl⟩ (by simp only;omega)
    .obtain⟨w,e3,hw⟩:=GK (q:=[I 0,.str nm,.str l[n].value]) (by rw[hnm];simp only[ef,AU.row]);simp only[AB,Nat.reduceLeDiff,↓reduceIte,AK,Du.Cp,i1,Du.Bz hlt,B8,AU.row,hg,TI,show¬(2:Int)=3 by decide,Aq,An,Ak,Ag,Sn ZN,c1,c2,c3,c4,c5,DO,e3,inc];exact AF.next (n+1,w) rfl ⟨hlt,hw,rfl⟩ (by simp only;omega)
   by_cases s3:sp=3
   .subst s3;by_cases hd:l[n].name=J_
    .have hnm:=aB9 Tx (.inr rfl) (by rw[Jc,if_neg (by decide),if_pos ⟨rfl,hd⟩]);rw[show DF Tx=none by decide] at hnm;obtain⟨w,e3,hw⟩:=GK (q:=[I 0,.str Tx,.str l[n].value]) (by rw[hnm];rfl);have ZN:Tx.length<9223372036854775807:=by decide
     simp only[AB,Nat.reduceLeDiff,↓reduceIte,AK,Du.Cp,i1,Du.Bz hlt,B8,AU.row,hd,show¬(3:Int)=2 by decide,Aq,An,Ak,Ag,Sn ZN,show Tx∉KH by decide,show¬Tx=cB by decide,show¬Tx=Vm by decide,show¬Tx=cC by decide,show¬Tx=Vn by decide,DO,e3,inc];exact AF.next (n+1,w) rfl ⟨hlt,hw,rfl⟩ (by simp only;omega)
    have hnm:=aB9 l[n].name (.inr rfl) (by rw[Jc,if_neg (by decide),if_neg (λh=>hd h.2)]);have ZN:l[n].name.length<9223372036854775807:=by omega
    rcases PD l[n].name with⟨c1,c6,ef⟩|⟨c1,⟨c2,c6,ef⟩|⟨c2,⟨c3,c6,ef⟩|⟨c3,⟨c4,ef⟩|⟨c4,⟨c5,ef⟩|⟨c5,ef⟩⟩⟩⟩⟩
    .obtain⟨w,e3,hw⟩:=GK (q:=[I 4,.str (l[n].name.drop 6),.str l[n].value]) (by rw[hnm];simp only[ef,AU.row]);simp only[AB,Nat.reduceLeDiff,↓reduceIte,AK,Du.Cp,i1,Du.Bz hlt,B8,AU.row,hd,TI,show¬(3:Int)=2 by decide,Aq,An,Ak,Ag,Sn ZN,c1,sl6 c6,DO,e3,inc];exact AF.next (n+1,w) rfl ⟨hlt,hw,rfl⟩ (by simp only;omega)
    .obtain⟨w,e3,hw⟩:=GK (q:=[I 5,.str (l[n].name.drop 4),.str l[n].value]) (by rw[hnm];simp only[ef,AU.row]);simp only[AB,Nat.reduceLeDiff,↓reduceIte,AK,Du.Cp,i1,Du.Bz hlt,B8,AU.row,hd,TI,show¬(3:Int)=2 by decide,Aq,An,Ak,Ag,Sn ZN,c1,AW c2,sl4 c6,DO,e3,inc];exact AF.next (n+1,w) rfl ⟨hlt,hw,rfl⟩ (by simp only;omega)
    .obtain⟨w,e3,hw⟩:=GK (q:=[I 5,.str (l[n].name.drop 4),.str l[n].value]) (by rw[hnm];simp only[ef,AU.row]);simp only[AB,Nat.reduceLeDiff,↓reduceIte,AK,Du.Cp,i1,Du.Bz hlt,B8,AU.row,hd,TI,show¬(3:Int)=2 by decide,Aq,An,Ak,Ag,Sn ZN,c1,c2,AW c3,sl4 c6,DO,e3,inc];exact AF.next (n+1,w) rfl ⟨hlt,hw,rfl⟩ (by simp only;omega)
    .obtain⟨w,e3,hw⟩:=GK (q:=[I 6,.str l[n].name,.str l[n].value]) (by rw[hnm];simp only[ef,AU.row]);simp only[AB,Nat.reduceLeDiff,↓reduceIte,AK,Du.Cp,i1,Du.Bz hlt,B8,AU.row,hd,TI,show¬(3:Int)=2 by decide,Aq,An,Ak,Ag,Sn ZN,c1,c2,c3,AW c4,DO,e3,inc];exact AF.next (n+1,w) rfl ⟨hlt,hw,rfl⟩ (by simp only;omega)
    .obtain⟨w,e3,hw⟩:=GK (q:=[I 6,.str iD,.str l[n].value]) (by rw[hnm];simp only[ef,AU.row]);simp only[AB,Nat.reduceLeDiff,↓reduceIte,AK,Du.Cp,i1,Du.Bz hlt,B8,AU.row,hd,TI,show¬(3:Int)=2 by decide,Aq,An,Ak,Ag,Sn ZN,c1,c2,c3,c4,AW c5,DO,e3,inc];exact AF.next (n+1,w) rfl ⟨hlt,hw,rfl⟩ (by simp only;omega)
    .obtain⟨w,e3,hw⟩:=GK (q:=[I 0,.str l[n].name,.str l[n].value]) (by rw[hnm];simp only[ef,AU.row]);simp only[AB,Nat.reduceLeDiff,↓reduceIte,AK,Du.Cp,i1,Du.Bz hlt,B8,AU.row,hd,TI,show¬(3:Int)=2 by decide,Aq,An,Ak,Ag,Sn ZN,c1,c2,c3,c4,c5,DO,e3,inc];exact AF.next (n+1,w) rfl ⟨hlt,hw,rfl⟩ (by simp only;omega)
   .obtain⟨w,e3,hw⟩:=GK (q:=[I 0,.str l[n].name,.str l[n].value]) (by simp only[CM,s2,s3,or_self,D9,AU.row]);simp only[AB,Nat.reduceLeDiff,↓reduceIte,AK,Du.Cp,i1,Du.Bz hlt,B8,AU.row,s2,s3,Aq,An,Ak,Ag,DO,e3,inc];exact AF.next (n+1,w) rfl ⟨hlt,hw,rfl⟩ (by simp only;omega)
  .have i1:¬(n:Int)<(l.length:Int):=by omega
   rw[Ay D1] at hu;simp only[AB,Nat.reduceLeDiff,↓reduceIte,AK,Du.Cp,i1,An,Ak,Ag];exact⟨_,rfl,hu⟩
 obtain⟨r,h',hr,rfl,hu⟩:=Ik.ret;exact⟨r,hr,hu⟩
end
end
def own(bi:Nat)(G:Nat->Prop):Nat->Prop:=λi=>i=bi\/G i
section
variable{h h':Ad}{bi a:Nat}{o c t:Aa}{G G' F:Nat->Prop}{b:BS}{x:Int}{m:Nat}
theorem De.wg(x:De h G h' G'):De h (Am.own bi G) h' (Am.own bi G'):=⟨x.len,λi hi hn=>x.old i hi λhg=>hn (.inr hg),λi hi=>by
 rcases hi with rfl|hi
 .exact .inl (.inl rfl)
 .rcases x.own i hi with h|h
  .exact .inl (.inr h)
  .exact .inr h⟩
theorem BX.pM{A':Ar}(w:BX h bi a o c t G b)(hp:PW h' G' a A')(x:De h G h' G'):BX h' bi a o c t G' {b with a:=A'}/\De h (own bi G) h' (own bi G'):=
 ⟨⟨by rw[x.old bi w.lt w.nb];exact w.hb,w.o,w.t,hp,λhg=>by rcases x.own bi hg with h|h;exact w.nb h;have:=w.lt;omega⟩,x.wg⟩
theorem BX.step{A':Ar}{R:Ad->Prop}(w:BX h bi a o c t G b)(hPA:∀n m ps,PA h a n m ps b.a->∃h' n' m' Iz,R h'/\PA h' a n' m' Iz A'/\De h (λi=>i∈Fo a n m ps) h' (λi=>i∈Fo a n' m' Iz)):
  ∃h' G',R h'/\BX h' bi a o c t G' {b with a:=A'}/\De h (own bi G) h' (own bi G'):=by
 obtain⟨n,m,ps,wa,e⟩:=w.w;obtain⟨h',n',m',Iz,r,w',x⟩:=hPA n m ps wa;have eG:G=λi=>i∈Fo a n m ps:=funext λi=>propext (e i);obtain⟨w2,x2⟩:=w.pM w'.pw (by rw[eG];exact x);exact⟨h',_,r,w2,x2⟩
theorem BX.CN(w:BX h bi a o c t G b){u:Ad}:De h (own bi G) (h++u) (own bi G):= .HA
theorem aGF{v:Aa}{l:List Int}{f:FuncId}{caps:List Aa}{q:Int->Bool}(hv:Dg l v)(hb:l.length<=1000000000)(hf:f<=99999)(hq:∀k∈l,∀u,∃u',BI cx f (I k::caps) (h++u) (.bool (q k)) (h++u++u')):
  ∃u,BI cx 232 [v,.func (.func f) [] caps] h (I (B9 q 0 l)) (h++u):=by
 have Du:AM 1 (l.map Cb) v:=hv;have Ik:Ev cx 232 [v,.func (.func f) [] caps] h λr h'=>r= I (B9 q 0 l)/\∃u,h'=h++u:=by
  unfold Ev;rw[oJ,aBv];simp only[AB,Du.Cp];refine Bb (λk:Nat=>[I 0,I (k:Int)]) (λk h1=>k<=l.length/\B9 q 0 l=B9 q k (l.drop k)/\∃u,h1=h++u) (λk=>l.length-k) 0 rfl ⟨AR _,rfl,[],by simp⟩ ?_;rintro k h1 ⟨hk,ha,u,rfl⟩;rcases AT k l.length with hlt|D1
  .have i1:(k:Int)<(l.length:Int):=by omega
   have e1:A6 (h++u) none (.CA (Cb l[k]))=some (I l[k]):=rfl;obtain⟨u',r1⟩:=hq _ (AI hlt) u;rw[AG hlt,B9] at ha;simp only[AB,↓reduceIte,Dt,Bi,i1,Du.Bz hlt,e1,hf,r1.call,BF (show k<9223372036854775807 by omega)];rw[Cu];refine⟨λh2=>?_,λh2=>?_⟩;·exact⟨_,rfl,by rw[ha,if_pos h2],u++u',by simp⟩
   .rw[if_neg (by simp[h2])] at ha;exact AF.next (k+1) rfl ⟨hlt,ha,u++u',by simp⟩ (by omega)
  .have i1:¬(k:Int)<(l.length:Int):=by omega
   rw[A3 D1,B9] at ha;simp only[AB,↓reduceIte,Dt,Bi,i1];exact⟨_,rfl,by rw[ha],u,rfl⟩
 obtain⟨r,h',hr,rfl,u,rfl⟩:=Ik.ret;exact⟨u,hr⟩
theorem ql{l:List Int}{q:Int->Bool}:decide (0<=B9 q 0 l)=l.any q:=by
 rcases GN (p:=q) (l:=l) (k:=0) with⟨h1,h2⟩|⟨n,y,h1,h2,h3⟩
 .rw[h1,eq_comm];have:=ZE.1 h2;simpa using this
 .rw[h1,eq_comm];have h4:=List.find?_some h3;have h5:=List.mem_of_find?_eq_some h3;rw[Az (by omega),List.any_eq_true];exact⟨y,h5,h4⟩
theorem BX.self(w:BX h bi a o c t G b){A':Ar}(e:A'=b.a):BX h bi a o c t G {b with a:=A'}:=by subst e;exact w
open Classical in
theorem dD{p bf:Int}(w:BX h bi a o c t G b)(ok:DG b)(rm:BQ b m):∃h' G',BI cx 61 [Pt bi 0,I x,I p,I bf] h (.tuple []) h'/\BX h' bi a o c t G' {b with a:=b.a.DZ x p bf}/\De h (own bi G) h' (own bi G'):=by
 obtain⟨K1,V1,u1,r1,_,_⟩:=TH w ok rm p;have w1:=w.HA (u:=u1);have ec:∀v,Aa.cells (.ptr v)=[.ptr v]:=λ_=>rfl;have Hv:∀h2,(∃u,h2=h++u)->∃h' G',(∃er,BI cx 159 [Pt a 0,I p,I x,I bf] h2 (I er) h')/\BX h' bi a o c t G' {b with a:=b.a.Fe p x bf}/\De h (own bi G) h' (own bi G'):=by
  rintro _ ⟨u,rfl⟩;have w2:=w.HA (u:=u);obtain⟨h',G',r,w',x'⟩:=w2.step (A':=b.a.Fe p x bf) (R:=λh'=>∃er,BI cx 159 [Pt a 0,I p,I x,I bf] (h++u) (I er) h') (λn m ps wa=>by obtain⟨er,h',Iz,r,wp,xp⟩:=aGy wa rm.Wo ok.ok (p:=p) (x:=x) (b:=bf);exact⟨h',n,m,Iz,⟨er,r⟩,wp,xp⟩)
  exact⟨h',G',r,w',w.CN.trans x'⟩
 by_cases k1:(b.a.nd p).kind=1
 .obtain⟨K2,V2,u2,r2,_,_⟩:=TH w1 ok rm x;have w2:=w1.HA (u:=u2);by_cases k2:(b.a.nd x).kind=4
  .obtain⟨n2,m2,jJ,wa2⟩:=w2.w.pa;obtain⟨K,r3,hK⟩:=vp (x:=p) wa2 rm.Wo (rm.Wo.AY ok.ok p);obtain⟨u3,r4⟩:=aGF (h:=h++u1++u2) (f:=158) (caps:=[.CA [Pt bi 0]]) (q:=λk=>decide ((b.a.nd k).kind=4)) hK (rm.Wo.AY ok.ok p) (by decide) (λk _ u=>by have w3:=w2.HA (u:=u);obtain⟨K3,V3,u4,r5,_,_⟩:=TH w3 ok rm k;refine⟨u4,?_⟩;rw[Ab,nE,aA2];simp only[AB,r5.call])
   have r4':BI cx 157 [K,.func (.func 158) [] [.CA [Pt bi 0]]] (h++u1++u2) (.bool ((b.a.nd p).AY.any λk=>decide ((b.a.nd k).kind=4))) (h++u1++u2++u3):=by rw[Ab,nD,aA1,<-ql];simp only[AB,r4.call]
   have w3:=w2.HA (u:=u3);by_cases k3:∃k∈(b.a.nd p).AY,(b.a.nd k).kind=4
   .have e3:((b.a.nd p).AY.any λk=>decide ((b.a.nd k).kind=4))=true:=by simpa using k3
    rw[e3] at r4';have e4:b.a.DZ x p bf=b.a:=by unfold Ar.DZ;rw[if_pos ⟨k1,k2,k3⟩]
    refine⟨_,G,?_,w3.self e4,(w.CN.trans w1.CN).trans w2.CN⟩;rw[Ab,VF,t61];simp only[AB,Bi,r1.call,k1,r2.call,k2,w2.l0,r3.call,r4'.call]
   .have e3:((b.a.nd p).AY.any λk=>decide ((b.a.nd k).kind=4))=false:=by rw[List.any_eq_false];intro k hk;simpa using λe=>k3 ⟨k,hk,e⟩
    rw[e3] at r4';have e4:b.a.DZ x p bf=b.a.Fe p x bf:=by unfold Ar.DZ;rw[if_neg (λh=>k3 h.2.2)]
    obtain⟨h',G',⟨er,r5⟩,w5,x5⟩:=Hv (h++u1++u2++u3) ⟨u1++u2++u3,by simp⟩;refine⟨h',G',?_,by rw[e4];exact w5,x5⟩;rw[Ab,VF,t61];simp only[AB,Bi,r1.call,k1,r2.call,k2,w2.l0,r3.call,r4'.call,w3.l0,r5.call]
  .have e4:b.a.DZ x p bf=b.a.Fe p x bf:=by unfold Ar.DZ;rw[if_neg (λh=>k2 h.2.1)]
   obtain⟨h',G',⟨er,r5⟩,w5,x5⟩:=Hv (h++u1++u2) ⟨u1++u2,by simp⟩;refine⟨h',G',?_,by rw[e4];exact w5,x5⟩;rw[Ab,VF,t61];simp only[AB,Bi,r1.call,k1,r2.call,k2,w2.l0,r5.call]
 .have e4:b.a.DZ x p bf=b.a.Fe p x bf:=by unfold Ar.DZ;rw[if_neg (λh=>k1 h.1)]
  obtain⟨h',G',⟨er,r5⟩,w5,x5⟩:=Hv (h++u1) ⟨u1,rfl⟩;refine⟨h',G',?_,by rw[e4];exact w5,x5⟩;rw[Ab,VF,t61];simp only[AB,Bi,r1.call,k1,w1.l0,r5.call]
theorem aGG(w:BX h bi a o c t G b)(ok:DG b)(rm:BQ b m)(p:Int):∃u,BI cx 185 [Pt bi 0,I p] h (I (b.Io p)) (h++u):=by
 obtain⟨K1,V1,u1,r1,_,_⟩:=TH w ok rm p;have w1:=w.HA (u:=u1);unfold BS.Io;by_cases hc:(b.a.nd p).cont=0
 .refine⟨u1,?_⟩;rw[if_neg (by simp[hc]),Ab,Zd,mm];simp only[AB,Bi,r1.call,hc,ne_eq,Cn,w1.l1];refine⟨λh1=>?_,λh1=>?_⟩;·rw[if_pos h1]
  .rw[if_neg h1]
 .obtain⟨K2,V2,u2,r2,_,_⟩:=TH w1 ok rm (b.a.nd p).cont;have w2:=w1.HA (u:=u2);refine⟨u1++u2,?_⟩;rw[if_pos hc,<-AD,Ab,Zd,mm];simp only[AB,Bi,r1.call,r2.call,hc,ne_eq,w2.l1];refine⟨λh1=>?_,λh1=>?_⟩;·rw[if_pos h1]
  .rw[if_neg h1]
def Nj(nm:Ap)(av:Aa)(r:List Aa):Prop:=∃c0 c2 c3 c4 c5 c6 c7 c9 Tv U7,r=[c0,.str nm,c2,c3,c4,c5,c6,c7,av,c9,Tv,U7]
theorem L2:Aa.agg Item.zero.row= .agg [I 0,I 0,S [],ff]:=rfl
variable{nm:Ap}{av:Aa}{l:List AU}{r:List Aa}{sp p:Int}
theorem BQ.len{k:Nat}(rm:BQ b k)(hk:3<=k):b.a.len+3<=1000000000:=by have:=rm.n;unfold Ar.len;omega
theorem br(w:BX h bi a o c t G b)(ok:DG b)(rm:BQ b (m+3))(hr:Nj nm av r)(hv:Bw l av)(hl:DA l)(hn:nm.length<=1000)(p sp:Int):
  ∃h' G',BI cx 84 [Pt bi 0,.agg r,I sp,I p] h (.agg (b.FA nm l sp).row) h'/\BX h' bi a o c t G' (b.D8 nm l sp p)/\De h (own bi G) h' (own bi G'):=by
 obtain⟨c0,c2,c3,c4,c5,c6,c7,c9,Tv,U7,rfl⟩:=hr;by_cases hs:BS.Hn sp
 .obtain⟨u1,r1,hu⟩:=aLF (h:=h) hv hl.1 sp;have w1:=w.HA (u:=[.map (ft 11)]);obtain⟨u2,r2⟩:=aGG w1 ok rm p;have w2:=w1.HA (u:=u2);have hd:=Sg ok (p:=p);have sp2:∀y∈l.map (CM sp),BS.Hn y.AZ:=by intro y hy;obtain⟨z,_,rfl⟩:=Bk.1 hy;exact iP
  obtain⟨h',G',⟨r3,_⟩,w3,x3⟩:=w2.step (A':=b.a.elem (b.Io p) sp (BS.Ip sp nm) (l.map (CM sp))) (R:=λh'=>BI cx 184 [Pt a 0,I (b.Io p),I sp,.str (BS.Ip sp nm),u1] (h++[.map (ft 11)]++u2) (.tuple [I (b.a.len+1),I 0]) h'/\True) (λn m ps wa=>by obtain⟨h',n',m',Iz,r,wp,xp,_⟩:=aGq wa rm.Wo (rm.len (by omega)) hd hs hu (by rw[Ai];have:=hl.1;omega) sp2 (nm:=BS.Ip sp nm);exact⟨h',n',m',Iz,⟨r,trivial⟩,wp,xp⟩)
  have r4:=f96 (h:=h') hu (λy hy=>by obtain⟨z,hz,rfl⟩:=Bk.1 hy;rw[XN];have:=(hl.2 z hz).2;have:AS=140737488355328:=rfl;omega) (by rw[Ai];have:=hl.1;omega) sp (BS.Ip sp nm);have em:Aw (.Bs [I 0,I 0,S [],ff] [(0,1),(1,1),(2,1),(3,1)]) [I (b.a.len+1),I sp,.str (BS.Ip sp nm),.bool (EH sp (BS.Ip sp nm) (l.map (CM sp)))]=some (.agg (b.FA nm l sp).row):=by rw[XE];unfold BS.FA;rw[if_pos hs]
  refine⟨h',G',?_,by unfold BS.D8;rw[if_pos hs];exact w3,(w.CN.trans w1.CN).trans x3⟩;have s1:¬sp<0:=by have:=hs.1;omega
  have s2:¬7<sp:=by have:=hs.2;omega
  have hlen:=λ(y:Item)=>@Item.Co y;rw[Ab,jD,t84];by_cases h2:sp=2
  .have e:BS.Ip sp nm=Ca nm HX:=by unfold BS.Ip;rw[if_pos h2]
   rw[e] at r3 r4 em;subst h2;simp only[AB,↓reduceIte,AK,Bi,EB,(Ho w).call,s1,s2,Fg,r1.call,D4,Cn,(aKS nm).Bc rfl rfl,w1.l0,r2.call,w2.l0,By,r3.call,ne_eq,r4.call,em,hlen]
  .have e:BS.Ip sp nm=nm:=by unfold BS.Ip;rw[if_neg h2]
   rw[e] at r3 r4 em;simp only[AB,↓reduceIte,AK,Bi,EB,(Ho w).call,s1,s2,Fg,r1.call,h2,w1.l0,r2.call,w2.l0,By,r3.call,ne_eq,Cn,r4.call,em,hlen]
 .refine⟨h,G,?_,by unfold BS.D8;rw[if_neg hs];exact w,.refl⟩;have e:b.FA nm l sp=Item.zero:=by unfold BS.FA;rw[if_neg hs]
  rw[e,L2,Ab,jD,t84];unfold BS.Hn at hs;by_cases h1:sp<0;·simp only[AB,↓reduceIte,AK,Bi,(Ho w).call,h1,D4]
  .simp only[AB,↓reduceIte,AK,Bi,(Ho w).call,h1,Fg,show 7<sp by omega,D4]
end
section
variable{h h':Ad}{bi a:Nat}{o c t:Aa}{G G' F:Nat->Prop}{b:BS}{x:Int}{m:Nat}
theorem Be{k:Nat}{v:Aa}:De h (own bi G) (put h bi k v) (own bi G):=⟨by rw[IC];exact Ac _,λi _ hn=>B4 λe=>hn (.inl e),λ_ h=> .inl h⟩
theorem BX.put{k:Nat}{v o' c' t':Aa}{b':BS}(w:BX h bi a o c t G b)(e:(Jg a b o c t).set k v=Jg a b' o' c' t')(ea:b'.a=b.a)(ho:BN b'.AO o')(ht:Dg b'.tm t'):BX (Am.put h bi k v) bi a o' c' t' G b':=
 ⟨by rw[Hm w.hb,e];exact AN w.lt,ho,ht,by rw[ea];exact w.w.CW λi hi=>B4 λe=>w.nb (e▸hi),w.nb⟩
theorem BX.Ia{u:Aa}{l:List Item}(w:BX h bi a o c t G b)(hu:BN l u):BX (Am.put h bi 2 u) bi a u c t G {b with AO:=l}:=w.put rfl rfl hu w.t
theorem BX.Kf{u:Aa}{l:List Cc}(w:BX h bi a o c t G b):BX (Am.put h bi 3 u) bi a o u t G {b with A4:=l}:=w.put rfl rfl w.o w.t
theorem BX.st{k:Nat}{v v0:Aa}(w:BX h bi a o c t G b)(hk:(Jg a b o c t)[k]?=some v0)(hv:v.cells=[v]):Cv h 1 (Pt bi k) v=some (Am.put h bi k v):=At.store (v:=v0) ⟨_,w.hb,hk⟩ hv
variable{nm:Ap}{av:Aa}{l:List AU}{r:List Aa}{sp p:Int}
theorem aLH(w:BX h bi a o c t G b)(ok:DG b)(rm:BQ b (m+4))(hr:Nj nm av r)(hv:Bw l av)(hl:DA l)(hn:nm.length<=1000)(sp:Int):
  ∃h' o' G',BI cx 148 [Pt bi 0,.func (.func 84) [Pt bi 0] [],.agg r,I sp] h (I (b.Ow sp)) h'/\BX h' bi a o' c t G' (b.Ex nm l sp)/\De h (own bi G) h' (own bi G'):=by
 obtain⟨u1,r1⟩:=bq w ok rm 0;have w1:=w.HA (u:=u1);obtain⟨h2,G2,r2,w2,x2⟩:=br (m:=m+1) w1 ok (rm.le (by omega)) hr hv hl hn (b.place 0).1 sp;have Fu:=hr;obtain⟨c0,c2,c3,c4,c5,c6,c7,c9,Tv,U7,rfl⟩:=hr;have ho:=rm.AO;by_cases hs:BS.Hn sp
 .have bt:=(Mw (nm:=nm) (at_:=l) (p:=(b.place 0).1) ok hs).1;have S9:=H7 (m:=m+1) (nm:=nm) (sp:=sp) (p:=(b.place 0).1) (rm.le (by omega)) hl;have VV:(b.FA nm l sp).node=b.a.len+1:=by unfold BS.FA;rw[if_pos hs]
  have Wj:¬(b.a.len+1=0):=by unfold Ar.len;omega
  have MH:(b.D8 nm l sp (b.place 0).1).AO=b.AO:=by unfold BS.D8;rw[if_pos hs]
  obtain⟨h3,G3,r3,w3,x3⟩:=dD (x:=b.a.len+1) (p:=(b.place 0).1) (bf:=(b.place 0).2) w2 bt S9;obtain⟨v4,r4,hv4⟩:=f95 w3.sO (by simp only[MH];omega) (b.FA nm l sp);refine⟨Am.put h3 bi 2 v4,v4,G3,?_,?_,((w.CN.trans x2).trans x3).trans Be⟩
  .have hh:b.Ow sp=b.a.len+1:=by unfold BS.Ow;rw[if_pos hs]
   rw[Ab,Y8,t148,hh];simp only[AB,Nat.reduceAdd,↓reduceIte,Dt,Bi,EB,r1.call,show(84:Nat)<=99999 by decide,r2.call,VV,Wj,ne_eq,r3.call];have e:=@Item.NJ (b.FA nm l sp);rw[VV] at e;rw[<-e] at r4;simp only[e] at r4⊢;simp only[r4.call,AB]
  .have:=w3.Ia hv4;unfold BS.Ex;rw[if_pos hs];exact this
 .refine⟨h2,o,G2,?_,?_,w.CN.trans x2⟩
  .have e:b.FA nm l sp=Item.zero:=by unfold BS.FA;rw[if_neg hs]
   have hh:b.Ow sp=0:=by unfold BS.Ow;rw[if_neg hs]
   rw[e,L2] at r2;rw[Ab,Y8,t148,hh];simp only[AB,Nat.reduceAdd,↓reduceIte,Dt,Bi,EB,r1.call,show(84:Nat)<=99999 by decide,r2.call,ne_eq,Cn]
  .have:b.Ex nm l sp=b.D8 nm l sp (b.place 0).1:=by unfold BS.Ex BS.D8;rw[if_neg hs,if_neg hs]
   rw[this];exact w2
theorem aGH(w:BX h bi a o c t G b)(ok:DG b)(rm:BQ b (m+4))(hr:Nj nm av r)(hv:Bw l av)(hl:DA l)(hn:nm.length<=1000)(sp:Int):
  ∃h' o' G',BI cx 55 [Pt bi 0,.agg r,I sp] h (I (b.Ow sp)) h'/\BX h' bi a o' c t G' (b.Ex nm l sp)/\De h (own bi G) h' (own bi G'):=by
 obtain⟨h',o',G',r1,w',x'⟩:=aLH w ok rm hr hv hl hn sp;refine⟨h',o',G',?_,w',x'⟩;obtain⟨c0,c2,c3,c4,c5,c6,c7,c9,Tv,U7,rfl⟩:=hr;rw[Ab,zH,t55];simp only[AB,Bi,(Ho w).call,r1.call]
theorem qm(w:BX h bi a o c t G b)(ok:DG b)(rm:BQ b (m+4))(hr:Nj nm av r)(hv:Bw l av)(hl:DA l)(hn:nm.length<=1000):
  ∃h' o' G',BI cx 23 [Pt bi 0,.agg r] h (I (b.a.len+1)) h'/\BX h' bi a o' c t G' (b.Ex nm l 1)/\De h (own bi G) h' (own bi G'):=by
 obtain⟨h',o',G',r1,w',x'⟩:=aGH w ok rm hr hv hl hn 1;refine⟨h',o',G',?_,w',x'⟩;have hh:b.Ow 1=b.a.len+1:=by unfold BS.Ow;rw[if_pos IQ]
 rw[hh] at r1;obtain⟨c0,c2,c3,c4,c5,c6,c7,c9,Tv,U7,rfl⟩:=hr;rw[Ab,yT,t23];simp only[AB,r1.call]
end
def BO(l:List Cc)(v:Aa):Prop:=∃fs:List B3,fs.map (·.c)=l/\CZ fs v
theorem Ta{α β:Type}{f:α->β}{q:β->Bool}{l:List α}:AJ q (l.map f)=AJ (λx=>q (f x)) l:=by unfold AJ;rw[<-List.map_reverse,List.findIdx?_map,Ai];rfl
theorem jO{α β:Type}{f:α->β}{l:List α}{k:Nat}:(A7 l k).map f=A7 (l.map f) k:=by unfold A7;simp
theorem qn{fs:List B3}:since fs=iJ (fs.map (·.c)):=by unfold since iJ;rw[Ta];rfl
theorem VW{n:Int}{fs:List B3}:Gz n fs=EE n (fs.map (·.c)):=by unfold Gz EE;rw[Ta];rfl
theorem pO{nm:Ap}{fs:List B3}:Ms nm fs=FI nm (fs.map (·.c)):=by
 unfold Ms FI;rw[<-List.map_reverse];generalize fs.reverse=r;induction r with
 |nil=>rfl
 |cons x r ih=>simp only[Bl,lY,Ov,ih,Ai]
theorem aGI{e:Cc}{fs:List B3}:Q4 e fs=mB e (fs.map (·.c)).reverse:=by
 unfold Q4;rw[<-List.map_reverse];generalize fs.reverse=r;induction r with
 |nil=>rfl
 |cons x r ih=>simp only[Bl,jd,mB,ih]
theorem aGJ{e:Cc}{fs:List B3}:Mt e fs=cL e (fs.map (·.c)).reverse:=by
 unfold Mt;rw[<-List.map_reverse];generalize fs.reverse=r;induction r with
 |nil=>rfl
 |cons x r ih=>simp only[Bl,iF,cL,ih,Ai]
theorem dE{e:Cc}{e':B3}{fs:List B3}(he:e'.c=e):(Kt e fs++[e']).map (·.c)=cM e (fs.map (·.c)):=by
 unfold Kt cM;rw[aGI,aGJ,BH,List.map_singleton,he];split;·rw[jO]
 .rfl
theorem Ud{fs:List B3}:(fs.take (Ef fs)).map (·.c)=Fz (fs.map (·.c)):=by unfold Fz Ef;rw[HS,qn]
theorem pP{l:List Cc}{fs:List B3}(e:fs.map (·.c)=l)(h:∀x∈l,x.Ax.length<=1000):∀x∈fs,WQ x:=by intro x hx;have:=h x.c (by rw[<-e];exact Bk.2 ⟨x,hx,rfl⟩);unfold WQ;omega
section
variable{h h':Ad}{bi a:Nat}{o c t:Aa}{G G' F:Nat->Prop}{b:BS}{x:Int}{m:Nat}
variable{nm:Ap}{av:Aa}{l:List AU}{r:List Aa}{sp p:Int}
theorem aLI(w:BX h bi a o c t G b)(hc:BO b.A4 c)(ok:DG b)(rm:BQ b (m+5))(hr:Nj nm av r)(hv:Bw l av)(hl:DA l)(hn:nm.length<=1000):
  ∃h' o' c' G',BI cx 24 [Pt bi 0,.agg r] h (I (b.a.len+1)) h'/\BX h' bi a o' c' t G' (b.Jd nm l)/\BO (b.Jd nm l).A4 c'/\De h (own bi G) h' (own bi G'):=by
 obtain⟨h1,o1,G1,r1,w1,x1⟩:=qm (m:=m+1) w ok (rm.le (by omega)) hr hv hl hn;obtain⟨fs,efs,hf⟩:=hc;have ha:=rm.A4;have GG:fs.length=b.A4.length:=by rw[<-efs,Ai]
 obtain⟨u,e',Pb,r2,hu⟩:=f30 (h:=h1) (id:=bi) (o:=3) (l:=fs) ⟨c,w1.pL,hf⟩ (by omega) (pP efs λx hx=>((rm.Dk x hx).2).1) (e:=⟨⟨b.a.len+1,nm,l⟩,av,hv⟩) (by unfold WQ;have:=hl.1;simp only;omega);refine⟨_,o1,u,G1,?_,w1.Kf (u:=u),?_,x1.trans Be⟩
 .obtain⟨c0,c2,c3,c4,c5,c6,c7,c9,Tv,U7,rfl⟩:=hr;have Wj:¬(b.a.len+1=0):=by unfold Ar.len;omega
  have r2':BI cx 56 [Pt bi 3,.agg [I (b.a.len+1),.str nm,av]] h1 (.tuple []) (put h1 bi 3 u):=r2;have Xd:av.cells=[av]:=AM.cells hv;rw[Ab,yU,t24];simp only[AB,Nat.reduceLeDiff,↓reduceIte,AK,Bi,r1.call,Wj,ne_eq,Xd,r2'.call]
 .refine⟨_,?_,hu⟩;rw[dE Pb,efs];unfold BS.Jd;simp only;rw[FC]
end
theorem aGK:∀x:Fin 64,(BitVec.ofInt 8 192|||BitVec.ofInt 8 (x.val:Int)).toNat=192+x.val:=by decide
theorem aGL:∀x:Fin 32,(BitVec.ofInt 8 224|||BitVec.ofInt 8 (x.val:Int)).toNat=224+x.val:=by decide
theorem aGM:∀x:Fin 16,(BitVec.ofInt 8 240|||BitVec.ofInt 8 (x.val:Int)).toNat=240+x.val:=by decide
theorem aGN:∀x:Fin 64,(BitVec.ofInt 8 128|||BitVec.ofInt 8 (x.val:Int)).toNat=128+x.val:=by decide
theorem aGO:∀x:Fin 256,(BitVec.ofInt 8 (x.val:Int)&&& BitVec.ofInt 8 63).toNat=x.val%64:=by decide
theorem pQ{a b:Int}:Aw (.int .or) [.int .u8 a,.int .u8 b]=some (.int .u8 (IntKind.u8.wrap (BitVec.ofInt 8 a|||BitVec.ofInt 8 b).toNat)):=rfl
theorem aCb{a b:Int}:Aw (.int .and) [.int .u8 a,.int .u8 b]=some (.int .u8 (IntKind.u8.wrap (BitVec.ofInt 8 a&&& BitVec.ofInt 8 b).toNat)):=rfl
theorem bu{x:Nat}(h:x<64):Aw (.int .or) [.int .u8 192,.int .u8 (x:Int)]=some (.int .u8 ((192+x:Nat):Int)):=by rw[pQ,aGK ⟨x,h⟩,IntKind.wrap_u8];congr 2;simp only;omega
theorem dF{x:Nat}(h:x<32):Aw (.int .or) [.int .u8 224,.int .u8 (x:Int)]=some (.int .u8 ((224+x:Nat):Int)):=by rw[pQ,aGL ⟨x,h⟩,IntKind.wrap_u8];congr 2;simp only;omega
theorem bw{x:Nat}(h:x<16):Aw (.int .or) [.int .u8 240,.int .u8 (x:Int)]=some (.int .u8 ((240+x:Nat):Int)):=by rw[pQ,aGM ⟨x,h⟩,IntKind.wrap_u8];congr 2;simp only;omega
theorem Kg{x:Nat}(h:x<64):Aw (.int .or) [.int .u8 128,.int .u8 (x:Int)]=some (.int .u8 ((128+x:Nat):Int)):=by rw[pQ,aGN ⟨x,h⟩,IntKind.wrap_u8];congr 2;simp only;omega
theorem Kh{x:Nat}(h:x<256):Aw (.int .and) [.int .u8 (x:Int),.int .u8 63]=some (.int .u8 ((x%64:Nat):Int)):=by rw[aCb,aGO ⟨x,h⟩,IntKind.wrap_u8];congr 2;simp only;omega
theorem Ue{n:Nat}:Aw (.int .shr) [.int .i32 (n:Int),.int .u64 6]=some (.int .i32 ((n/64:Nat):Int)):=by rw[show Aw (.int .shr) [.int .i32 (n:Int),.int .u64 6]=some (.int .i32 ((n:Int).fdiv 64)) from rfl,Int.fdiv_eq_ediv_of_nonneg _ (by omega)];rfl
theorem VX{n:Nat}:Aw (.int .shr) [.int .i32 (n:Int),.int .u64 12]=some (.int .i32 ((n/4096:Nat):Int)):=by rw[show Aw (.int .shr) [.int .i32 (n:Int),.int .u64 12]=some (.int .i32 ((n:Int).fdiv 4096)) from rfl,Int.fdiv_eq_ediv_of_nonneg _ (by omega)];rfl
theorem bz{n:Nat}:Aw (.int .shr) [.int .i32 (n:Int),.int .u64 18]=some (.int .i32 ((n/262144:Nat):Int)):=by rw[show Aw (.int .shr) [.int .i32 (n:Int),.int .u64 18]=some (.int .i32 ((n:Int).fdiv 262144)) from rfl,Int.fdiv_eq_ediv_of_nonneg _ (by omega)];rfl
theorem So{k:IntKind}{n:Nat}:Aw (.conv .u8) [.int k (n:Int)]=some (.int .u8 ((n%256:Nat):Int)):=by rw[T4,IntKind.wrap_u8];congr 2
theorem Zo{n:Int}:Aw (.conv .u32) [.int .i32 n]=some (.int .u32 (n%4294967296)):=by rw[T4,IntKind.wrap_u32]
theorem XS{n:Nat}(h:n<256):((UInt8.ofNat n).toNat:Int)=(n:Int):=by rw[UInt8.toNat_ofNat'];congr 1;omega
def dy(b:UInt8):Aa:= .int .u8 (b.toNat:Int)
theorem JM{h:Ad}{bs:Ap}(hb:bs≠[])(hl:bs.length<=8):Fk h 1 1 .slnil (.sl 1 (BZ bs))=some (h++[.cells (bs.map dy)],.Cl h.length 0 bs.length 1):=by
 have GG:∀bs:Ap,(BZ bs).flatten=bs.map dy:=by
  intro bs;induction bs with
  |nil=>rfl
  |cons c bs ih=>show[dy c]++(BZ bs).flatten=_;rw[ih];rfl
 cases bs with
 |nil=>exact absurd rfl hb
 |cons c bs=>
  have hm:AS=140737488355328:=rfl;have hlen:(BZ (c::bs)).length=(c::bs).length:=by simp[BZ]
  have e:BZ (c::bs)=[.int .u8 c.toNat]::BZ bs:=rfl;have e1:Ge h 1 (.sl 1 (BZ (c::bs)))=some (BZ (c::bs)):=by simp[Ge]
  unfold Fk;rw[e1,e];simp only
  rw[<-e,if_pos (by rw[hlen];omega),GG,hlen]
theorem aLJ{h:Ad}(r:Int)(hr: -2147483648<=r/\r<=2147483647):BI cx 58 [.slnil,.int .i32 r] h (.Cl h.length 0 (GP r).length 1) (h++[.cells ((GP r).map dy)]):=by
 have one:∀{k1:Nat} (h1:k1<256),Aw (.Bx 1) [.int .u8 (k1:Int)]=some (.sl 1 (BZ [UInt8.ofNat k1])):=by intro k1 h1;simp only[BZ,Bl,DP,XS h1];rfl
 have Z6:∀{k1 k2:Nat} (h1:k1<256) (h2:k2<256),Aw (.Bx 1) [.int .u8 (k1:Int),.int .u8 (k2:Int)]=some (.sl 1 (BZ [UInt8.ofNat k1,UInt8.ofNat k2])):=by intro k1 k2 h1 h2;simp only[BZ,Bl,DP,XS h1,XS h2];rfl
 have SF:∀{k1 k2 k3:Nat} (h1:k1<256) (h2:k2<256) (h3:k3<256),Aw (.Bx 1) [.int .u8 (k1:Int),.int .u8 (k2:Int),.int .u8 (k3:Int)]=some (.sl 1 (BZ [UInt8.ofNat k1,UInt8.ofNat k2,UInt8.ofNat k3])):=by intro k1 k2 k3 h1 h2 h3;simp only[BZ,Bl,DP,XS h1,XS h2,XS h3];rfl
 have four:∀{k1 k2 k3 k4:Nat} (h1:k1<256) (h2:k2<256) (h3:k3<256) (h4:k4<256),Aw (.Bx 1) [.int .u8 (k1:Int),.int .u8 (k2:Int),.int .u8 (k3:Int),.int .u8 (k4:Int)]=some (.sl 1 (BZ [UInt8.ofNat k1,UInt8.ofNat k2,UInt8.ofNat k3,UInt8.ofNat k4])):=by intro k1 k2 k3 k4 h1 h2 h3 h4;simp only[BZ,Bl,DP,XS h1,XS h2,XS h3,XS h4];rfl
 have xr:Aw (.Bx 1) [.int .u8 239,.int .u8 191,.int .u8 189]=some (.sl 1 (BZ [239,191,189])):=rfl;rw[Ab,zK,t58];simp only[AB,Zo];by_cases h0:0<=r
 .obtain⟨n,rfl⟩:=O6 h0;have em:(n:Int)%4294967296=(n:Int):=by omega
  rw[em];by_cases c1:n<128
  .have e:GP (n:Int)=[UInt8.ofNat n]:=by unfold GP;rw[if_pos (by omega)];rfl
   have e8:n%256=n:=by omega
   rw[e];simp only[AB,Bi,show(n:Int)<=127 by omega,So,e8,one (show n<256 by omega),JM (bs:=[UInt8.ofNat n]) (by simp) (by simp)]
  .have aCc:BI cx 154 [.slnil,.int .i32 (n:Int)] h (.Cl h.length 0 (GP (n:Int)).length 1) (h++[.cells ((GP (n:Int)).map dy)]):=by
    rw[Ab,Y9,lz];simp only[AB,Zo,em];by_cases c2:n<2048
    .have e:GP (n:Int)=[UInt8.ofNat (192+n/64),UInt8.ofNat (128+n%64)]:=by unfold GP;rw[if_neg (by omega),if_pos (by omega)];rfl
     rw[e];have a1:n/64%256=n/64:=by omega
     have a2:n%256%64=n%64:=by omega
     simp only[AB,Bi,show(n:Int)<=2047 by omega,Ue,So,a1,bu (show n/64<64 by omega),Kh (show n%256<256 by omega),a2,Kg (show n%64<64 by omega),Z6 (show 192+n/64<256 by omega) (show 128+n%64<256 by omega),JM (bs:=[UInt8.ofNat (192+n/64),UInt8.ofNat (128+n%64)]) (by simp) (by simp)]
    .by_cases c3:n<65536/\¬(55296<=n/\n<57344)
     .have e:GP (n:Int)=[UInt8.ofNat (224+n/4096),UInt8.ofNat (128+n/64%64),UInt8.ofNat (128+n%64)]:=by unfold GP;rw[if_neg (by omega),if_neg (by omega),if_pos (by omega)];rfl
      rw[e];have a1:n/4096%256=n/4096:=by omega
      have a2:n/64%256%64=n/64%64:=by omega
      have a3:n%256%64=n%64:=by omega
      have g:=JM (h:=h) (bs:=[UInt8.ofNat (224+n/4096),UInt8.ofNat (128+n/64%64),UInt8.ofNat (128+n%64)]) (by simp) (by simp);have t3:=SF (show 224+n/4096<256 by omega) (show 128+n/64%64<256 by omega) (show 128+n%64<256 by omega);by_cases c4:n<55296;·simp only[AB,Bi,show¬(n:Int)<=2047 by omega,show(n:Int)<55296 by omega,Ue,VX,So,a1,dF (show n/4096<32 by omega),Kh (show n/64%256<256 by omega),a2,Kg (show n/64%64<64 by omega),Kh (show n%256<256 by omega),a3,Kg (show n%64<64 by omega),t3,g]
      .simp only[AB,Bi,show¬(n:Int)<=2047 by omega,show¬(n:Int)<55296 by omega,show(57343:Int)<n by omega,show(n:Int)<=65535 by omega,Ue,VX,So,a1,dF (show n/4096<32 by omega),Kh (show n/64%256<256 by omega),a2,Kg (show n/64%64<64 by omega),Kh (show n%256<256 by omega),a3,Kg (show n%64<64 by omega),t3,g]
     .by_cases c5:65536<=n/\n<=1114111
      .have e:GP (n:Int)=[UInt8.ofNat (240+n/262144),UInt8.ofNat (128+n/4096%64),UInt8.ofNat (128+n/64%64),UInt8.ofNat (128+n%64)]:=by unfold GP;rw[if_neg (by omega),if_neg (by omega),if_neg (by omega),if_pos (by omega)];rfl
       rw[e];have a0:n/262144%256=n/262144:=by omega
       have a1:n/4096%256%64=n/4096%64:=by omega
       have a2:n/64%256%64=n/64%64:=by omega
       have a3:n%256%64=n%64:=by omega
       have g:=JM (h:=h) (bs:=[UInt8.ofNat (240+n/262144),UInt8.ofNat (128+n/4096%64),UInt8.ofNat (128+n/64%64),UInt8.ofNat (128+n%64)]) (by simp) (by simp);have t4:=four (show 240+n/262144<256 by omega) (show 128+n/4096%64<256 by omega) (show 128+n/64%64<256 by omega) (show 128+n%64<256 by omega);simp only[AB,Bi,show¬(n:Int)<=2047 by omega,show¬(n:Int)<55296 by omega,show(57343:Int)<n by omega,show¬(n:Int)<=65535 by omega,show(65535:Int)<n by omega,show(n:Int)<=1114111 by omega,Ue,VX,bz,So,a0,bw (show n/262144<16 by omega),Kh (show n/4096%256<256 by omega),a1,Kg (show n/4096%64<64 by omega),Kh (show n/64%256<256 by omega),a2,Kg (show n/64%64<64 by omega),Kh (show n%256<256 by omega),a3,Kg (show n%64<64 by omega),t4,g]
      .have e:GP (n:Int)=[239,191,189]:=by unfold GP;rw[if_neg (by omega),if_neg (by omega),if_neg (by omega),if_neg (by omega)]
       rw[e];have g:=JM (h:=h) (bs:=[239,191,189]) (by simp) (by simp);by_cases c6:n<65536;·simp only[AB,Bi,show¬(n:Int)<=2047 by omega,show¬(n:Int)<55296 by omega,show¬(57343:Int)<n by omega,show¬(65535:Int)<n by omega,xr,g]
       .simp only[AB,Bi,show¬(n:Int)<=2047 by omega,show¬(n:Int)<55296 by omega,show(57343:Int)<n by omega,show¬(n:Int)<=65535 by omega,show(65535:Int)<n by omega,show¬(n:Int)<=1114111 by omega,xr,g]
   simp only[AB,Bi,show¬(n:Int)<=127 by omega,aCc.call]
 .have e:GP r=[239,191,189]:=by unfold GP;rw[if_neg (by omega),if_neg (by omega),if_neg (by omega),if_neg (by omega)]
  have g:=JM (h:=h) (bs:=[239,191,189]) (by simp) (by simp);have aCc:BI cx 154 [.slnil,.int .i32 r] h (.Cl h.length 0 (GP r).length 1) (h++[.cells ((GP r).map dy)]):=by rw[e,Ab,Y9,lz];simp only[AB,Bi,Zo,show¬(r%4294967296)<=2047 by omega,show¬(r%4294967296)<55296 by omega,show(57343:Int)<r%4294967296 by omega,show¬(r%4294967296)<=65535 by omega,show(65535:Int)<r%4294967296 by omega,show¬(r%4294967296)<=1114111 by omega,xr,g]
  simp only[AB,Bi,show¬(r%4294967296)<=127 by omega,aCc.call]
theorem VY(r:Int):(GP r).length<=4:=by unfold GP;split<;>(try split)<;>(try split)<;>(try split)<;>simp
theorem dG{l:List Int}{bf:Int}(hb:bf≠0->bf∈l):∃i,i<=l.length/\(bf=0->i=l.length)/\(bf≠0->B9 (λy=>decide (bf=y)) 0 l=(i:Int))/\Sf l bf=if i=0 then none else l[i-1]?:=by
 by_cases h0:bf=0
 .refine⟨l.length,Ac _,λ_=>rfl,λh=>absurd h0 h,?_⟩;unfold Sf;rw[if_pos h0,eE];split;·rename_i h;rw[EZ (by omega)]
  .rfl
 .obtain⟨k,k1,k2,k3,k4,k5⟩:=Zn (hb h0);refine⟨k,by omega,λh=>absurd h h0,λ_=>k2,?_⟩;unfold Sf;rw[if_neg h0,k4,eE,Al,Cm (by omega)];split;·rename_i h;subst h;simp
  .rw[Cf];rw[if_pos (by omega)]
theorem Zp{s u:Ap}(h:s.length+u.length<=2000000000):Aw (.str .add) [.str s,.str u]=some (.str (s++u)):=by
 have:s.length+u.length<=9223372036854775807:=by omega
 simp[Aw,ZU,this]
theorem XT:∀s:Ap,(BZ s).flatten=s.map dy
 |[]=>rfl
 |c::s=>by show[dy c]++(BZ s).flatten=_;rw[XT s];rfl
section
variable{h h':Ad}{bi a:Nat}{o c t:Aa}{G G' F:Nat->Prop}{b:BS}{x:Int}{m:Nat}
variable{nm:Ap}{av:Aa}{l:List AU}{r:List Aa}{sp p:Int}
theorem Zq{k d:Int}{s:Ap}(ok:DG b)(rm:BQ b (m+1))(hk:k=5\/k=6)(hd:b.a.has d/\(b.a.nd d).kind=1)(hs:s.length<=100000):DG {b with a:=b.a.add {kind:=k,Cy:=d,data:=s}}/\BQ {b with a:=b.a.add {kind:=k,Cy:=d,data:=s}} m:=
 ⟨ok.Jm (YV ok.ok (by unfold Ar.len;omega) hd hk) iM,rm.FE (k:=1) (My (AR _) hs)⟩
theorem aLK(w:BX h bi a o c t G b)(ok:DG b)(rm:BQ b (m+5))(r:Int)(hr: -2147483648<=r/\r<=2147483647):
  ∃h' G',BI cx 25 [Pt bi 0,.int .i32 r] h (.tuple []) h'/\BX h' bi a o c t G' (b.iK r)/\De h (own bi G) h' (own bi G'):=by
 obtain⟨u1,r1⟩:=bq w ok rm 0;obtain⟨hp,hbf⟩:=Vx ok (t:=0) (.inl rfl);have w1:=w.HA (u:=u1);unfold BS.iK;generalize(b.place 0).1=p at*;generalize(b.place 0).2=bf at*;obtain⟨K,V,u2,r2,hK,_⟩:=TH w1 ok rm p;have w2:=w1.HA (u:=u2);have x2:De h (own bi G) (h++u1++u2) (own bi G):=w.CN.trans w1.CN;unfold BS.Ku;by_cases hk:(b.a.nd p).kind=4\/(b.a.nd p).kind=2;rotate_left
 .refine⟨_,G,?_,?_,x2⟩;·have k4:¬(b.a.nd p).kind=4:=λe=>hk (.inl e);have k2:¬(b.a.nd p).kind=2:=λe=>hk (.inr e);rw[Ab,VD,t25];simp only[AB,Bi,(Ho w).call,r1.call,r2.call,ne_eq,k4,k2]
  .rw[if_neg hk];exact w2
 rw[if_pos hk];obtain⟨i,hi,sS,Tw,hpv⟩:=dG (l:=(b.a.nd p).AY) (bf:=bf) (λh=>by have:=hbf h;have h2:=(ok.ok.E6 bf this.1 (by rw[this.2];have:=hp.1;omega)).2;rwa [this.2] at h2);rw[hpv];have OH:=rm.Wo.AY ok.ok p;have ri:=aB5 (h:=h++u1++u2) (x:=bf) hK.Sm OH;have r35:=aLJ (h:=h++u1++u2) r hr;have ZI:=VY r;generalize hs:GP r=s at*;have f3:Kl (h++u1++u2++[.cells (s.map dy)]) (.Cl (h++u1++u2).length 0 s.length 1)=some (h++u1++u2++[.CG],.sl 1 (BZ s)):=by have GG:=XT s;have:=JH (h:=h++u1++u2++[.cells (s.map dy)]) (id:=(h++u1++u2).length) (z:=1) (Au:=BZ s) (by intro q hq;obtain⟨y,_,rfl⟩:=Bk.1 hq;rfl) (by rw[GG];simp);rw[show(BZ s).length=s.length by simp[BZ]] at this;rw[this];congr 2;rw[B2 _ _ (Ac _),DC];rfl
 have b3:Aw .Th [.sl 1 (BZ s)]=some (.str s):=by simp[Aw,Ui,P6]
 have w3:=w2.HA (u:=[.CG]);have x3:De h (own bi G) (h++u1++u2++[.CG]) (own bi G):=x2.trans w2.CN;have Zr:=ok.ok.Cy p hp;have new:∀h3,(∃u,h3=h++u1++u2++[.CG]++u)->∃h' h4 G',BI cx 60 [Pt a 0,I (b.a.nd p).Cy,.str s] h3 (.tuple [I (b.a.len+1),I 0]) h4/\BI cx 61 [Pt bi 0,I (b.a.len+1),I p,I bf] h4 (.tuple []) h'/\BX h' bi a o c t G' {b with a:=(b.a.add {kind:=5,Cy:=(b.a.nd p).Cy,data:=s}).DZ (b.a.len+1) p bf}/\De h (own bi G) h' (own bi G'):=by
  rintro _ ⟨u,rfl⟩;have w4:=w3.HA (u:=u);obtain⟨h4,G4,⟨r4,_⟩,w5,x5⟩:=w4.step (A':=b.a.add (Lg 5 (b.a.nd p).Cy s).x) (R:=λh'=>BI cx 60 [Pt a 0,I (b.a.nd p).Cy,.str s] (h++u1++u2++[.CG]++u) (.tuple [I (b.a.len+1),I 0]) h'/\True) (λn m ps wa=>by obtain⟨h',r,wp,o1,l1⟩:=aLp (s:=s) wa rm.Wo (by have:=rm.n;unfold Ar.len;omega) Zr;exact⟨h',_,_,_,⟨r,trivial⟩,wp,wa.Rh rfl o1 l1⟩)
  obtain⟨S_,rm5⟩:=Zq (m:=m) (k:=5) (s:=s) ok (rm.le (by omega)) (.inl rfl) Zr (by omega);obtain⟨h',G',r6,w6,x6⟩:=dD (x:=b.a.len+1) (p:=p) (bf:=bf) w5 S_ rm5;exact⟨h',h4,G',r4,r6,w6,(x3.trans w3.CN).trans (x5.trans x6)⟩
 have kl:=(hK.Sm (h:=h++u1++u2)).len;have NF:i<=1000000000:=by omega
 by_cases hz:i=0
 .subst hz;obtain⟨h',h4,G',r4,r6,w6,x6⟩:=new (h++u1++u2++[.CG]) ⟨[],by simp⟩;simp only[↓reduceIte];refine⟨h',G',?_,w6,x6⟩;rw[Ab,VD,t25];rcases hk with hk|hk<;>by_cases h0:bf=0
  all_goals first|(rw[<-sS h0] at kl;simp only[AB,Bi,(Ho w).call,r1.call,r2.call,hk,ne_eq,Cn,show¬(2:Int)=4 by decide,kl,AW h0,r35.call,f3,b3,show¬(0:Int)<((0:Nat):Int) by decide,w3.l0,r4.call,Cn,r6.call];done)|(rw[Tw h0] at ri;simp only[AB,Bi,(Ho w).call,r1.call,r2.call,hk,ne_eq,Cn,show¬(2:Int)=4 by decide,kl,h0,r35.call,f3,b3,show¬(0:Int)<((0:Nat):Int) by decide,w3.l0,r4.call,Cn,r6.call,ri.call])
 .obtain⟨j,rfl⟩:∃j,i=j+1:=⟨i-1,by omega⟩;have hj:j<(b.a.nd p).AY.length:=by omega
  rw[if_neg hz,GF,Ae hj];simp only
  have ht:=ok.ok.LF p hp _ (AI hj);obtain⟨q,e1,e2⟩:=(hK.Sm (h:=h++u1++u2++[.CG])).at_ j hj;obtain⟨K7,V7,u7,r7,_,_⟩:=TH w3 ok rm (b.a.nd p).AY[j];have w7:=w3.HA (u:=u7);obtain⟨q',e1',e2'⟩:=(hK.Sm (h:=h++u1++u2++[.CG]++u7)).at_ j hj;rw[e1,BA] at e1';subst e1';have sb:Aw (.int .sub) [I ((j+1:Nat):Int),I 1]=some (I (j:Int)):=by have:=Hl (n:=j+1) (by omega) (by omega);simpa using this
  generalize hte:(b.a.nd p).AY[j]=te at*;by_cases k5:(b.a.nd te).kind=5
  .rw[if_pos k5];have fW:=rm.data te;obtain⟨h8,G8,⟨r8,_⟩,w8,x8⟩:=w7.step (A':=b.a.Rb te ((b.a.nd te).data++s)) (R:=λh'=>BI cx 59 [Pt a 0,I te,.str ((b.a.nd te).data++s)] (h++u1++u2++[.CG]++u7) (I 0) h'/\True) (λn m ps wa=>by obtain⟨h',Iz,r,wp,xp⟩:=aLq (s:=(b.a.nd te).data++s) wa rm.Wo ht.1 k5;exact⟨h',n,m,Iz,⟨r,trivial⟩,wp,xp⟩)
   refine⟨h8,G8,?_,w8,(x3.trans w3.CN).trans x8⟩;rw[Ab,VD,t25];rcases hk with hk|hk<;>by_cases h0:bf=0
   all_goals first|(rw[<-sS h0] at kl;simp only[AB,Bi,(Ho w).call,r1.call,r2.call,hk,ne_eq,Cn,show¬(2:Int)=4 by decide,kl,AW h0,r35.call,f3,b3,show(0:Int)<((j+1:Nat):Int) by omega,sb,e1,e2,r7.call,k5,w7.l0,e2',Zp (show(b.a.nd te).data.length+s.length<=2000000000 by omega),Cn,r8.call];done)|(rw[Tw h0] at ri;simp only[AB,Bi,(Ho w).call,r1.call,r2.call,hk,ne_eq,Cn,show¬(2:Int)=4 by decide,kl,h0,r35.call,f3,b3,show(0:Int)<((j+1:Nat):Int) by omega,sb,e1,e2,r7.call,k5,w7.l0,e2',Zp (show(b.a.nd te).data.length+s.length<=2000000000 by omega),Cn,r8.call,ri.call])
  .rw[if_neg k5];obtain⟨h',h4,G',r4,r6,w6,x6⟩:=new _ ⟨u7,rfl⟩;refine⟨h',G',?_,w6,x6⟩;rw[Ab,VD,t25];rcases hk with hk|hk<;>by_cases h0:bf=0
   all_goals first|(rw[<-sS h0] at kl;simp only[AB,Bi,(Ho w).call,r1.call,r2.call,hk,ne_eq,Cn,show¬(2:Int)=4 by decide,kl,AW h0,r35.call,f3,b3,show(0:Int)<((j+1:Nat):Int) by omega,sb,e1,e2,r7.call,k5,w7.l0,r4.call,Cn,r6.call];done)|(rw[Tw h0] at ri;simp only[AB,Bi,(Ho w).call,r1.call,r2.call,hk,ne_eq,Cn,show¬(2:Int)=4 by decide,kl,h0,r35.call,f3,b3,show(0:Int)<((j+1:Nat):Int) by omega,sb,e1,e2,r7.call,k5,w7.l0,r4.call,Cn,r6.call,ri.call])
theorem Lh{s:Ap}{p bf x:Int}{h0 h1:Ad}(hstart:(¬x=0/\p=x/\bf=0/\h1=h0)\/(x=0/\BI cx 14 [Pt bi 0,I 0] h0 (.tuple [I p,I bf]) h1))
  (w0:BX h0 bi a o c t G b) (x0:De h0 (own bi G) h1 (own bi G)) (w:BX h1 bi a o c t G b) (ok:DG b) (rm:BQ b (m+1)) (hs:s.length<=100000):
  ∃h' G',BI cx 72 [Pt bi 0,.str s,I x] h0 (.tuple []) h'/\BX h' bi a o c t G' {b with a:=BS.Eo b.a s p bf}/\De h0 (own bi G) h' (own bi G'):=by
 obtain⟨K,V,u2,r2,hK,_⟩:=TH w ok rm p;have w2:=w.HA (u:=u2);unfold BS.Eo;by_cases hk:J9 (b.a.nd p).kind
 .rw[if_pos hk];have hp:b.a.has p:=by
   by_cases hp:b.a.has p;·exact hp
   .rw[GI hp] at hk;unfold J9 at hk;simp at hk
  have Zr:=ok.ok.Cy p hp;obtain⟨h4,G4,⟨r4,_⟩,w5,x5⟩:=w2.step (A':=b.a.add (Lg 6 (b.a.nd p).Cy s).x) (R:=λh'=>BI cx 168 [Pt a 0,I (b.a.nd p).Cy,.str s] (h1++u2) (.tuple [I (b.a.len+1),I 0]) h'/\True) (λn m ps wa=>by obtain⟨h',r,wp,o1,l1⟩:=aGh (s:=s) wa rm.Wo (by have:=rm.n;unfold Ar.len;omega) Zr;exact⟨h',_,_,_,⟨r,trivial⟩,wp,wa.Rh rfl o1 l1⟩)
  obtain⟨S_,rm5⟩:=Zq (m:=m) (k:=6) (s:=s) ok rm (.inr rfl) Zr hs;obtain⟨h',G',r6,w6,x6⟩:=dD (x:=b.a.len+1) (p:=p) (bf:=bf) w5 S_ rm5;refine⟨h',G',?_,w6,(x0.trans w.CN).trans (x5.trans x6)⟩;rw[Ab,zO,t72];rcases hstart with⟨hx,rfl,rfl,rfl⟩|⟨hx,r1⟩
  .rcases hk with hk|hk|hk<;>simp only[AB,Bi,(Ho w0).call,r2.call,hk,ne_eq,Cn,show¬(2:Int)=1 by decide,show¬(4:Int)=1 by decide,show¬(4:Int)=2 by decide,w2.l0,r4.call,r6.call,hx]
  .rcases hk with hk|hk|hk<;>simp only[AB,Bi,(Ho w0).call,r2.call,hk,ne_eq,Cn,show¬(2:Int)=1 by decide,show¬(4:Int)=1 by decide,show¬(4:Int)=2 by decide,w2.l0,r4.call,r6.call,AW hx,r1.call]
 .rw[if_neg hk];refine⟨_,G,?_,w2,x0.trans w.CN⟩;unfold J9 at hk;have k1:¬(b.a.nd p).kind=1:=by omega
  have k2:¬(b.a.nd p).kind=2:=by omega
  have k4:¬(b.a.nd p).kind=4:=by omega
  rw[Ab,zO,t72];rcases hstart with⟨hx,rfl,rfl,rfl⟩|⟨hx,r1⟩
  .simp only[AB,Bi,(Ho w0).call,r2.call,ne_eq,k1,k2,k4,hx]
  .simp only[AB,Bi,(Ho w0).call,r2.call,ne_eq,k1,k2,k4,AW hx,r1.call]
theorem aLN(w:BX h bi a o c t G b)(ok:DG b)(rm:BQ b (m+1))(s:Ap)(hs:s.length<=100000)(x:Int):
  ∃h' G',BI cx 72 [Pt bi 0,.str s,I x] h (.tuple []) h'/\BX h' bi a o c t G' (b.JY s x)/\De h (own bi G) h' (own bi G'):=by
 unfold BS.JY;by_cases h0:x=0;·rw[if_pos h0];obtain⟨u1,r1⟩:=bq w ok rm 0;exact Lh (p:=(b.place 0).1) (bf:=(b.place 0).2) (.inr ⟨h0,r1⟩) w w.CN (w.HA (u:=u1)) ok rm hs
 .rw[if_neg h0];exact Lh (p:=x) (bf:=0) (.inl ⟨h0,rfl,rfl,rfl⟩) w .refl w ok rm hs
theorem aLO(w:BX h bi a o c t G b)(ok:DG b)(rm:BQ b (m+4))(hr:Nj nm av r)(hv:Bw l av)(hl:DA l)(hn:nm.length<=1000)(st:Int):
  ∃h' o' G',BI cx 73 [Pt bi 0,.agg r,I st] h (.tuple []) h'/\BX h' bi a o' c t G' (b.OY nm l st)/\De h (own bi G) h' (own bi G'):=by
 obtain⟨h1,o1,G1,r1,w1,x1⟩:=qm w ok rm hr hv hl hn;have s1:=w1.st (k:=18) (v:= I st) rfl rfl;have w2:BX (put h1 bi 18 (I st)) bi a o1 c t G1 {b.Ex nm l 1 with sw:=st}:=w1.put rfl rfl w1.o w1.t;have s2:=w2.st (k:=5) (v:= I (b.Ex nm l 1).mode) rfl rfl;have w3:BX (put (put h1 bi 18 (I st)) bi 5 (I (b.Ex nm l 1).mode)) bi a o1 c t G1 {b.Ex nm l 1 with sw:=st,Q9:=(b.Ex nm l 1).mode}:=w2.put rfl rfl w1.o w1.t;have s3:=w3.st (k:=4) (v:=I 8) rfl rfl;have w4:BX (put (put (put h1 bi 18 (I st)) bi 5 (I (b.Ex nm l 1).mode)) bi 4 (I 8)) bi a o1 c t G1 (b.OY nm l st):=w3.put rfl rfl w1.o w1.t;refine⟨_,o1,G1,?_,w4,((x1.trans Be).trans Be).trans Be⟩;obtain⟨c0,c2,c3,c4,c5,c6,c7,c9,Tv,U7,rfl⟩:=hr;rw[Ab,aAp,t73];simp only[AB,(Ho w).call,r1.call,w1.l4,s1,s2,s3]
theorem aLP(w:BX h bi a o c t G b)(rm:BQ b m):
  ∃h' o',BI cx 74 [Pt bi 0] h (.tuple []) h'/\BX h' bi a o' c t G b.IL/\De h (own bi G) h' (own bi G):=by
 have ho:=rm.AO;have r1:=aK0 w.sA (show b.AO.length<=1000000000 by omega) 3 (v:= .sl 1 ([wP].map CH)) (ws:=[wP]) CQ (by decide);have em:Aw (.Bx 1) [S [112]]=some (.sl 1 ([wP].map CH)):=DE (ws:=[wP]) rfl (by decide);unfold BS.IL;by_cases hs:I2 (Bp [wP]) (II 3) b.AO.reverse=true;·rw[if_pos hs];rw[hs] at r1;obtain⟨u1,r2,NG⟩:=aF4 w.sO (by omega) wP;have w1:=w.Ia NG;have DV:=OU (b:=DY wP) (a:=CC) (l:=b.AO);obtain⟨u2,r3,Il⟩:=f66 w1.sO (by simp only;omega) (w:= .sl 1 ([wP].map CH)) (ws:=[wP]) CQ (by decide);refine⟨_,u2,?_,w1.Ia Il,Be.trans Be⟩;rw[Ab,zP,t74];simp only[AB,(Ho w).call,em,r1.call,r2.call,r3.call]
 .rw[if_neg hs];rw[show I2 (Bp [wP]) (II 3) b.AO.reverse=false by simpa using hs] at r1;refine⟨h,o,?_,w,.refl⟩;rw[Ab,zP,t74];simp only[AB,(Ho w).call,em,r1.call]
end
section
variable{h h':Ad}{bi a:Nat}{o c t:Aa}{G G' F:Nat->Prop}{b:BS}{x:Int}{m:Nat}
variable{nm:Ap}{av:Aa}{l:List AU}{r:List Aa}{sp p:Int}
theorem Rj{α:Type}{l:List α}{n:Nat}(hn:n<l.length):(l.take (n+1)).reverse=l[n]::(l.take n).reverse:=by rw[Av hn,Ns];rfl
theorem aGQ(w:BX h bi a o c t G b)(rm:BQ b m)(nm:Ap):
  ∃h' o',BI cx 76 [Pt bi 0,.str nm] h (.tuple []) h'/\BX h' bi a o' c t G (b.C0 nm)/\De h (own bi G) h' (own bi G):=by
 have ho:=rm.AO;have Ik:Ev cx 76 [Pt bi 0,.str nm] h λr h'=>r= .tuple []/\∃o',BX h' bi a o' c t G (b.C0 nm)/\De h (own bi G) h' (own bi G):=by
  unfold Ev;rw[zQ,t76];simp only[AB,Bi,(Ho w).call,(Sk w.sA).call,CJ (show -9223372036854775808<=(b.AO.length:Int)-1 by omega) (show(b.AO.length:Int)-1<9223372036854775808 by omega)];refine Bb (λn:Nat=>[I ((n:Int)-1)]) (λn h1=>n<=b.AO.length/\(b.AO.reverse.find? λi=>Bp [nm] i||F9 i)=((b.AO.take n).reverse.find? λi=>Bp [nm] i||F9 i)/\h1=h) (λn=>n) b.AO.length rfl ⟨Ac _,by rw[Bu],rfl⟩ ?_;rintro n h1 ⟨hn,ha,rfl⟩;cases n with
  |zero=>
   have e:b.C0 nm=b:=by unfold BS.C0;rw[ha];rfl
   simp only[AB,Bi,show¬(0:Int)<=((0:Nat):Int)-1 by omega];exact⟨_,rfl,rfl,o,by rw[e];exact w,.refl⟩
  |succ n=>
   have hlt:n<b.AO.length:=by omega
   have i1:((n+1:Nat):Int)-1=(n:Int):=by omega
   have r1:=f113 w.sA (n:Int);rw[He hlt] at r1;have em:Aw (.Bx 1) [.str nm]=some (.sl 1 ([nm].map CH)):=DE (ws:=[nm]) rfl (by simp);have r2:=jN (ws:=[nm]) CQ (by simp) b.AO[n] h1;rw[Rj hlt,I1] at ha;generalize hi:b.AO[n]=i at*;rw[Item.row] at r2;simp only[AB,Bi,EB,i1,show(0:Int)<=(n:Int) by omega,r1.call,em];have r2':BI cx 36 [.agg i.row,.sl 1 ([nm].map CH)] h1 (.bool (Bp [nm] i)) h1:=r2;rw[r2'.call,KM,Cu];refine⟨λh2=>?_,λh2=>?_⟩
   .obtain⟨u1,r3,NG⟩:=aF4 w.sO (by omega) nm;have w1:=w.Ia NG;have DV:=OU (b:=DY nm) (a:=CC) (l:=b.AO);obtain⟨u2,r4,Il⟩:=aF5 w1.sO (by simp only;omega) i.node;simp only[AB,r3.call,r4.call];refine⟨_,rfl,rfl,u2,?_,Be.trans Be⟩;have e:b.C0 nm={b with AO:=Ga i.node (Dr (DY nm) CC b.AO)}:=by unfold BS.C0;rw[ha];simp only[h2,dk,BK]
    rw[e];exact w1.Ia Il
   .simp only[h2,Ji] at ha;simp only[(aFT i.AZ i.name).Bc rfl rfl];rw[KM,Cu];refine⟨λh3=>?_,λh3=>?_⟩
    .have h3':F9 i=true:=h3;rw[h3'] at ha;have e:b.C0 nm=b:=by unfold BS.C0;rw[ha];simp only[h2,C1,D9]
     simp only[AB];exact⟨_,rfl,rfl,o,by rw[e];exact w,.refl⟩
    .have h3':F9 i=false:=h3;rw[h3'] at ha;simp only[AB,CJ (show -9223372036854775808<=(n:Int)-1 by omega) (show(n:Int)-1<9223372036854775808 by omega)];exact AF.next n rfl ⟨by omega,ha,rfl⟩ (by omega)
 obtain⟨r,h',hr,rfl,o',w',x'⟩:=Ik.ret;exact⟨h',o',hr,w',x'⟩
theorem aGR(w:BX h bi a o c t G b)(rm:BQ b m){k:Nat}(hk:k<=b.AO.length):BI cx 253 [Pt bi 0,I (k:Int)] h (I (BS.ID (b.AO.take k))) h:=by
 have ho:=rm.AO;rw[Ab,oP,aBB];simp only[AB,CJ (show -9223372036854775808<=(k:Int)-1 by omega) (show(k:Int)-1<9223372036854775808 by omega)];refine Bb (λn:Nat=>[I 0,I ((n:Int)-1)]) (λn h1=>n<=k/\((b.AO.take k).reverse.find? λi=>Bp [A5] i||Bp [Ew] i)=((b.AO.take n).reverse.find? λi=>Bp [A5] i||Bp [Ew] i)/\h1=h) (λn=>n) k rfl ⟨Ac _,rfl,rfl⟩ ?_;rintro n h1 ⟨hn,ha,rfl⟩;cases n with
 |zero=>simp only[AB,Bi,show¬(0:Int)<=((0:Nat):Int)-1 by omega];unfold BS.ID;rw[ha];rfl
 |succ n=>
  have hlt:n<b.AO.length:=by omega
  have i1:((n+1:Nat):Int)-1=(n:Int):=by omega
  have r1:=f113 w.sA (n:Int);rw[He hlt] at r1;have em1:Aw (.Bx 1) [S A5]=some (.sl 1 ([A5].map CH)):=DE (ws:=[A5]) rfl (by decide);have sW:Aw (.Bx 1) [S Ew]=some (.sl 1 ([Ew].map CH)):=DE (ws:=[Ew]) rfl (by decide);have r2:=jN (ws:=[A5]) CQ (by decide) b.AO[n] h1;have r3:=jN (ws:=[Ew]) CQ (by decide) b.AO[n] h1;rw[Rj hlt,I1] at ha;simp only[AB,Bi,i1,show(0:Int)<=(n:Int) by omega,r1.call,em1,r2.call,sW,r3.call,CJ (show -9223372036854775808<=(n:Int)-1 by omega) (show(n:Int)-1<9223372036854775808 by omega)];rw[Cu];refine⟨λh2=>?_,λh2=>?_⟩;·simp only[h2,dk] at ha;unfold BS.ID;rw[ha];simp only[h2,BK]
  .simp only[h2,Ji] at ha;rw[Cu];refine⟨λh3=>?_,λh3=>?_⟩;·rw[h3] at ha;unfold BS.ID;rw[ha];simp only[h2,C1,D9]
   .rw[h3] at ha;exact AF.next n rfl ⟨by omega,ha,rfl⟩ (by omega)
def jP(r:Ap×Int):List Aa:=[.str r.1,I r.2]
theorem Zs{z:Nat}{Au:List (List Aa)}{args:List Aa}(e:args=Au.map Aa.agg)(hz:∀r∈Au,r.length=z)(hl:Au.length*z<=16777216):Aw (.Bx z) args=some (.sl z Au):=by
 subst e;have e1:(Au.map Aa.agg).all (λa=>a.cells.length==z)=true:=by simp[Aa.cells];exact hz
 have e2:(Au.map Aa.agg).map (·.cells)=Au:=by rw[List.map_map];exact List.map_id _
 rw[lU,e1,e2];simp[hl]
theorem b_{args:List Aa}(e:args=(Iw.map jP).map Aa.agg):Aw (.Bx 2) args=some (.sl 2 (Iw.map jP)):=Zs e (λr hr=>by obtain⟨x,_,rfl⟩:=Bk.1 hr;rfl) (by decide)
theorem aGS:BI cx 252 [] h (.sl 2 (Iw.map jP)) h:=by rw[Ab,oO,aBA];simp only[AB,Nat.reduceLeDiff,↓reduceIte,AK,Bi];exact(Cd (λz=>Xy z λv=>[v]=[Aa.sl 2 (Iw.map jP)]) (b_ rfl)).mpr (by rw[Mp])
theorem O2{s:Ap}{i:Item}:Bp [s] i=decide (i.AZ=1/\i.name=s):=by unfold Bp;simp
theorem sX{i:Item}{k:Nat}:b.Gk i k=match Iw.find? λr=>Bp [r.1] i with
  |some r=>some r.2
  |none=>if Bp [JZ] i then some (BS.ID (b.AO.take k)) else if Bp [yJ,yK] i&&decide (0<k) then some 15 else if Bp [A5] i then some (b.tm.getLast?.getD 7) else if Bp [PE] i&&decide (0<k) then some 4 else if Bp [Da] i then some (if b.head=0 then 3 else 6) else if k=0 then some 7 else none:=by
 unfold BS.Gk;by_cases hs:i.AZ=1
 .rw[if_pos hs];have e:(λr:Ap×Int=>Bp [r.1] i)=λr=>decide (r.1=i.name):=by funext r;rw[O2,D0];exact⟨λh=>h.2.symm,λh=>⟨hs,h.symm⟩⟩
  rw[e];cases hf:Iw.find? λr=>decide (r.1=i.name) with
  |some r=>rfl
  |none=>simp only[Bp,hs,NO,AL,Sy,or_false,BL,DJ]
 .rw[if_neg hs];have e:(λr:Ap×Int=>Bp [r.1] i)=λ_=>false:=by funext r;rw[O2,AA (λh=>hs h.1)]
  rw[e];have e2:Iw.find? (λ_=>false)=none:=by decide
  rw[e2];simp only[Bp,hs,false_and,Fg,C1,D9,Bool.false_and]
theorem aGT(w:BX h bi a o c t G b)(rm:BQ b m)(i:Item){k:Nat}(hk:k<=b.AO.length):BI cx 173 [Pt bi 0,.agg i.row,I (k:Int)] h (.tuple [I ((b.Gk i k).getD 7),.bool (b.Gk i k).isSome]) h:=by
 have ho:=rm.AO;have htm:=rm.tm;have lD:AM 2 (Iw.map jP) (.sl 2 (Iw.map jP)):= .mk;have fi:=λws hw=>jN (ws:=ws) CQ hw i h;rw[sX,Ab,nI,aA6];have hlen:Iw.length=9:=rfl;have lv:=lD.Cp;rw[hlen] at lv;simp only[AB,↓reduceIte,EB,aGS.call,lv];refine Bb (λn:Nat=>[I 0,ff,I (n:Int)]) (λn h1=>n<=9/\(Iw.find? λr=>Bp [r.1] i)=((Iw.drop n).find? λr=>Bp [r.1] i)/\h1=h) (λn=>9 -n) 0 rfl ⟨AR _,rfl,rfl⟩ ?_;rintro n h1 ⟨hn,ha,rfl⟩;rcases AT n 9 with hlt|D1
 .have Rg:n<Iw.length:=hlt;have em:Aw (.Bx 1) [.str Iw[n].1]=some (.sl 1 ([Iw[n].1].map CH)):=DE (ws:=[Iw[n].1]) rfl (by simp);rw[AG Rg,I1] at ha;simp only[AB,Nat.reduceLeDiff,↓reduceIte,Bi,show(n:Int)<((9:Nat):Int) by omega,lD.Bz Rg,jP,em,(fi [Iw[n].1] (by simp)).call,BF (show n<9223372036854775807 by omega)];rw[Cu];refine⟨λh2=>?_,λh2=>?_⟩;·rw[h2] at ha;rw[ha];simp
  .rw[h2] at ha;exact AF.next (n+1) rfl ⟨hlt,ha,rfl⟩ (by omega)
 .have h9:n=9:=by omega
  subst h9;have ha:(Iw.find? λr=>Bp [r.1] i)=none:=ha;rw[ha];have e1:Aw (.Bx 1) [S aSZ]=some (.sl 1 ([JZ].map CH)):=DE (ws:=[JZ]) rfl (by decide);have e2:Aw (.Bx 1) [S [116,100],S [116,104]]=some (.sl 1 ([yJ,yK].map CH)):=DE (ws:=[yJ,yK]) rfl (by decide);have e3:Aw (.Bx 1) [S aSo]=some (.sl 1 ([A5].map CH)):=DE (ws:=[A5]) rfl (by decide);have e4:Aw (.Bx 1) [S aS7]=some (.sl 1 ([PE].map CH)):=DE (ws:=[PE]) rfl (by decide);have e5:Aw (.Bx 1) [S aSx]=some (.sl 1 ([Da].map CH)):=DE (ws:=[Da]) rfl (by decide);have q1:=fi [JZ] (by decide);have q2:=fi [yJ,yK] (by decide);have q3:=fi [A5] (by decide);have q4:=fi [PE] (by decide);have q5:=fi [Da] (by decide);have rs:=aGR w rm hk;have lt:=(Dg.Sm (h:=h1) w.t);have i9:¬((9:Nat):Int)<((9:Nat):Int):=by decide
  have l6:=w.l6;have ym:b.tm≠[]->∃p,Aw (.int .sub) [I (b.tm.length:Int),I 1]=some (I ((b.tm.length-1:Nat):Int))/\Aw (.Fj 1) [t,I ((b.tm.length-1:Nat):Int)]=some p/\A6 h1 none p=some (I (b.tm.getLast?.getD 7)):=by intro hne;have hpos:=FU.2 hne;obtain⟨p,p1,p2⟩:=lt.at_ (b.tm.length-1) (by omega);refine⟨p,Hl hpos (by omega),p1,?_⟩;rw[p2,eE,Ae (by omega)];rfl
  by_cases g1:Bp [JZ] i=true;·rw[g1] at q1;simp only[AB,↓reduceIte,Bi,i9,e1,q1.call,rs.call,g1,Ib,Option.isSome_some]
  .have g1:Bp [JZ] i=false:=by simpa using g1
   rw[g1] at q1;by_cases k0:0<k
   .have k1:¬k=0:=by omega
    have k2:¬(k:Int)=0:=by omega
    have k3:(0:Int)<(k:Int):=by omega
    cases g2:Bp [yJ,yK] i<;>rw[g2] at q2;rotate_left;·simp only[AB,↓reduceIte,i9,e1,q1.call,e2,q2.call,k0,k3,g1,IW]
    cases g3:Bp [A5] i<;>rw[g3] at q3;rotate_left
    .by_cases ht:b.tm=[];·simp only[AB,↓reduceIte,i9,e1,q1.call,e2,q2.call,e3,q3.call,k0,k3,g1,IW,l6,lt.len,ht,Int.natCast_zero,Int.lt_irrefl,List.getLast?_nil]
     .obtain⟨p,p1,p2,p3⟩:=ym ht;have FH:¬b.tm.length=0:=λe=>ht (uA.1 e);simp only[AB,↓reduceIte,i9,e1,q1.call,e2,q2.call,e3,q3.call,k0,k3,g1,IW,l6,lt.len,show(0:Int)<(b.tm.length:Int) by omega,p1,p2,p3]
    cases g4:Bp [PE] i<;>rw[g4] at q4;rotate_left;·simp only[AB,↓reduceIte,i9,e1,q1.call,e2,q2.call,e3,q3.call,e4,q4.call,k0,k3,g1,IW]
    all_goals cases g5:Bp [Da] i<;>rw[g5] at q5
    all_goals first
     |simp only[AB,↓reduceIte,i9,e1,q1.call,e2,q2.call,e3,q3.call,e4,q4.call,e5,q5.call,k0,k1,k2,k3,g1,IW];done
     |by_cases hh:b.head=0
      .simp only[AB,↓reduceIte,i9,e1,q1.call,e2,q2.call,e3,q3.call,e4,q4.call,e5,q5.call,k0,k2,k3,g1,IW,w.l7,hh]
      .simp only[AB,↓reduceIte,i9,e1,q1.call,e2,q2.call,e3,q3.call,e4,q4.call,e5,q5.call,k0,k2,k3,g1,IW,w.l7,hh]
   .have k1:k=0:=by omega
    subst k1;have k3:¬(0:Int)<((0:Nat):Int):=by decide
    have k2:((0:Nat):Int)=0:=rfl;by_cases g3:Bp [A5] i=true
    .rw[g3] at q3;cases g2:Bp [yJ,yK] i<;>rw[g2] at q2<;>by_cases ht:b.tm=[];all_goals first
      |simp only[AB,↓reduceIte,i9,e1,q1.call,e2,q2.call,e3,q3.call,k2,g1,g3,IW,l6,lt.len,ht,Int.lt_irrefl,List.getLast?_nil,Dd];done
      |obtain⟨p,p1,p2,p3⟩:=ym ht
       have FH:¬b.tm.length=0:=λe=>ht (uA.1 e);simp only[AB,↓reduceIte,i9,e1,q1.call,e2,q2.call,e3,q3.call,k2,g1,g3,IW,l6,lt.len,show(0:Int)<(b.tm.length:Int) by omega,p1,p2,p3,Dd]
    .have g3:Bp [A5] i=false:=by simpa using g3
     rw[g3] at q3;cases g2:Bp [yJ,yK] i<;>rw[g2] at q2<;>cases g4:Bp [PE] i<;>rw[g4] at q4<;>cases g5:Bp [Da] i<;>rw[g5] at q5<;>by_cases hh:b.head=0;all_goals simp only[AB,↓reduceIte,i9,e1,q1.call,e2,q2.call,e3,q3.call,e4,q4.call,e5,q5.call,k2,g1,g3,IW,w.l7,hh,Dd]
end
section
variable{h h':Ad}{bi a:Nat}{o c t:Aa}{G G' F:Nat->Prop}{b:BS}{x:Int}{m:Nat}
variable{nm:Ap}{av:Aa}{l:List AU}{r:List Aa}{sp p:Int}
theorem BX.sY(w:BX h bi a o c t G b):A6 h (some 4) (Pt bi 10)=some (.agg b.ctx.row):=by simp only[A6,w.hb];rfl
theorem BX.dH(w:BX h bi a o c t G b)(v:Int):BX (Am.put h bi 4 (I v)) bi a o c t G {b with mode:=v}:=w.put rfl rfl w.o w.t
theorem BQ.mode{v:Int}(rm:BQ b m):BQ {b with mode:=v} m:=⟨rm.n,rm.at_,rm.data,rm.AO,rm.A4,rm.tm,rm.Dk,rm.Wn⟩
theorem qo(w:BX h bi a o c t G b)(rm:BQ b m):
  ∃h',BI cx 77 [Pt bi 0] h (.tuple []) h'/\BX h' bi a o c t G b.HN/\De h (own bi G) h' (own bi G):=by
 have ho:=rm.AO;have Ik:Ev cx 77 [Pt bi 0] h λr h'=>r= .tuple []/\BX h' bi a o c t G b.HN/\De h (own bi G) h' (own bi G):=by
  unfold Ev;have w1:=w.dH 7;rw[zR,t77];simp only[AB,Bi,(Ho w).call,w.st (k:=4) (v:=I 7) rfl rfl,(Sk w1.sA).call,CJ (show -9223372036854775808<=(b.AO.length:Int)-1 by omega) (show(b.AO.length:Int)-1<9223372036854775808 by omega)];refine Bb (λn:Nat=>[I ((n:Int)-1)]) (λn h1=>n<=b.AO.length/\b.Kv b.AO.length=b.Kv n/\h1=Am.put h bi 4 (I 7)) (λn=>n) b.AO.length rfl ⟨Ac _,rfl,rfl⟩ ?_;rintro n h1 ⟨hn,ha,rfl⟩;cases n with
  |zero=>
   have e:b.HN={b with mode:=7}:=by unfold BS.HN;rw[ha];rfl
   simp only[AB,Bi,show¬(0:Int)<=((0:Nat):Int)-1 by omega];exact⟨_,rfl,rfl,by rw[e];exact w1,Be⟩
  |succ n=>
   have hlt:n<b.AO.length:=by omega
   have i1:((n+1:Nat):Int)-1=(n:Int):=by omega
   have r1:=f113 w1.sA (n:Int);rw[show Gy ({b with mode:=7}:BS).AO (n:Int)=b.AO[n] from He hlt] at r1;have r2:∀i:Item,BI cx 173 [Pt bi 0,.agg i.row,I (n:Int)] (Am.put h bi 4 (I 7)) (.tuple [I ((b.Gk i n).getD 7),.bool (b.Gk i n).isSome]) (Am.put h bi 4 (I 7)):=λi=>aGT w1 rm.mode i (k:=n) (by simp only;omega);have r3:=r2 (b.D3 n);have hst:∀v,Cv (Am.put h bi 4 (I 7)) 1 (Pt bi 4) (I v)=some (Am.put (Am.put h bi 4 (I 7)) bi 4 (I v)):=λv=>w1.st (k:=4) rfl rfl;have e:b.Kv (n+1)=match b.Gk (b.D3 n) n with|some m=>m|none=>b.Kv n:=rfl
   rw[e] at ha;have Qr:=w1.l9;have hlc:=w1.sY;have NI:=CJ (show -9223372036854775808<=(n:Int)-1 by omega) (show(n:Int)-1<9223372036854775808 by omega);cases hm:b.Gk (b.D3 n) n with
   |none=>
    rw[hm] at r3 ha;by_cases h0:n=0
    .have WB:((n:Int)=0)=True:=AW (by omega);cases hf:b.Im with
     |true=>
      have er:b.D3 n=b.ctx:=by unfold BS.D3;rw[if_pos ⟨h0,hf⟩]
      rw[er] at r3;rw[show({b with mode:=7}:BS).Im=true from hf] at Qr;simp only[AB,EB,i1,r1.call,Qr,hlc,r3.call,hst,IW,show(0:Int)<=(n:Int) by omega,WB,NI];exact AF.next n rfl ⟨by omega,ha,rfl⟩ (by omega)
     |false=>
      have er:b.D3 n=b.AO[n]:=by unfold BS.D3;rw[if_neg (by simp[hf]),AE,Ae hlt];rfl
      rw[er] at r3;rw[show({b with mode:=7}:BS).Im=false from hf] at Qr;simp only[AB,EB,i1,r1.call,Qr,hlc,r3.call,hst,IW,show(0:Int)<=(n:Int) by omega,WB,NI];exact AF.next n rfl ⟨by omega,ha,rfl⟩ (by omega)
    .have er:b.D3 n=b.AO[n]:=by unfold BS.D3;rw[if_neg (by simp[h0]),AE,Ae hlt];rfl
     rw[er] at r3;have WB:¬(n:Int)=0:=by omega
     simp only[AB,EB,i1,r1.call,r3.call,hst,IW,show(0:Int)<=(n:Int) by omega,WB,NI];exact AF.next n rfl ⟨by omega,ha,rfl⟩ (by omega)
   |some v=>
    rw[hm] at r3 ha;have e:b.HN={b with mode:=v}:=by unfold BS.HN;rw[ha]
    have w2:BX (Am.put (Am.put h bi 4 (I 7)) bi 4 (I v)) bi a o c t G b.HN:=by rw[e];exact w1.dH v
    by_cases h0:n=0
    .have WB:((n:Int)=0)=True:=AW (by omega);cases hf:b.Im with
     |true=>
      have er:b.D3 n=b.ctx:=by unfold BS.D3;rw[if_pos ⟨h0,hf⟩]
      rw[er] at r3;rw[show({b with mode:=7}:BS).Im=true from hf] at Qr;simp only[AB,EB,i1,r1.call,Qr,hlc,r3.call,hst,IW,show(0:Int)<=(n:Int) by omega,WB];exact⟨_,rfl,rfl,w2,Be.trans Be⟩
     |false=>
      have er:b.D3 n=b.AO[n]:=by unfold BS.D3;rw[if_neg (by simp[hf]),AE,Ae hlt];rfl
      rw[er] at r3;rw[show({b with mode:=7}:BS).Im=false from hf] at Qr;simp only[AB,EB,i1,r1.call,Qr,hlc,r3.call,hst,IW,show(0:Int)<=(n:Int) by omega,WB];exact⟨_,rfl,rfl,w2,Be.trans Be⟩
    .have er:b.D3 n=b.AO[n]:=by unfold BS.D3;rw[if_neg (by simp[h0]),AE,Ae hlt];rfl
     rw[er] at r3;have WB:¬(n:Int)=0:=by omega
     simp only[AB,EB,i1,r1.call,r3.call,hst,IW,show(0:Int)<=(n:Int) by omega,WB];exact⟨_,rfl,rfl,w2,Be.trans Be⟩
 obtain⟨r,h',hr,rfl,w',x'⟩:=Ik.ret;exact⟨h',hr,w',x'⟩
theorem sZ{h0 u:Ad}{V:Aa}{L:List AU}{N:Nat}(hN:N=h0.length)(hV:H9 (h0++u) V L)(hU:Up N V)(hb:L.length<=1000000000)(y:AU):
  ∃u' V',Fk (h0++u) 3 40 V (.sl 3 [y.row])=some (h0++u',V')/\H9 (h0++u') V' (L++[y])/\Up N V':=by
 subst hN;have bF:AS=140737488355328:=rfl;rcases hV with⟨rfl,rfl⟩|⟨id,rfl,hc,hl⟩
 .refine⟨u++[.cells (([y]:List AU).map AU.row).flatten],.Cl (h0++u).length 0 1 3,by rw[<-AD];rfl,.inr ⟨(h0++u).length,rfl,by simp,by simp⟩,λid k e=>by injection e with e;rw[<-e,As];omega⟩
 .have Ht:h0.length<=id:=hU id _ rfl;have hg:=IG (b:=40) (Au:=L.map AU.row) (r2:=[y.row]) (v:= .sl 3 [y.row]) (aB4 L) (by decide) hc .mk (by simp) (by rw[Ai];simp;omega);rw[Ai] at hg;have e:(h0++u).set id .CG++[.cells (L.map AU.row++[y.row]).flatten]=h0++(u.set (id-h0.length) .CG++[.cells ((L++[y]).map AU.row).flatten]):=by rw[B2 _ _ Ht,AD,BH];rfl
  rw[e] at hg;have Xv:(h0++(u.set (id-h0.length) Dc.CG++[.cells ((L++[y]).map AU.row).flatten]))=(h0++u.set (id-h0.length) Dc.CG)++[.cells ((L++[y]).map AU.row).flatten]:=by rw[AD]
  have ZK:(h0++u.set (id-h0.length) Dc.CG).length=(h0++u).length:=by simp
  refine⟨_,_,hg,.inr ⟨(h0++u).length,by simp,?_,?_⟩,λid k e=>by injection e with e;rw[<-e,As];omega⟩;·rw[Xv,<-ZK,Bg (Ac _),DC];rfl
  .rw[Xv];simp only[As,Bj,Bd,BT];omega
theorem aGU(y c:AU)(h:Ad):BI cx 175 [.agg c.row,.CA y.row] h (.bool (decide (C7 ⟨0,y.name,y.value⟩=C7 c))) h:=by
 rw[Ab,mg,aE6,AU.row,AU.row];simp only[AB];refine⟨λh1=>?_,λh1=>?_⟩;·congr 2;rw[D0];simp[C7,h1];exact eq_comm
 .rw[AA (λe=>h1 (by simp[C7] at e;exact e.1.symm))]
theorem AU.XU{y:AU}:(⟨0,y.name,y.value⟩:AU).row=[I 0,.str y.name,.str y.value]:=rfl
theorem Sp(k:Int×Ap):∀{l out:List AU},(GA out l).any (λz=>decide (k=C7 z))=(out++l).any λz=>decide (k=C7 z)
 |[],out=>by simp[GA]
 |y::l,out=>by
  rw[GA];split
  .rename_i h;rw[Sp k,List.any_append,List.any_append,List.any_cons];by_cases hk:k=C7 y;·subst hk;rw[h];rfl
   .simp[hk]
  .rw[Sp k,AD];rfl
theorem cf(k:Int×Ap)(l:List AU):(Ce l).any (λz=>decide (k=C7 z))=l.any λz=>decide (k=C7 z):=Sp k
theorem O3{l:List AU}{y:AU}:Ce (l++[y])=if(Ce l).any (λz=>decide (C7 y=C7 z)) then Ce l else Ce l++[y]:=VR
theorem aLQ(w:BX h bi a o c t G b)(ok:DG b)(rm:BQ b (m+1000))(hr:Nj nm av r)(hv:Bw l av)(hl:DA l)(x:Int):
  ∃h' G',BI cx 78 [Pt bi 0,.agg r,I x] h (.tuple []) h'/\BX h' bi a o c t G' (b.GB l x)/\De h (own bi G) h' (own bi G'):=by
 obtain⟨K1,V1,u1,r1,_,_⟩:=TH w ok rm x;have w1:=w.HA (u:=u1);obtain⟨c0,c2,c3,c4,c5,c6,c7,c9,Tv,U7,rfl⟩:=hr;have x1:De h (own bi G) (h++u1) (own bi G):=w.CN;by_cases hk:(b.a.nd x).kind=4;rotate_left;·refine⟨h++u1,G,?_,by unfold BS.GB;rw[if_neg hk];exact w1,x1⟩;rw[Ab,zS,t78];simp only[AB,↓reduceIte,Bi,(Ho w).call,r1.call,ne_eq,hk]
 obtain⟨K2,V2,u2,r2,_,hV,hU⟩:=TH w1 ok rm x;have w2:=w1.HA (u:=u2);have x2:De h (own bi G) (h++u1++u2) (own bi G):=x1.trans w1.CN;have hx:b.a.has x:=by
  by_cases hp:b.a.has x;·exact hp
  .rw[GI hp] at hk;simp at hk
 have hal:=rm.at_ x;have fD:=hl.1;have Ik:Ev cx 78 [Pt bi 0,.agg [c0,.str nm,c2,c3,c4,c5,c6,c7,av,c9,Tv,U7],I x] h λr h'=>r= .tuple []/\∃G',BX h' bi a o c t G' (b.GB l x)/\De h (own bi G) h' (own bi G'):=by
  unfold Ev;rw[zS,t78];have hvl:=AM.Cp hv;simp only[AB,↓reduceIte,Bi,(Ho w).call,r1.call,r2.call,ne_eq,hk,hvl];refine Bb (λs:Aa×Nat=>[s.1,I (s.2:Int)]) (λs h1=>∃u L,h1=h++u1++u/\s.2<=l.length/\H9 h1 s.1 L/\Up (h++u1).length s.1/\Ce L=Ce ((b.a.nd x).Ax++BS.plain (l.take s.2))/\(∀y∈L,BS.Hn y.AZ)/\L.length<=(b.a.nd x).Ax.length+s.2) (λs=>l.length-s.2) (V2,0) rfl ⟨u2,(b.a.nd x).Ax,rfl,AR _,hV,hU,?_,?_,by simp⟩ ?_;·simp[BS.plain]
  .exact λy hy=>(ok.ok.Q8 x hx).dw y hy
  rintro⟨V,n⟩ h1 ⟨u,L,rfl,hn,hV,hU,hL,hs,DV⟩;simp only at hn hV hU hL DV;rcases AT n l.length with hlt|D1
  .have e2:=AM.Bz (k:= .i64) hv hlt;rw[AU.row] at e2;have r3:=vw hV.in_ (by omega) (F:= .func (.func 175) [] [.CA l[n].row]) (q:=λc=>decide (C7 ⟨0,l[n].name,l[n].value⟩=C7 c)) ⟨_,_,rfl,by decide,λc=>aGU l[n] c _⟩;rw[AU.row] at r3;obtain⟨u',V',g1,g2,g3⟩:=sZ (N:=(h++u1).length) rfl hV hU (by omega) ⟨0,l[n].name,l[n].value⟩;rw[AU.XU] at g1;have em:Aw (.Bx 3) [.agg [I 0,.str l[n].name,.str l[n].value]]=some (.sl 3 [[I 0,.str l[n].name,.str l[n].value]]):=rfl;have e1:Ce ((b.a.nd x).Ax++BS.plain (l.take (n+1)))=Ce (L++[⟨0,l[n].name,l[n].value⟩]):=by rw[Av hlt,BS.plain,BH,<-AD,List.map_singleton,O3,O3,hL];rfl
   have e3:Ce (L++[⟨0,l[n].name,l[n].value⟩])=if L.any (λz=>decide (C7 ⟨0,l[n].name,l[n].value⟩=C7 z)) then Ce L else Ce L++[⟨0,l[n].name,l[n].value⟩]:=by rw[O3,cf]
   simp only[AB,Nat.reduceLeDiff,↓reduceIte,AK,Bi,show(n:Int)<(l.length:Int) by omega,e2,r3.call,em,g1,BF (show n<9223372036854775807 by omega)];rw[Cu];refine⟨λh2=>?_,λh2=>?_⟩
   .refine AF.next (V',n+1) rfl ⟨u',_,rfl,hlt,g2,g3,e1.symm,?_,by simp;omega⟩ (by simp only;omega);intro y hy;rcases Ao.1 hy with hy|hy
    .exact hs y hy
    .simp at hy;subst hy;exact⟨by simp only;omega,by simp only;omega⟩
   .have h2:(L.any λz=>decide (C7 ⟨0,l[n].name,l[n].value⟩=C7 z))=true:=by simpa using h2
    rw[if_pos h2] at e3;exact AF.next (V,n+1) rfl ⟨u,L,rfl,hlt,hV,hU,by rw[e1,e3],hs,by simp only;omega⟩ (by simp only;omega)
  .have NF:n=l.length:=by omega
   subst NF;rw[Bu] at hL;simp only[AB,↓reduceIte,Bi,show¬(l.length:Int)<(l.length:Int) by omega,(w1.HA (u:=u)).l0];obtain⟨h3,G3,r3,w3,x3⟩:=(w1.HA (u:=u)).step (A':=b.a.Iu x L) (R:=λh3=>BI cx 176 [Pt a 0,I x,V] (h++u1++u) (I 0) h3) λn m ps wa=>by obtain⟨h',Iz,f1,f2,f3⟩:=aGj wa rm.Wo hx hk hV.in_ (by omega) hs;exact⟨h',n,m,Iz,f1,f2,f3⟩
   have e:b.GB l x={b with a:=b.a.Iu x L}:=by unfold BS.GB;rw[if_pos hk];unfold Ar.Iu;rw[hL]
   simp only[AB,r3.call];refine⟨_,rfl,rfl,G3,?_,?_⟩;·rw[e];exact w3
   .exact(x1.trans w1.CN).trans x3
 obtain⟨r,h',hr,rfl,G',w',x'⟩:=Ik.ret;exact⟨h',G',hr,w',x'⟩
end
section
variable{h h':Ad}{bi a:Nat}{o c t:Aa}{G G' F:Nat->Prop}{b b':BS}{x:Int}{m:Nat}
variable{nm:Ap}{av:Aa}{l:List AU}{r:List Aa}{sp p:Int}
theorem BQ.sub(rm:BQ b m)(ha:b'.a=b.a)(ho:b'.AO.Sublist b.AO)(hc:b'.A4.Sublist b.A4)(ht:b'.tm.length<=b.tm.length):BQ b' m:=
 ⟨by rw[ha];exact rm.n,by rw[ha];exact rm.at_,by rw[ha];exact rm.data,by have:=rm.AO;have:=ho.length_le;omega,by have:=rm.A4;have:=hc.length_le;omega,by have:=rm.tm;omega,λe he=>rm.Dk e (hc.subset he),λi hi=>rm.Wn i (ho.subset hi)⟩
theorem aGV{v:Aa}{l:List Int}(hv:Dg l v)(hb:l.length<=1000000000)(h:Ad):∃u,BI cx 62 [v] h u h/\Dg l u:=by
 have Du:AM 1 (l.map Cb) v:=hv;have hm:AS=140737488355328:=rfl;obtain⟨u,e,hu⟩:=AM.YI (l:=([]:List Int)) (f:=Cb) (v:= .sl 1 []) (b:=8) .mk Du (by simp;omega);rcases Du with rfl|⟨rfl,h0⟩
 .refine⟨u,?_,hu⟩;rw[Ab,jA,t62];simp only[AB,show Aw (.GV false .sl) [.sl 1 (l.map Cb),.slnil]=some (.bool false) from rfl,show Aw (.Bx 1) []=some (.sl 1 []) from rfl,e]
 .refine⟨.slnil,?_,.inr ⟨rfl,h0⟩⟩;rw[Ab,jA,t62];simp only[AB,show Aw (.GV false .sl) [.slnil,.slnil]=some (.bool true) from rfl]
theorem BX.jQ{u:Aa}{l:List Int}(w:BX h bi a o c t G b)(hu:Dg l u):BX (Am.put h bi 6 u) bi a o c u G {b with tm:=l}:=w.put rfl rfl w.o hu
theorem dI:Aw (.Bx 1) [S aSo]=some (.sl 1 ([A5].map CH)):=DE (ws:=[A5]) rfl (by decide)
theorem aLR(w:BX h bi a o c t G b)(hc:BO b.A4 c)(rm:BQ b m):
  ∃h' o' c' t',BI cx 79 [Pt bi 0] h (.tuple []) h'/\BX h' bi a o' c' t' G b.C5/\BO b.C5.A4 c'/\De h (own bi G) h' (own bi G):=by
 have ho:=rm.AO;have Ry:=rm.A4;have htm:=rm.tm;have r1:=aBZ w.sA (by omega) A5;by_cases Ff:AJ (Bp [A5]) b.AO<0;·refine⟨h,o,c,t,?_,by unfold BS.C5;rw[if_pos Ff];exact w,by unfold BS.C5;rw[if_pos Ff];exact hc,.refl⟩;rw[Ab,jC,t79];simp only[AB,Bi,(Ho w).call,r1.call,Ff]
 obtain⟨u1,r2,NG⟩:=f145 w.sO (by omega);have w1:=w.Ia NG;have l1:(Dr Cs CC b.AO).length<=b.AO.length:=OU;obtain⟨u2,r3,Il⟩:=f66 w1.sO (by simp only;omega) (CQ (ws:=[A5])) (by decide);have w2:=w1.Ia Il;obtain⟨fs,Gn,hcs⟩:=hc;have GG:fs.length=b.A4.length:=by rw[<-Gn,Ai]
 obtain⟨u3,r4,qp⟩:=f65 (show R5 _ bi 3 fs from⟨c,w2.pL,hcs⟩) (by omega);have w3:=w2.Kf (u:=u3) (l:=Fz b.A4);have L8:BO (Fz b.A4) u3:=⟨_,by rw[Ud,Gn],qp⟩;have lt:=AM.Cp w.t;have l6:=w3.l6;have e:b.C5=BS.HN {b with AO:=Dr CC (Bp [A5]) (Dr Cs CC b.AO),A4:=Fz b.A4,tm:=b.tm.dropLast}:=by unfold BS.C5;rw[if_neg Ff]
 have sO:(Dr CC (Bp [A5]) (Dr Cs CC b.AO)).Sublist b.AO:=(EF (p:=CC) (q:=Bp [A5]) (l:=Dr Cs CC b.AO)).trans EF;have x3:De h (own bi G) (put (put (put h bi 2 u1) bi 2 u2) bi 3 u3) (own bi G):=(Be.trans Be).trans Be;by_cases h0:b.tm=[]
 .have w3':BX (put (put (put h bi 2 u1) bi 2 u2) bi 3 u3) bi a u2 u3 t G {b with AO:=Dr CC (Bp [A5]) (Dr Cs CC b.AO),A4:=Fz b.A4,tm:=b.tm.dropLast}:=by
   have:b.tm.dropLast=b.tm:=by rw[h0];rfl
   rw[this];exact w3
  obtain⟨h4,r5,w4,x4⟩:=qo w3' (rm.sub (b':={b with AO:=Dr CC (Bp [A5]) (Dr Cs CC b.AO),A4:=Fz b.A4,tm:=b.tm.dropLast}) rfl sO (EV _ _) (by simp));refine⟨h4,u2,u3,t,?_,by rw[e];exact w4,by rw[e];exact L8,x3.trans x4⟩;have lt0:Aw (.len false) [t]=some (I 0):=by rw[lt,h0];rfl
  rw[Ab,jC,t79];simp only[AB,Bi,(Ho w).call,r1.call,Ff,r2.call,dI,r3.call,r4.call,l6,lt0,r5.call,IW]
 .have hpos:=FU.2 h0;obtain⟨u4,e4,hu4⟩:=AM.K8 w.t (k:= .i64) (n:=b.tm.length-1) (by omega);rw[<-List.dropLast_eq_take] at hu4;obtain⟨u5,r5,hu5⟩:=aGV hu4 (by simp;omega) (put (put (put h bi 2 u1) bi 2 u2) bi 3 u3);have w4:=w3.jQ hu5;obtain⟨h5,r6,w5,x5⟩:=qo w4 (rm.sub (b':={b with AO:=Dr CC (Bp [A5]) (Dr Cs CC b.AO),A4:=Fz b.A4,tm:=b.tm.dropLast}) rfl sO (EV _ _) (by simp));refine⟨h5,u2,u3,u5,?_,by rw[e];exact w5,by rw[e];exact L8,(x3.trans Be).trans x5⟩;rw[Ab,jC,t79];simp only[AB,Bi,(Ho w).call,r1.call,Ff,r2.call,dI,r3.call,r4.call,l6,lt,show(0:Int)<(b.tm.length:Int) by omega,Hl hpos (show b.tm.length<9223372036854775807 by omega),e4,r5.call,w3.st (k:=6) (v0:=t) rfl (AM.cells hu5),r6.call,IW]
theorem aLT(w:BX h bi a o c t G b):∃h',BI cx 80 [Pt bi 0] h (.tuple []) h'/\BX h' bi a o c t G {b with stop:=true}/\De h (own bi G) h' (own bi G):=by refine⟨_,?_,w.put (k:=19) (v:= .bool true) rfl rfl w.o w.t,Be⟩;rw[Ab,aAr,t80];simp only[AB,(Ho w).call,w.st (k:=19) (v:=tt) rfl rfl]
theorem aGZ(w:BX h bi a o c t G b)(rm:BQ b m):∃h' o',BI cx 38 [Pt bi 2] h (.agg b.iL.row) h'/\BX h' bi a o' c t G b.Qd/\De h (own bi G) h' (own bi G):=by
 have ho:=rm.AO;have ld:A6 h none (Pt bi 2)=some o:=w.ld 2;have lo:=AM.Cp w.o;unfold BS.Qd BS.iL;by_cases h2:b.AO.length<2;·refine⟨h,o,?_,by rw[if_pos h2];exact w,.refl⟩;rw[if_pos h2,Ab,YX,t38];simp only[AB,↓reduceIte,AK,Bi,(Sk w.sA).call,show(b.AO.length:Int)<2 by omega];rfl
 .obtain⟨u,e,hu⟩:=AM.K8 w.o (k:= .i64) (n:=b.AO.length-1) (by omega);refine⟨_,u,?_,by rw[if_neg h2];exact w.Ia hu,Be⟩;rw[if_neg h2,Ab,YX,t38];simp only[AB,↓reduceIte,AK,Bi,EB,(Sk w.sA).call,show¬(b.AO.length:Int)<2 by omega,(f39 w.sA (by omega)).call,ld,lo,Hl (show 0<b.AO.length by omega) (show b.AO.length<9223372036854775807 by omega),e,w.st (k:=2) (v0:=o) rfl (AM.cells hu)]
end
end Go.Am
end
