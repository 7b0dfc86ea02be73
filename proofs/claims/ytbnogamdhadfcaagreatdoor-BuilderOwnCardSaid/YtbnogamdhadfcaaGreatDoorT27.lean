/- Lemmas -/
import Derived.Test.YtbnogamdhadfcaaGreatDoorT26
set_option linter.unusedVariables false
set_option linter.unusedSimpArgs false
section
namespace Go.Am
open Go
set_option maxRecDepth 100000
section
variable{h h':Ag}{a n:Nat}{m:Option Nat}{ps:List PN}{A:Ar}{x:Int}{F:Nat->Prop}
theorem cS{p:PN}(w:PA h a n m ps A)(hx:A.has x){i:Nat}(hi:i∈Fq a n m (ps.set (x.toNat-1) p)):i∈Fq a n m ps\/GW p.kv=some i:=by
 obtain⟨e1,e2⟩:=VL w hx p;unfold Fq at hi⊢;rw[e2,Gs] at hi;simp only[AP,Ap,Cj] at hi⊢;rcases hi with h1|h1|h1|⟨q,h1,h2⟩|⟨q,h1,h2⟩
 .exact .inl (.inl h1)
 .exact .inl (.inr (.inl h1))
 .exact .inl (.inr (.inr (.inl h1)))
 .exact .inl (.inr (.inr (.inr ⟨q,Bj h1,h2⟩)))
 .rcases h1 with rfl|h1
  .exact .inr h2
  .exact .inl (.inr (.inr (.inr ⟨q,Bw h1,h2⟩)))
theorem ay{kv:Aa}{l:List Int}{k:Nat}(hk:Jk h kv l)(OE:k<=l.length)(hb:l.length<=1000000000)(y:Int):
  ∃h1,Ed .p9 h [kv,I (k:Int),.sl 1 [[I y]]]=some (h1,.Ck h.length 0 (l.length+1) 1)/\h1[h.length]?=some (.cells ((l.take k++y::l.drop k).map (Aa.int .i64)))/\(∀i,i<h.length->GW kv≠some i->h1[i]?=h[i]?)/\h1.length=h.length+1:=by
 rcases hk with⟨rfl,rfl⟩|⟨id,cs,rfl,hc⟩
 .have:k=0:=by simpa using OE
  subst this;exact⟨h++[.cells [I y]],rfl,by simp,λi hi _=>Ad hi,by simp⟩
 .have Ha:=(Ae.1 hc).1;refine⟨h.set id .CH++[.cells ((l.take k++y::l.drop k).map (Aa.int .i64))],?_,by rw[A5 (by simp)];simp,λi hi hn=>?_,by simp⟩
  .simp only[Ed,OB,hc];rw[if_pos (by have:AT=140737488355328:=rfl;simp;omega)];simp only[AS];have e1:(l.map (Aa.int .i64)++cs).take k=(l.take k).map (Aa.int .i64):=by rw[CV (by simpa using OE),HV]
   have e2:(l.map (Aa.int .i64)++cs).take l.length=l.map (Aa.int .i64):=KM (by simp);rw[e1,e2];simp
  .rw[Ad (by simpa using hi),Af];intro e;exact hn (by rw[e];rfl)
theorem M9{p b:Int}(hf:¬xQ A p x b):A.Fg p x b=A:=by unfold Ar.Fg;rw[if_neg hf]
theorem az{l:List Int}{b y:Int}{k:Nat}(hb:b=0->k=l.length)(h2:b≠0->l.takeWhile (λy=>decide (y≠b))=l.take k/\l.dropWhile (λy=>decide (y≠b))=l.drop k):Il l b y=l.take k++y::l.drop k:=by
 unfold Il;by_cases h0:b=0;·rw[if_pos h0,hb h0];simp
 .rw[if_neg h0,(h2 h0).1,(h2 h0).2]
open Classical in
set_option maxHeartbeats 1000000 in
theorem aGC{e p b:Int}(w:PA h a n m ps A)(lm:L3 A)(ok:Ew A e):
  ∃er h' IB,BI cx 115 [Pt a 0,I p,I x,I b] h (I er) h'/\PA h' a n m IB (A.Fg p x b)/\Dh h (λi=>i∈Fq a n m ps) h' (λi=>i∈Fq a n m IB):=by
 by_cases WR:A.has p/\A.has x;rotate_left;·refine⟨3,h,ps,?_,by rw[M9 (λf=>WR ⟨f.hp,f.hn⟩)];exact w,.refl⟩;rw[Ab,LI,YY];simp only[AA,Bi,E7,(Kz (x:=p) (y:=x) w).call,if_neg WR,ne_eq,show¬(3:Int)=0 by decide]
 obtain⟨hp,hx⟩:=WR;by_cases hb:b≠0/\¬A.has b;·refine⟨3,h,ps,?_,by rw[M9 (λf=>hb.2 (f.hb hb.1).1)];exact w,.refl⟩;rw[Ab,LI,YY];simp only[AA,Bi,E7,(Kz (x:=p) (y:=x) w).call,if_pos (And.intro hp hx),ne_eq,Cx,hb.1,(TB (x:=b) w).call,AB hb.2,AQ]
 have Pg:b=0\/(b≠0/\A.has b):=by
  by_cases h0:b=0;·exact .inl h0
  .refine .inr ⟨h0,?_⟩;by_cases h1:A.has b;·exact h1
   .exact absurd ⟨h0,h1⟩ hb
 by_cases kp:Ke (A.nd p).kind;rotate_left
 .refine⟨4,h,ps,?_,by rw[M9 (λf=>kp f.kp)];exact w,.refl⟩;unfold Ke at kp;have k1:¬(A.nd p).kind=1:=λe=>kp (.inl e);have k2:¬(A.nd p).kind=2:=λe=>kp (.inr (.inl e));have k4:¬(A.nd p).kind=4:=λe=>kp (.inr (.inr e));rw[Ab,LI,YY];rcases Pg with h0|⟨h0,MF⟩
  .simp only[AA,Bi,E7,(Kz (x:=p) (y:=x) w).call,if_pos (And.intro hp hx),ne_eq,Cx,(Ie w lm hp).call,(Ie w lm hx).call,w.f0 hp,w.f0 hx,k1,AQ,h0,k2,k4]
  .simp only[AA,Bi,E7,(Kz (x:=p) (y:=x) w).call,if_pos (And.intro hp hx),ne_eq,Cx,(Ie w lm hp).call,(Ie w lm hx).call,w.f0 hp,w.f0 hx,k1,AQ,h0,(TB (x:=b) w).call,AD MF,k2,k4]
 by_cases kn:(A.nd x).kind=1\/(A.nd x).kind=2
 .refine⟨4,h,ps,?_,by rw[M9 (λf=>by have:=f.kn;omega)];exact w,.refl⟩;rw[Ab,LI,YY];rcases kp with k1|k1|k1<;>rcases kn with k2|k2<;>rcases Pg with h0|⟨h0,MF⟩
  all_goals first|(simp only[AA,Bi,E7,(Kz (x:=p) (y:=x) w).call,if_pos (And.intro hp hx),ne_eq,Cx,(Ie w lm hp).call,(Ie w lm hx).call,w.f0 hp,w.f0 hx,k1,show¬(2:Int)=1 by decide,show¬(4:Int)=1 by decide,show¬(4:Int)=2 by decide,AQ,h0,k2];done)|simp only[AA,Bi,E7,(Kz (x:=p) (y:=x) w).call,if_pos (And.intro hp hx),ne_eq,Cx,(Ie w lm hp).call,(Ie w lm hx).call,w.f0 hp,w.f0 hx,k1,show¬(2:Int)=1 by decide,show¬(4:Int)=1 by decide,show¬(4:Int)=2 by decide,AQ,h0,(TB (x:=b) w).call,AD MF,k2]
 have kn1:¬(A.nd x).kind=1:=λe=>kn (.inl e);have wm:¬(A.nd x).kind=2:=λe=>kn (.inr e);have rc:=aGv w ok hx hp;by_cases re:Reach A x p
 .refine⟨4,h,ps,?_,by rw[M9 (λf=>f.re re)];exact w,.refl⟩;rw[AD re] at rc;rw[Ab,LI,YY];rcases kp with k1|k1|k1<;>rcases Pg with h0|⟨h0,MF⟩
  all_goals first|(simp only[AA,Bi,E7,(Kz (x:=p) (y:=x) w).call,if_pos (And.intro hp hx),ne_eq,Cx,(Ie w lm hp).call,(Ie w lm hx).call,w.f0 hp,w.f0 hx,k1,show¬(2:Int)=1 by decide,show¬(4:Int)=1 by decide,show¬(4:Int)=2 by decide,AQ,h0,kn1,wm,rc.call];done)|simp only[AA,Bi,E7,(Kz (x:=p) (y:=x) w).call,if_pos (And.intro hp hx),ne_eq,Cx,(Ie w lm hp).call,(Ie w lm hx).call,w.f0 hp,w.f0 hx,k1,show¬(2:Int)=1 by decide,show¬(4:Int)=1 by decide,show¬(4:Int)=2 by decide,AQ,h0,(TB (x:=b) w).call,AD MF,kn1,wm,rc.call]
 rw[AB re] at rc;by_cases nf:b≠0/\(b=x\/(A.nd b).Fa≠p)
 .refine⟨5,h,ps,?_,by rw[M9 (λf=>by have:=f.hb nf.1;rcases nf.2 with h|h;exact this.2.1 h;exact h this.2.2)];exact w,.refl⟩;obtain⟨h0,nf⟩:=nf;have MF:=(Pg.resolve_left h0).2;rw[Ab,LI,YY];by_cases hbx:b=x;·have aQz:=hbx;rcases kp with k1|k1|k1<;>simp only[AA,Bi,E7,(Kz (x:=p) (y:=x) w).call,if_pos (And.intro hp hx),ne_eq,Cx,(Ie w lm hp).call,(Ie w lm hx).call,w.f0 hp,w.f0 hx,k1,show¬(2:Int)=1 by decide,show¬(4:Int)=1 by decide,show¬(4:Int)=2 by decide,AQ,kn1,wm,rc.call,hbx,show¬x=0 from hbx▸h0,AD hx,(TB (x:=x) w).call]
  .have nf:=nf.resolve_left hbx;rcases kp with k1|k1|k1<;>simp only[AA,Bi,E7,(Kz (x:=p) (y:=x) w).call,if_pos (And.intro hp hx),ne_eq,Cx,(Ie w lm hp).call,(Ie w lm hx).call,w.f0 hp,w.f0 hx,k1,show¬(2:Int)=1 by decide,show¬(4:Int)=1 by decide,show¬(4:Int)=2 by decide,AQ,h0,(TB (x:=b) w).call,AD MF,kn1,wm,rc.call,hbx,(Ie w lm MF).call,w.f1 MF,nf]
 have fits:xQ A p x b:=⟨hp,hx,λh0=>⟨(Pg.resolve_left h0).2,λe=>nf ⟨h0,.inl e⟩,by
  by_cases h1:(A.nd b).Fa=p;·exact h1
  .exact absurd ⟨h0,.inr h1⟩ nf⟩,kp,⟨kn1,wm⟩,re⟩
 have hA:A.Fg p x b=(A.cut x).L1 p x b:=by unfold Ar.Fg;rw[if_pos fits]
 obtain⟨h1,ZK,r1,w1,x1⟩:=aGy w lm ok hx;have TD:=gW ok hx wm;have vy:=lm.cut (x:=x);have O8:(A.cut x).has p:=J1.2 hp;have NA:(A.cut x).has x:=J1.2 hx;have hxp:x≠p:=by rintro rfl;exact re .refl
 have qi:=vy.AZ TD p;obtain⟨k,OE,hki,fw⟩:∃k,k<=((A.cut x).nd p).AZ.length/\(b=0->k=((A.cut x).nd p).AZ.length)/\(b≠0->Ca (λy=>decide (b=y)) 0 ((A.cut x).nd p).AZ=(k:Int)/\((A.cut x).nd p).AZ.takeWhile (λy=>decide (y≠b))=((A.cut x).nd p).AZ.take k/\((A.cut x).nd p).AZ.dropWhile (λy=>decide (y≠b))=((A.cut x).nd p).AZ.drop k):=by
  by_cases h0:b=0;·exact⟨_,Ac _,λ_=>rfl,λh=>absurd h0 h⟩
  .have fb:=fits.hb h0;have a_:((A.cut x).nd b).Fa=p:=by
    rw[P9 ok hx,if_neg fb.2.1];split;·exact fb.2.2
    .exact fb.2.2
   have ql:b∈((A.cut x).nd p).AZ:=by have:=(TD.Fa b (J1.2 fb.1) (by rw[a_];have:=hp.1;omega)).2;rwa [a_] at this
   obtain⟨k,k1,k2,_,k4,k5⟩:=Zh ql;exact⟨k,by omega,λh=>absurd h h0,λ_=>⟨k2,k4,k5⟩⟩
 have PR:=az (y:=x) hki λh=>(fw h).2;have LD:=w1.LD O8;obtain⟨h2,ei,HZ,Wf,Xr⟩:=ay LD OE qi x;have hpp:=(w1.pn O8).2.1;obtain⟨q1,sM⟩:∃q1:PN,q1=⟨{(A.cut x).nd p with AZ:=Il ((A.cut x).nd p).AZ b x},.Ck h1.length 0 (((A.cut x).nd p).AZ.length+1) 1,(pN ZK p).av,w1.ag O8⟩:=⟨_,rfl⟩;have hq1x:q1.x={(A.cut x).nd p with AZ:=Il ((A.cut x).nd p).AZ b x}:=by rw[sM]
 have hrow:q1.row=(pN ZK p).row.set 2 (.Ck h1.length 0 (((A.cut x).nd p).AZ.length+1) 1):=by rw[sM];simp only[PN.row];rw[hpp];rfl
 have aGE:n∈Fq a n m ZK:=by simp[Fq]
 have gx:GW (pN ZK p).kv≠some n:=by intro e1;have:=w1.nd;unfold Fq at this;simp only[BY,AP,not_or] at this;exact this.2.1 (Ap.2 (.inr (Cj.2 ⟨_,(w1.pn O8).2.2,e1⟩)))
 have s2:=w1.sto O8 (k:=2) (by decide) (v:= .Ck h1.length 0 (((A.cut x).nd p).AZ.length+1) 1) rfl hrow (Wf n (w1.lt n aGE) gx);have hlen:(Il ((A.cut x).nd p).AZ b x).length=((A.cut x).nd p).AZ.length+1:=by rw[PR,Ao,Bf,Al,A8];omega
 have w2:=w1.tR O8 (p:=q1) (h1:=h2) (λi hi hn=>Wf i (w1.lt i hi) hn) (by rw[sM];refine .inr ⟨h1.length,[],by simp only[hlen],?_⟩;simp only[PR,Bv];exact HZ) (.inr λj hj=>by rw[sM] at hj;cases hj;exact Ac _)
 have Me:∀i,i∈Fq a n m (ZK.set (p.toNat-1) q1)->i∈Fq a n m ZK\/i=h1.length:=by
  intro i hi;rcases cS w1 O8 hi with h|h
  .exact .inl h
  .rw[sM] at h;cases h;exact .inr rfl
 generalize hh3:h2.set n (.cells ((ZK.set (p.toNat-1) q1).map PN.row).flatten)=h3 at s2 w2;generalize aQC:ZK.set (p.toNat-1) q1=i7 at w2 Me;rw[hq1x] at w2;have Yv:((A.cut x).set p {(A.cut x).nd p with AZ:=Il ((A.cut x).nd p).AZ b x}).has x:=HC.2 NA;have Rs:((A.cut x).set p {(A.cut x).nd p with AZ:=Il ((A.cut x).nd p).AZ b x}).nd x=(A.cut x).nd x:=by rw[IN,if_neg (λh=>hxp h.1)]
 have WR:=(w2.pn Yv).2.1;obtain⟨h4,s4,w4,i4,o4,l4⟩:=w2.wr Yv (k:=1) (by decide) (v:= I p) rfl (p:=⟨{(A.cut x).nd x with Fa:=p},(pN i7 x).kv,(pN i7 x).av,by have:=(pN i7 x).ok;rw[WR,Rs] at this;exact this⟩) (by simp only[PN.row];rw[WR,Rs];rfl) rfl (Cf Em.AZ Rs).symm;have aGF:(A.cut x).L1 p x b=((A.cut x).set p {(A.cut x).nd p with AZ:=Il ((A.cut x).nd p).AZ b x}).set x {(A.cut x).nd x with Fa:=p}:=by unfold Ar.L1;simp only;rw[Rs]
 refine⟨0,h4,_,?_,by rw[hA,aGF];exact w4,?_⟩
 .rw[Ab,LI,YY];by_cases h0:b=0;·rw[hki h0] at ei;have kl:=LD.len;rcases kp with k1|k1|k1<;>simp only[AA,Bi,E7,(Kz (x:=p) (y:=x) w).call,if_pos (And.intro hp hx),ne_eq,Cx,(Ie w lm hp).call,(Ie w lm hx).call,w.f0 hp,w.f0 hx,k1,show¬(2:Int)=1 by decide,show¬(4:Int)=1 by decide,show¬(4:Int)=2 by decide,AQ,h0,kn1,wm,rc.call,r1.call,w1.f2 O8,kl,GG,ei,s2,s4]
  .have fb:=fits.hb h0;have MF:=fb.1;have ri:=aBV LD.Rc qi b;rw[(fw h0).1] at ri;have kl:=LD.len;rcases kp with k1|k1|k1<;>simp only[AA,Bi,E7,(Kz (x:=p) (y:=x) w).call,if_pos (And.intro hp hx),ne_eq,Cx,(Ie w lm hp).call,(Ie w lm hx).call,w.f0 hp,w.f0 hx,k1,show¬(2:Int)=1 by decide,show¬(4:Int)=1 by decide,show¬(4:Int)=2 by decide,AQ,h0,(TB (x:=b) w).call,AD MF,kn1,wm,rc.call,fb.2.1,(Ie w lm MF).call,w.f1 MF,fb.2.2,r1.call,w1.f2 O8,kl,ri.call,GG,ei,s2,s4]
 .have ZH:h3.length=h1.length+1:=by rw[<-hh3,Be,Xr]
  have xx:Dh h1 (λi=>i∈Fq a n m ZK) h4 (λi=>i∈Fq a n m (i7.set (x.toNat-1) ⟨{(A.cut x).nd x with Fa:=p},(pN i7 x).kv,(pN i7 x).av,by have:=(pN i7 x).ok;rw[WR,Rs] at this;exact this⟩)):=by
   refine⟨by omega,λi hi hin=>?_,λi hi=>?_⟩;·have n1:i≠n:=λe1=>hin (e1▸aGE);rw[o4 i n1,<-hh3,Af (DS n1)];exact Wf i hi λe1=>hin (Kh (w1.pn O8).2.2 e1)
   .rw[i4] at hi;rcases Me i hi with h|h
    .exact .inl h
    .exact .inr (by omega)
  exact x1.trans xx
end
def HS(a:Nat)(b:BS)(o c t:Aa):List Aa:=[Pt a 0,I b.Cz,o,c,I b.mode,I b.R6,t,I b.head,I b.Mr,.bool b.KL,I b.ctx.node,I b.ctx.A0,.str b.ctx.name,.bool b.ctx.Nt,.bool b.fs,.bool b.Eb,.str b.YP,.bool b.skip,I b.sw,.bool b.stop]
structure BX(h:Ag)(bi a:Nat)(o c t:Aa)(G:Nat->Prop)(b:BS):Prop where
 hb:h[bi]?=some (.cells (HS a b o c t))
 o:BM b.AR o
 t:Df b.tm t
 w:PW h G a b.a
 nb:¬G bi
section
variable{h:Ag}{bi a:Nat}{o c t:Aa}{G F:Nat->Prop}{b:BS}{x:Int}{m:Nat}
theorem BX.lt(w:BX h bi a o c t G b):bi<h.length:=(Ae.1 w.hb).1
theorem BX.Cv{h':Ag}(w:BX h bi a o c t G b)(hf:∀i,i=bi\/G i->h'[i]?=h[i]?):BX h' bi a o c t G b:=
 ⟨by rw[hf bi (.inl rfl)];exact w.hb,w.o,w.t,w.w.Cv λi hi=>hf i (.inr hi),w.nb⟩
theorem BX.HB(w:BX h bi a o c t G b){u:Ag}:BX (h++u) bi a o c t G b:=w.Cv λi hi=>Ad (by rcases hi with rfl|hi;exact w.lt;exact w.w.lt hi)
theorem BX.ld(w:BX h bi a o c t G b)(k:Nat):A9 h none (Pt bi k)=(HS a b o c t)[k]?:=by simp only[A9,w.hb,Dz]
theorem BX.l0(w:BX h bi a o c t G b):A9 h none (Pt bi 0)=some (Pt a 0):=w.ld 0
theorem BX.l1(w:BX h bi a o c t G b):A9 h none (Pt bi 1)=some (I b.Cz):=w.ld 1
theorem BX.l4(w:BX h bi a o c t G b):A9 h none (Pt bi 4)=some (I b.mode):=w.ld 4
theorem BX.l7(w:BX h bi a o c t G b):A9 h none (Pt bi 7)=some (I b.head):=w.ld 7
theorem BX.l9(w:BX h bi a o c t G b):A9 h none (Pt bi 9)=some (.bool b.KL):=w.ld 9
theorem BX.du(w:BX h bi a o c t G b):A9 h none (Pt bi 15)=some (.bool b.Eb):=w.ld 15
theorem BX.l3(w:BX h bi a o c t G b):A9 h none (Pt bi 3)=some c:=w.ld 3
theorem BX.l6(w:BX h bi a o c t G b):A9 h none (Pt bi 6)=some t:=w.ld 6
theorem BX.atO(w:BX h bi a o c t G b):At h bi 2 o:=⟨_,w.hb,rfl⟩
theorem BX.pC(w:BX h bi a o c t G b):At h bi 3 c:=⟨_,w.hb,rfl⟩
theorem BX.sO(w:BX h bi a o c t G b):KJ h bi 2 b.AR:=⟨o,w.atO,w.o⟩
theorem BX.sA(w:BX h bi a o c t G b):tY h (Pt bi 2) b.AR:=w.sO.at
theorem Hs(w:BX h bi a o c t G b):BI cx 52 [Pt bi 0] h (.bool true) h:=by rw[Ab,yS,t52];simp only[AA,Bi,w.l0]
theorem PW.pa{A:Ar}(w:PW h G a A):∃n m ps,PA h a n m ps A:=let⟨n,m,ps,w,_⟩:=w;⟨n,m,ps,w⟩
theorem TE(w:BX h bi a o c t G b)(ok:DG b)(rm:BR b m)(x:Int):∃K V u,BI cx 86 [Pt bi 0,I x] h (.agg [I (b.a.nd x).kind,I (b.a.nd x).Fa,K,I (b.a.nd x).Cz,I (b.a.nd x).A0,.str (b.a.nd x).name,V,.str (b.a.nd x).data,.str (b.a.nd x).pub,.str (b.a.nd x).sys,.bool (b.a.nd x).Cr,I (b.a.nd x).cont,I (b.a.nd x).DW]) (h++u)/\Df (b.a.nd x).AZ K/\If (h++u) V (b.a.nd x).Ay/\Up h.length V:=by obtain⟨n,m',ps,wa⟩:=w.w.pa;obtain⟨r,u,r1,K,V,rfl,hK,hV⟩:=aGj (x:=x) wa rm.Wm (rm.Wm.AZ ok.ok x);refine⟨K,V,u,?_,hK,hV⟩;rw[Ab,zB,t86];simp only[AA,Bi,w.l0,r1.call]
theorem aGG(w:BX h bi a o c t G b)(rm:BR b m):BI cx 32 [Pt bi 0] h (.agg (EW b.AR).row) h:=by have:=rm.AR;rw[Ab,yL,t32];simp only[AA,Bi,EC,(Hs w).call,(f39 w.sA (by omega)).call]
theorem aGH(w:BX h bi a o c t G b)(ok:DG b)(rm:BR b m):BI cx 170 [Pt bi 0] h (.tuple [I b.I7.1,I b.I7.2]) h:=by
 have hl:=rm.AR;obtain⟨n,m',ps,wa⟩:=w.w.pa;have r1:=aBQ w.sA (show b.AR.length<=1000000000 by omega) Ex;have r2:=aBQ w.sA (show b.AR.length<=1000000000 by omega) A6;have b1:=JN (q:=Bq [Ex]) (l:=b.AR);have b2:=JN (q:=Bq [A6]) (l:=b.AR);unfold BS.I7;simp only
 generalize AL (Bq [Ex]) b.AR=tb at r1 b1⊢;generalize AL (Bq [A6]) b.AR=tp at r2 b2⊢;rw[Ab,nA,aAZ];simp only[AA,r1.call,r2.call];refine⟨λh1=>?_,λh1=>⟨λh2=>?_,λh2=>?_⟩⟩;·rw[if_pos h1];simp only[AA,EC,(VH w.sA tp).call]
 .rw[if_neg h1,if_pos h2];simp only[AA,EC,(VH w.sA 0).call]
 .rw[if_neg h1,if_neg h2];simp only[AA,Bi,EC,(VH w.sA tb).call,w.l0,(aGk (x:=(GB b.AR tb).node) wa rm.Wm).call];refine⟨λh3=>?_,λh3=>?_⟩;·rw[if_pos h3]
  .rw[if_neg h3];have e1:(if tb-1<0 then 0 else tb-1)=max (tb-1) 0:=by omega
   simp only[AA,EC,CK (show -9223372036854775808<=tb-1 by omega) (show tb-1<9223372036854775808 by omega),YB,e1,(VH w.sA (max (tb-1) 0)).call]
theorem XN:Aw (.By 1) [S Ex,S R7,S Sa,S Sb,S wTr]=some (.sl 1 (GU.map CI)):=DE (ws:=GU) rfl (by decide)
theorem jD{v:Aa}{ws:List As}(hv:IK ws v)(hn:ws.length<=1000000000)(a:Item)(h:Ag):BI cx 50 [.agg a.row,v] h (.bool (Bq ws a)) h:=by rw[Ab,yQ,t50];simp only[AA,EC,(aF0 hv hn _ h).call,Bq];refine⟨λh1=>by simp[h1],λh1=>by simp[h1]⟩
theorem ba{A:Ar}{x:Int}(hk:(A.nd x).kind=4)(ws:List As):Bq ws ⟨0,(A.nd x).A0,(A.nd x).name,false⟩=decide (Q3 ws A x):=by
 by_cases h:Q3 ws A x;·rw[AD h];unfold Bq;rw[AD];exact⟨h.2.1,h.2.2⟩
 .rw[AB h];unfold Bq;rw[AB];exact λh2=>h ⟨hk,h2.1,h2.2⟩
theorem qp(w:BX h bi a o c t G b)(ok:DG b)(rm:BR b m)(x:Int):∃u,BI cx 85 [Pt bi 0,I x] h (.tuple [I (b.place x).1,I (b.place x).2]) (h++u):=by
 have hl:=rm.AR;by_cases hA:x=0/\b.AR=[]
 .refine⟨[],?_⟩;have e1:b.place x=(b.Cz,0):=by unfold BS.place;rw[if_pos hA]
  rw[e1,Bv,Ab,iU,t85];simp only[AA,Bi,(Hs w).call,hA.1,hA.2,Cx,(Tx w.sA).call,Int.natCast_zero,w.l1]
 .obtain⟨t',ht⟩:∃t',t'=if x=0 then(EW b.AR).node else x:=⟨_,rfl⟩
  obtain⟨K1,V1,u1,r1,_,_⟩:=TE w ok rm t';have w1:=w.HB (u:=u1);have e1:b.place x=if(b.a.nd (if b.Eb=true/\Q3 GU b.a t' then b.I7 else(t',0)).1).cont≠0 then((b.a.nd (if b.Eb=true/\Q3 GU b.a t' then b.I7 else(t',0)).1).cont,0) else if b.Eb=true/\Q3 GU b.a t' then b.I7 else(t',0):=by unfold BS.place;rw[if_neg hA,<-ht]
  obtain⟨pb,XH⟩:∃pb,pb=if b.Eb=true/\Q3 GU b.a t' then b.I7 else(t',0):=⟨_,rfl⟩
  rw[<-XH] at e1;obtain⟨K2,V2,u2,r2,_,_⟩:=TE w1 ok rm pb.1;have rf:=aGH w1 ok rm;have ri:=jD (ws:=GU) CS (by decide) ⟨0,(b.a.nd t').A0,(b.a.nd t').name,false⟩ (h++u1);have em:∀s n,Aw (.Bs [I 0,I 0,S [],ff] [(1,1),(2,1)]) [I s,.str n]=some (.agg (Item.row ⟨0,s,n,false⟩)):=λ_ _=>rfl;refine⟨u1++u2,?_⟩;rw[<-Ax];have last:∀(y:Int×Int),y=pb->W cx (.call 86 [Pt bi 0,I y.1] λv27=> .cells 13 v27 λc28=> .op (.int .neq) [g c28 11,I 0] λv29=> .AJ v29 (.ret .ret [.tuple [g c28 11,I 0]]) (.ret .ret [.tuple [I y.1,I y.2]])) (λx_1 vs h1=>x_1=EN.ret/\vs=[.tuple [I (b.place x).1,I (b.place x).2]]/\h1=h++u1++u2) (h++u1):=by
   rintro _ rfl;rw[e1];simp only[AA,r2.call];refine⟨λh1=>?_,λh1=>?_⟩;·rw[if_pos h1]
   .rw[if_neg h1]
  rw[Ab,iU,t85];have du:=w1.du;have mid:W cx (.call 86 [Pt bi 0,I t'] λv13=> .cells 13 v13 λc14=> .Di 200009 (.op .KV [Pt bi 0] λv15=> .op (.Ec 15) [v15] λv16=> .load none v16 λv17=> .AJ v17 (.op (.int .eql) [g c14 0,I 4] λv18=> .AJ v18 (.op (.Bs [I 0,I 0,S [],ff] [(1,1),(2,1)]) [g c14 4,g c14 5] λv19=> .op (.By 1) [S aSI,S aS7,S aS6,S aS8,S [116,114]] λv20=> .call 50 [v19,v20] λv21=> .ret .normal [v21]) (.ret .normal [ff])) (.ret .normal [ff])) (λx c22=>match x with
    | .normal=> .Di 100046 (.AJ (g c22 0) (.call 170 [Pt bi 0] λv23=> .op (.ext 0) [v23] λv24=> .op (.ext 1) [v23] λv25=> .ret .normal [v24,v25]) (.ret .normal [I t',I 0])) (λx c26=>match x with
     | .normal=> .call 86 [Pt bi 0,g c26 0] λv27=> .cells 13 v27 λc28=> .op (.int .neq) [g c28 11,I 0] λv29=> .AJ v29 (.ret .ret [.tuple [g c28 11,I 0]]) (.ret .ret [.tuple [g c26 0,g c26 1]])
     | .exit i=> .fail
     | .ret=> .ret .ret [.tuple [g c26 0,g c26 1]])
    | .exit i=> .fail
    | .ret=> .ret .ret [.tuple [I t',I 0]])) (λx_1 vs h1=>x_1=EN.ret/\vs=[.tuple [I (b.place x).1,I (b.place x).2]]/\h1=h++u1++u2) h:=by
   rw[r1.call];by_cases hf:b.Eb=true
   .rw[hf] at du;by_cases k4:(b.a.nd t').kind=4
    .rw[ba k4] at ri;by_cases hw:Q3 GU b.a t';·rw[AD hw] at ri;rw[if_pos ⟨hf,hw⟩] at XH;have:=last b.I7 XH.symm;simp only[AA,Bi,du,k4,em,XN,ri.call,rf.call];simpa only[AA,Bi,Bf,BU] using this
     .rw[AB hw] at ri;rw[if_neg (λh=>hw h.2)] at XH;have:=last (t',0) XH.symm;simp only[AA,Bi,du,k4,em,XN,ri.call];simpa only[AA,Bi,Bf,BU] using this
    .rw[if_neg (λh=>k4 h.2.1)] at XH;have:=last (t',0) XH.symm;simp only[AA,Bi,du,k4];simpa only[AA,Bi,Bf,BU] using this
   .rw[if_neg (λh=>hf h.1)] at XH;have:=last (t',0) XH.symm;rw[show b.Eb=false by simpa using hf] at du;simp only[AA,du];simpa only[AA,Bi,Bf,BU] using this
  by_cases h0:x=0
  .have hne:b.AR≠[]:=λe=>hA ⟨h0,e⟩;have hl0:¬((b.AR.length:Nat):Int)=0:=by have:=FW.2 hne;omega
   rw[if_pos h0] at ht;rw[ht] at mid;simp only[AA,Bi,(Hs w).call];rw[h0] at mid⊢;simp only[AA,Bi,EC,(Tx w.sA).call,hl0,(aGG w rm).call] at mid⊢;exact mid
  .rw[if_neg h0] at ht;rw[ht] at mid;simp only[AA,Bi,(Hs w).call,h0,Fi] at mid⊢;exact mid
end
section
theorem sN{Q:Post}{h:Ag}{k:Aa->IT}:W cx (.O4 k) Q h↔W cx (k (.map (some h.length))) Q (h++[.map (ft 0)]):=MZ
section
variable{v:Aa}{l:List AU}{h:Ag}
set_option maxHeartbeats 1000000 in
theorem aLw(hv:Bz l v)(hb:l.length<=1000)(sp:Int):∃u,BI cx 108 [I sp,v] h u (h++[.map (ft 11)])/\Bz (l.map (CO sp)) u:=by
 have Du:AM 3 (l.map AU.row) v:=hv;have H5:Ev cx 108 [I sp,v] h λr h'=>h'=h++[.map (ft 11)]/\Bz (l.map (CO sp)) r:=by
  unfold Ev;rw[l8,aAx];rw[sN];simp only[AA,Nat.reduceLeDiff,↓reduceIte,AK,B9,gQ,aEl,aEm,aEn,aEo,aEp,aEq,aEr,aEs,aEt,aEu,K_,Du.Cp];refine Bd (λp:Nat×Aa=>[p.2,I (p.1:Int)]) (λp h1=>p.1<=l.length/\Bz ((l.take p.1).map (CO sp)) p.2/\h1=h++[.map (ft 11)]) (λp=>l.length-p.1) (0,.slnil) rfl ⟨AO _,.nil,rfl⟩ ?_;rintro⟨n,u⟩ h1 ⟨hn,hu,rfl⟩;simp only at hn hu;rcases AN n l.length with hlt|DT
  .have i1:(n:Int)<(l.length:Int):=by omega
   have GP:∀{q:List Aa},q=(CO sp l[n]).row->∃w,Aw (.append 3 40) [u,.sl 3 [q]]=some w/\Bz ((l.take (n+1)).map (CO sp)) w:=by
    rintro _ rfl;refine⟨_,AM.Jg (f:=AU.row) (a:=CO sp l[n]) (b:=40) hu ?_,?_⟩;·simp[AT];omega
    .rw[Av hlt,BE];exact .mk
   have inc:=BB (show n<9223372036854775807 by omega);by_cases s2:sp=2
   .subst s2;cases ef:DF (Cb l[n].name Hi) with
    |some x=>obtain⟨w,e3,hw⟩:=GP (q:=[I x.1,.str x.2,.str l[n].value]) (by simp only[CO,Jh,true_or,BO,ef,AU.row]);simp only[AA,Nat.reduceLeDiff,↓reduceIte,AK,i1,Du.BA hlt,B9,AU.row,(aFX _).Bk rfl rfl,Aq,Ak,Aj,Lf,ef,DQ,e3,inc];exact AF.next (n+1,w) rfl ⟨hlt,hw,rfl⟩ (by simp only;omega)
    |none=>obtain⟨w,e3,hw⟩:=GP (q:=[I 0,.str (Cb l[n].name Hi),.str l[n].value]) (by simp only[CO,Jh,true_or,BO,ef,AU.row]);simp only[AA,Nat.reduceLeDiff,↓reduceIte,AK,i1,Du.BA hlt,B9,AU.row,(aFX _).Bk rfl rfl,Aq,Ak,Aj,Lf,ef,DQ,e3,inc];exact AF.next (n+1,w) rfl ⟨hlt,hw,rfl⟩ (by simp only;omega)
   by_cases s3:sp=3
   .subst s3;by_cases hd:l[n].name=L_
    .have ef:DF Tt=none:=by decide
     obtain⟨w,e3,hw⟩:=GP (q:=[I 0,.str Tt,.str l[n].value]) (by simp only[CO,Jh,hd,or_true,BO,Ef,ef,AU.row,and_self,s2]);simp only[AA,Nat.reduceLeDiff,↓reduceIte,AK,i1,Du.BA hlt,B9,AU.row,hd,show¬(3:Int)=2 by decide,Aq,An,Ak,Aj,Lf,ef,DQ,e3,inc];exact AF.next (n+1,w) rfl ⟨hlt,hw,rfl⟩ (by simp only;omega)
    .cases ef:DF l[n].name with
     |some x=>obtain⟨w,e3,hw⟩:=GP (q:=[I x.1,.str x.2,.str l[n].value]) (by simp only[CO,Jh,hd,or_true,BO,Ef,ef,AU.row,and_false,s2]);simp only[AA,Nat.reduceLeDiff,↓reduceIte,AK,i1,Du.BA hlt,B9,AU.row,hd,show¬(3:Int)=2 by decide,Aq,An,Ak,Aj,Lf,ef,DQ,e3,inc];exact AF.next (n+1,w) rfl ⟨hlt,hw,rfl⟩ (by simp only;omega)
     |none=>obtain⟨w,e3,hw⟩:=GP (q:=[I 0,.str l[n].name,.str l[n].value]) (by simp only[CO,Jh,hd,or_true,BO,Ef,ef,AU.row,and_false,s2]);simp only[AA,Nat.reduceLeDiff,↓reduceIte,AK,i1,Du.BA hlt,B9,AU.row,hd,show¬(3:Int)=2 by decide,Aq,An,Ak,Aj,Lf,ef,DQ,e3,inc];exact AF.next (n+1,w) rfl ⟨hlt,hw,rfl⟩ (by simp only;omega)
   .obtain⟨w,e3,hw⟩:=GP (q:=[I 0,.str l[n].name,.str l[n].value]) (by simp only[CO,s2,s3,or_self,Ef,AU.row]);cases ef:DF l[n].name with
    |some x=>simp only[AA,Nat.reduceLeDiff,↓reduceIte,AK,i1,Du.BA hlt,B9,AU.row,s2,s3,Aq,An,Ak,Aj,Lf,ef,DQ,e3,inc];exact AF.next (n+1,w) rfl ⟨hlt,hw,rfl⟩ (by simp only;omega)
    |none=>simp only[AA,Nat.reduceLeDiff,↓reduceIte,AK,i1,Du.BA hlt,B9,AU.row,s2,s3,Aq,An,Ak,Aj,Lf,ef,DQ,e3,inc];exact AF.next (n+1,w) rfl ⟨hlt,hw,rfl⟩ (by simp only;omega)
  .have i1:¬(n:Int)<(l.length:Int):=by omega
   rw[Az DT] at hu;simp only[AA,Nat.reduceLeDiff,↓reduceIte,AK,i1,An,Ak,Aj];exact⟨_,rfl,hu⟩
 obtain⟨r,h',hr,rfl,hu⟩:=H5.ret;exact⟨r,hr,hu⟩
theorem TF{Q:Post}{s:As}{k:Aa->IT}:W cx (.Bk 284 [.str aSx,.str s] k) Q h↔W cx (k (.str (Cb s Hi))) Q h:=by have e:=(aFW Mm s (by decide+kernel)).Bk (Q:=Q) (h:=h) (k:=k) rfl rfl;rw[U9] at e;exact e
theorem Sg{Q:Post}{s:As}{k:Aa->IT}(hs:s.length<9223372036854775807):W cx (.Bk 188 [.str aSB,.str s] k) Q h↔W cx (k (.bool (decide (s∈KK)))) Q h:=by rw[Iz (by decide) hs,ja]
set_option maxHeartbeats 1000000 in
theorem f180(hv:Bz l v)(hs:∀a∈l,a.name.length<=1000)(hb:l.length<=1000)(sp:Int):∃u,BI cx 226 [I sp,v] h u h/\Bz (l.map (CO sp)) u:=by
 have Du:AM 3 (l.map AU.row) v:=hv;have H5:Ev cx 226 [I sp,v] h λr h'=>h'=h/\Bz (l.map (CO sp)) r:=by
  unfold Ev;rw[np,aFl];refine Bd (λp:Nat×Aa=>[p.2,I (p.1:Int)]) (λp h1=>p.1<=l.length/\Bz ((l.take p.1).map (CO sp)) p.2/\h1=h) (λp=>l.length-p.1) (0,.slnil) rfl ⟨AO _,.nil,rfl⟩ ?_;rintro⟨n,u⟩ h1 ⟨hn,hu,rfl⟩;simp only at hn hu;rcases AN n l.length with hlt|DT
  .have i1:(n:Int)<(l.length:Int):=by omega
   have GP:∀{q:List Aa},q=(CO sp l[n]).row->∃w,Aw (.append 3 40) [u,.sl 3 [q]]=some w/\Bz ((l.take (n+1)).map (CO sp)) w:=by
    rintro _ rfl;refine⟨_,AM.Jg (f:=AU.row) (a:=CO sp l[n]) (b:=40) hu ?_,?_⟩;·simp[AT];omega
    .rw[Av hlt,BE];exact .mk
   have inc:=BB (show n<9223372036854775807 by omega);have Nx:=hs _ (AI hlt);have aBZ:∀nm,(sp=2\/sp=3)->Jh sp l[n].name=nm->CO sp l[n]=match DF nm with
     |some (s,m)=>⟨s,m,l[n].value⟩
     |none=>⟨0,nm,l[n].value⟩:=by
    rintro _ hsp rfl;rw[CO,if_pos hsp];rfl
   by_cases s2:sp=2
   .subst s2;have hnm:=aBZ (Cb l[n].name Hi) (.inl rfl) rfl;have ZL:(Cb l[n].name Hi).length<9223372036854775807:=by rw[QW];omega
    generalize hg:Cb l[n].name Hi=nm at hnm ZL;rcases Px nm with⟨c1,c6,ef⟩|⟨c1,⟨c2,c6,ef⟩|⟨c2,⟨c3,c6,ef⟩|⟨c3,⟨c4,ef⟩|⟨c4,⟨c5,ef⟩|⟨c5,ef⟩⟩⟩⟩⟩
    .obtain⟨w,e3,hw⟩:=GP (q:=[I 4,.str (nm.drop 6),.str l[n].value]) (by rw[hnm];simp only[ef,AU.row]);simp only[AA,Nat.reduceLeDiff,↓reduceIte,AK,Du.Cp,i1,Du.BA hlt,B9,AU.row,hg,TF,show¬(2:Int)=3 by decide,Aq,An,Ak,Aj,Sg ZL,c1,sl6 c6,DQ,e3,inc];exact AF.next (n+1,w) rfl ⟨hlt,hw,rfl⟩ (by simp only;omega)
    .obtain⟨w,e3,hw⟩:=GP (q:=[I 5,.str (nm.drop 4),.str l[n].value]) (by rw[hnm];simp only[ef,AU.row]);simp only[AA,Nat.reduceLeDiff,↓reduceIte,AK,Du.Cp,i1,Du.BA hlt,B9,AU.row,hg,TF,show¬(2:Int)=3 by decide,Aq,An,Ak,Aj,Sg ZL,c1,AW c2,sl4 c6,DQ,e3,inc];exact AF.next (n+1,w) rfl ⟨hlt,hw,rfl⟩ (by simp only;omega)
    .obtain⟨w,e3,hw⟩:=GP (q:=[I 5,.str (nm.drop 4),.str l[n].value]) (by rw[hnm];simp only[ef,AU.row]);simp only[AA,Nat.reduceLeDiff,↓reduceIte,AK,Du.Cp,i1,Du.BA hlt,B9,AU.row,hg,TF,show¬(2:Int)=3 by decide,Aq,An,Ak,Aj,Sg ZL,c1,c2,AW c3,sl4 c6,DQ,e3,inc];exact AF.next (n+1,w) rfl ⟨hlt,hw,rfl⟩ (by simp only;omega)
    .obtain⟨w,e3,hw⟩:=GP (q:=[I 6,.str nm,.str l[n].value]) (by rw[hnm];simp only[ef,AU.row]);simp only[AA,Nat.reduceLeDiff,↓reduceIte,AK,Du.Cp,i1,Du.BA hlt,B9,AU.row,hg,TF,show¬(2:Int)=3 by decide,Aq,An,Ak,Aj,Sg ZL,c1,c2,c3,AW c4,DQ,e3,inc];exact AF.next (n+1,w) rfl ⟨hlt,hw,rfl⟩ (by simp only;omega)
    .obtain⟨w,e3,hw⟩:=GP (q:=[I 6,.str gR,.str l[n].value]) (by rw[hnm];simp only[ef,AU.row]);simp only[AA,Nat.reduceLeDiff,↓reduceIte,AK,Du.Cp,i1,Du.BA hlt,B9,AU.row,hg,TF,show¬(2:Int)=3 by decide,Aq,An,Ak,Aj,Sg ZL,c1,c2,c3,c4,AW c5,DQ,e3,inc];exact AF.next (n+1,w) rfl ⟨hlt,hw,rfl⟩ (by simp only;omega)
    .obtain⟨w,e3,hw⟩:=GP (q:=[I 0,.str nm,.str l[n].value]) (by rw[hnm];simp only[ef,AU.row]);simp only[AA,Nat.reduceLeDiff,↓reduceIte,AK,Du.Cp,i1,Du.BA hlt,B9,AU.row,hg,TF,show¬(2:Int)=3 by decide,Aq,An,Ak,Aj,Sg ZL,c1,c2,c3,c4,c5,DQ,e3,inc];exact AF.next (n+1,w) rfl ⟨hlt,hw,rfl⟩ (by simp only;omega)
   by_cases s3:sp=3
   .subst s3;by_cases hd:l[n].name=L_
    .have hnm:=aBZ Tt (.inr rfl) (by rw[Jh,if_neg (by decide),if_pos ⟨rfl,hd⟩]);rw[show DF Tt=none by decide] at hnm;obtain⟨w,e3,hw⟩:=GP (q:=[I 0,.str Tt,.str l[n].value]) (by rw[hnm];rfl);have ZL:Tt.length<9223372036854775807:=by decide
     simp only[AA,Nat.reduceLeDiff,↓reduceIte,AK,Du.Cp,i1,Du.BA hlt,B9,AU.row,hd,show¬(3:Int)=2 by decide,Aq,An,Ak,Aj,Sg ZL,show Tt∉KK by decide,show¬Tt=bR by decide,show¬Tt=Vg by decide,show¬Tt=bS by decide,show¬Tt=Vh by decide,DQ,e3,inc];exact AF.next (n+1,w) rfl ⟨hlt,hw,rfl⟩ (by simp only;omega)
    have hnm:=aBZ l[n].name (.inr rfl) (by rw[Jh,if_neg (by decide),if_neg (λh=>hd h.2)]);have ZL:l[n].name.length<9223372036854775807:=by omega
    rcases Px l[n].name with⟨c1,c6,ef⟩|⟨c1,⟨c2,c6,ef⟩|⟨c2,⟨c3,c6,ef⟩|⟨c3,⟨c4,ef⟩|⟨c4,⟨c5,ef⟩|⟨c5,ef⟩⟩⟩⟩⟩
    .obtain⟨w,e3,hw⟩:=GP (q:=[I 4,.str (l[n].name.drop 6),.str l[n].value]) (by rw[hnm];simp only[ef,AU.row]);simp only[AA,Nat.reduceLeDiff,↓reduceIte,AK,Du.Cp,i1,Du.BA hlt,B9,AU.row,hd,TF,show¬(3:Int)=2 by decide,Aq,An,Ak,Aj,Sg ZL,c1,sl6 c6,DQ,e3,inc];exact AF.next (n+1,w) rfl ⟨hlt,hw,rfl⟩ (by simp only;omega)
    .obtain⟨w,e3,hw⟩:=GP (q:=[I 5,.str (l[n].name.drop 4),.str l[n].value]) (by rw[hnm];simp only[ef,AU.row]);simp only[AA,Nat.reduceLeDiff,↓reduceIte,AK,Du.Cp,i1,Du.BA hlt,B9,AU.row,hd,TF,show¬(3:Int)=2 by decide,Aq,An,Ak,Aj,Sg ZL,c1,AW c2,sl4 c6,DQ,e3,inc];exact AF.next (n+1,w) rfl ⟨hlt,hw,rfl⟩ (by simp only;omega)
    .obtain⟨w,e3,hw⟩:=GP (q:=[I 5,.str (l[n].name.drop 4),.str l[n].value]) (by rw[hnm];simp only[ef,AU.row]);simp only[AA,Nat.reduceLeDiff,↓reduceIte,AK,Du.Cp,i1,Du.BA hlt,B9,AU.row,hd,TF,show¬(3:Int)=2 by decide,Aq,An,Ak,Aj,Sg ZL,c1,c2,AW c3,sl4 c6,DQ,e3,inc];exact AF.next (n+1,w) rfl ⟨hlt,hw,rfl⟩ (by simp only;omega)
    .obtain⟨w,e3,hw⟩:=GP (q:=[I 6,.str l[n].name,.str l[n].value]) (by rw[hnm];simp only[ef,AU.row]);simp only[AA,Nat.reduceLeDiff,↓reduceIte,AK,Du.Cp,i1,Du.BA hlt,B9,AU.row,hd,TF,show¬(3:Int)=2 by decide,Aq,An,Ak,Aj,Sg ZL,c1,c2,c3,AW c4,DQ,e3,inc];exact AF.next (n+1,w) rfl ⟨hlt,hw,rfl⟩ (by simp only;omega)
    .obtain⟨w,e3,hw⟩:=GP (q:=[I 6,.str gR,.str l[n].value]) (by rw[hnm];simp only[ef,AU.row]);simp only[AA,Nat.reduceLeDiff,↓reduceIte,AK,Du.Cp,i1,Du.BA hlt,B9,AU.row,hd,TF,show¬(3:Int)=2 by decide,Aq,An,Ak,Aj,Sg ZL,c1,c2,c3,c4,AW c5,DQ,e3,inc];exact AF.next (n+1,w) rfl ⟨hlt,hw,rfl⟩ (by simp only;omega)
    .obtain⟨w,e3,hw⟩:=GP (q:=[I 0,.str l[n].name,.str l[n].value]) (by rw[hnm];simp only[ef,AU.row]);simp only[AA,Nat.reduceLeDiff,↓reduceIte,AK,Du.Cp,i1,Du.BA hlt,B9,AU.row,hd,TF,show¬(3:Int)=2 by decide,Aq,An,Ak,Aj,Sg ZL,c1,c2,c3,c4,c5,DQ,e3,inc];exact AF.next (n+1,w) rfl ⟨hlt,hw,rfl⟩ (by simp only;omega)
   .obtain⟨w,e3,hw⟩:=GP (q:=[I 0,.str l[n].name,.str l[n].value]) (by simp only[CO,s2,s3,or_self,Ef,AU.row]);simp only[AA,Nat.reduceLeDiff,↓reduceIte,AK,Du.Cp,i1,Du.BA hlt,B9,AU.row,s2,s3,Aq,An,Ak,Aj,DQ,e3,inc];exact AF.next (n+1,w) rfl ⟨hlt,hw,rfl⟩ (by simp only;omega)
  .have i1:¬(n:Int)<(l.length:Int):=by omega
   rw[Az DT] at hu;simp only[AA,Nat.reduceLeDiff,↓reduceIte,AK,Du.Cp,i1,An,Ak,Aj];exact⟨_,rfl,hu⟩
 obtain⟨r,h',hr,rfl,hu⟩:=H5.ret;exact⟨r,hr,hu⟩
end
end
def own(bi:Nat)(G:Nat->Prop):Nat->Prop:=λi=>i=bi\/G i
section
variable{h h':Ag}{bi a:Nat}{o c t:Aa}{G G' F:Nat->Prop}{b:BS}{x:Int}{m:Nat}
theorem Dh.wq(x:Dh h G h' G'):Dh h (Am.own bi G) h' (Am.own bi G'):=⟨x.len,λi hi hn=>x.old i hi λhg=>hn (.inr hg),λi hi=>by
 rcases hi with rfl|hi
 .exact .inl (.inl rfl)
 .rcases x.own i hi with h|h
  .exact .inl (.inr h)
  .exact .inr h⟩
theorem BX.pD{A':Ar}(w:BX h bi a o c t G b)(hp:PW h' G' a A')(x:Dh h G h' G'):BX h' bi a o c t G' {b with a:=A'}/\Dh h (own bi G) h' (own bi G'):=
 ⟨⟨by rw[x.old bi w.lt w.nb];exact w.hb,w.o,w.t,hp,λhg=>by rcases x.own bi hg with h|h;exact w.nb h;have:=w.lt;omega⟩,x.wq⟩
theorem BX.step{A':Ar}{R:Ag->Prop}(w:BX h bi a o c t G b)(hPA:∀n m ps,PA h a n m ps b.a->∃h' n' m' IB,R h'/\PA h' a n' m' IB A'/\Dh h (λi=>i∈Fq a n m ps) h' (λi=>i∈Fq a n' m' IB)):
  ∃h' G',R h'/\BX h' bi a o c t G' {b with a:=A'}/\Dh h (own bi G) h' (own bi G'):=by
 obtain⟨n,m,ps,wa,e⟩:=w.w;obtain⟨h',n',m',IB,r,w',x⟩:=hPA n m ps wa;have eG:G=λi=>i∈Fq a n m ps:=funext λi=>propext (e i);obtain⟨w2,x2⟩:=w.pD w'.pw (by rw[eG];exact x);exact⟨h',_,r,w2,x2⟩
theorem BX.CP(w:BX h bi a o c t G b){u:Ag}:Dh h (own bi G) (h++u) (own bi G):= .HB
theorem aGK{v:Aa}{l:List Int}{f:FuncId}{caps:List Aa}{q:Int->Bool}(hv:Df l v)(hb:l.length<=1000000000)(hf:f<=99999)(hq:∀k∈l,∀u,∃u',BI cx f (I k::caps) (h++u) (.bool (q k)) (h++u++u')):
  ∃u,BI cx 196 [v,.func (.func f) [] caps] h (I (Ca q 0 l)) (h++u):=by
 have Du:AM 1 (l.map B6) v:=hv;have H5:Ev cx 196 [v,.func (.func f) [] caps] h λr h'=>r= I (Ca q 0 l)/\∃u,h'=h++u:=by
  unfold Ev;rw[nO,aBd];simp only[AA,Du.Cp];refine Bd (λk:Nat=>[I 0,I (k:Int)]) (λk h1=>k<=l.length/\Ca q 0 l=Ca q k (l.drop k)/\∃u,h1=h++u) (λk=>l.length-k) 0 rfl ⟨AO _,rfl,[],by simp⟩ ?_;rintro k h1 ⟨hk,ha,u,rfl⟩;rcases AN k l.length with hlt|DT
  .have i1:(k:Int)<(l.length:Int):=by omega
   have e1:A9 (h++u) none (.CB (B6 l[k]))=some (I l[k]):=rfl;obtain⟨u',r1⟩:=hq _ (AI hlt) u;rw[AH hlt,Ca] at ha;simp only[AA,↓reduceIte,Dt,Bi,i1,Du.BA hlt,e1,hf,r1.call,BB (show k<9223372036854775807 by omega)];rw[Cu];refine⟨λh2=>?_,λh2=>?_⟩;·exact⟨_,rfl,by rw[ha,if_pos h2],u++u',by simp⟩
   .rw[if_neg (by simp[h2])] at ha;exact AF.next (k+1) rfl ⟨hlt,ha,u++u',by simp⟩ (by omega)
  .have i1:¬(k:Int)<(l.length:Int):=by omega
   rw[AY DT,Ca] at ha;simp only[AA,↓reduceIte,Dt,Bi,i1];exact⟨_,rfl,by rw[ha],u,rfl⟩
 obtain⟨r,h',hr,rfl,u,rfl⟩:=H5.ret;exact⟨u,hr⟩
theorem qq{l:List Int}{q:Int->Bool}:decide (0<=Ca q 0 l)=l.any q:=by
 rcases GS (p:=q) (l:=l) (k:=0) with⟨h1,h2⟩|⟨n,y,h1,h2,h3⟩
 .rw[h1,eq_comm];have:=ZA.1 h2;simpa using this
 .rw[h1,eq_comm];have h4:=List.find?_some h3;have h5:=List.mem_of_find?_eq_some h3;rw[AD (by omega),List.any_eq_true];exact⟨y,h5,h4⟩
theorem BX.self(w:BX h bi a o c t G b){A':Ar}(e:A'=b.a):BX h bi a o c t G {b with a:=A'}:=by subst e;exact w
open Classical in
theorem cT{p bf:Int}(w:BX h bi a o c t G b)(ok:DG b)(rm:BR b m):∃h' G',BI cx 47 [Pt bi 0,I x,I p,I bf] h (.tuple []) h'/\BX h' bi a o c t G' {b with a:=b.a.D3 x p bf}/\Dh h (own bi G) h' (own bi G'):=by
 obtain⟨K1,V1,u1,r1,_,_⟩:=TE w ok rm p;have w1:=w.HB (u:=u1);have ec:∀v,Aa.cells (.ptr v)=[.ptr v]:=λ_=>rfl;have GM:∀h2,(∃u,h2=h++u)->∃h' G',(∃er,BI cx 115 [Pt a 0,I p,I x,I bf] h2 (I er) h')/\BX h' bi a o c t G' {b with a:=b.a.Fg p x bf}/\Dh h (own bi G) h' (own bi G'):=by
  rintro _ ⟨u,rfl⟩;have w2:=w.HB (u:=u);obtain⟨h',G',r,w',x'⟩:=w2.step (A':=b.a.Fg p x bf) (R:=λh'=>∃er,BI cx 115 [Pt a 0,I p,I x,I bf] (h++u) (I er) h') (λn m ps wa=>by obtain⟨er,h',IB,r,wp,xp⟩:=aGC wa rm.Wm ok.ok (p:=p) (x:=x) (b:=bf);exact⟨h',n,m,IB,⟨er,r⟩,wp,xp⟩)
  exact⟨h',G',r,w',w.CP.trans x'⟩
 by_cases k1:(b.a.nd p).kind=1
 .obtain⟨K2,V2,u2,r2,_,_⟩:=TE w1 ok rm x;have w2:=w1.HB (u:=u2);by_cases k2:(b.a.nd x).kind=4
  .obtain⟨n2,m2,i7,wa2⟩:=w2.w.pa;obtain⟨K,r3,hK⟩:=vw (x:=p) wa2 rm.Wm (rm.Wm.AZ ok.ok p);obtain⟨u3,r4⟩:=aGK (h:=h++u1++u2) (f:=114) (caps:=[.CB [Pt bi 0]]) (q:=λk=>decide ((b.a.nd k).kind=4)) hK (rm.Wm.AZ ok.ok p) (by decide) (λk _ u=>by have w3:=w2.HB (u:=u);obtain⟨K3,V3,u4,r5,_,_⟩:=TE w3 ok rm k;refine⟨u4,?_⟩;rw[Ab,mC,aAz];simp only[AA,r5.call])
   have r4':BI cx 112 [K,.func (.func 114) [] [.CB [Pt bi 0]]] (h++u1++u2) (.bool ((b.a.nd p).AZ.any λk=>decide ((b.a.nd k).kind=4))) (h++u1++u2++u3):=by rw[Ab,mB,aAy,<-qq];simp only[AA,r4.call]
   have w3:=w2.HB (u:=u3);by_cases k3:∃k∈(b.a.nd p).AZ,(b.a.nd k).kind=4
   .have e3:((b.a.nd p).AZ.any λk=>decide ((b.a.nd k).kind=4))=true:=by simpa using k3
    rw[e3] at r4';have e4:b.a.D3 x p bf=b.a:=by unfold Ar.D3;rw[if_pos ⟨k1,k2,k3⟩]
    refine⟨_,G,?_,w3.self e4,(w.CP.trans w1.CP).trans w2.CP⟩;rw[Ab,Vz,t47];simp only[AA,Bi,r1.call,k1,r2.call,k2,w2.l0,r3.call,r4'.call]
   .have e3:((b.a.nd p).AZ.any λk=>decide ((b.a.nd k).kind=4))=false:=by rw[List.any_eq_false];intro k hk;simpa using λe=>k3 ⟨k,hk,e⟩
    rw[e3] at r4';have e4:b.a.D3 x p bf=b.a.Fg p x bf:=by unfold Ar.D3;rw[if_neg (λh=>k3 h.2.2)]
    obtain⟨h',G',⟨er,r5⟩,w5,x5⟩:=GM (h++u1++u2++u3) ⟨u1++u2++u3,by simp⟩;refine⟨h',G',?_,by rw[e4];exact w5,x5⟩;rw[Ab,Vz,t47];simp only[AA,Bi,r1.call,k1,r2.call,k2,w2.l0,r3.call,r4'.call,w3.l0,r5.call]
  .have e4:b.a.D3 x p bf=b.a.Fg p x bf:=by unfold Ar.D3;rw[if_neg (λh=>k2 h.2.1)]
   obtain⟨h',G',⟨er,r5⟩,w5,x5⟩:=GM (h++u1++u2) ⟨u1++u2,by simp⟩;refine⟨h',G',?_,by rw[e4];exact w5,x5⟩;rw[Ab,Vz,t47];simp only[AA,Bi,r1.call,k1,r2.call,k2,w2.l0,r5.call]
 .have e4:b.a.D3 x p bf=b.a.Fg p x bf:=by unfold Ar.D3;rw[if_neg (λh=>k1 h.1)]
  obtain⟨h',G',⟨er,r5⟩,w5,x5⟩:=GM (h++u1) ⟨u1,rfl⟩;refine⟨h',G',?_,by rw[e4];exact w5,x5⟩;rw[Ab,Vz,t47];simp only[AA,Bi,r1.call,k1,w1.l0,r5.call]
theorem aGL(w:BX h bi a o c t G b)(ok:DG b)(rm:BR b m)(p:Int):∃u,BI cx 111 [Pt bi 0,I p] h (I (b.Iq p)) (h++u):=by
 obtain⟨K1,V1,u1,r1,_,_⟩:=TE w ok rm p;have w1:=w.HB (u:=u1);unfold BS.Iq;by_cases hc:(b.a.nd p).cont=0
 .refine⟨u1,?_⟩;rw[if_neg (by simp[hc]),Ab,YW,jz];simp only[AA,Bi,r1.call,hc,ne_eq,Cx,w1.l1];refine⟨λh1=>?_,λh1=>?_⟩;·rw[if_pos h1]
  .rw[if_neg h1]
 .obtain⟨K2,V2,u2,r2,_,_⟩:=TE w1 ok rm (b.a.nd p).cont;have w2:=w1.HB (u:=u2);refine⟨u1++u2,?_⟩;rw[if_pos hc,<-Ax,Ab,YW,jz];simp only[AA,Bi,r1.call,r2.call,hc,ne_eq,w2.l1];refine⟨λh1=>?_,λh1=>?_⟩;·rw[if_pos h1]
  .rw[if_neg h1]
def Na(nm:As)(av:Aa)(r:List Aa):Prop:=∃c0 c2 c3 c4 c5 c6 c7 c9 Tq U1,r=[c0,.str nm,c2,c3,c4,c5,c6,c7,av,c9,Tq,U1]
theorem LY:Aa.agg Item.zero.row= .agg [I 0,I 0,S [],ff]:=rfl
variable{nm:As}{av:Aa}{l:List AU}{r:List Aa}{sp p:Int}
theorem BR.len{k:Nat}(rm:BR b k)(hk:3<=k):b.a.len+3<=1000000000:=by have:=rm.n;unfold Ar.len;omega
theorem bb(w:BX h bi a o c t G b)(ok:DG b)(rm:BR b (m+3))(hr:Na nm av r)(hv:Bz l av)(hl:DH l)(hn:nm.length<=1000)(p sp:Int):
  ∃h' G',BI cx 46 [Pt bi 0,.agg r,I sp,I p] h (.agg (b.FE nm l sp).row) h'/\BX h' bi a o c t G' (b.Ee nm l sp p)/\Dh h (own bi G) h' (own bi G'):=by
 obtain⟨c0,c2,c3,c4,c5,c6,c7,c9,Tq,U1,rfl⟩:=hr;by_cases hs:BS.Hq sp
 .obtain⟨u1,r1,hu⟩:=aLw (h:=h) hv hl.1 sp;have w1:=w.HB (u:=[.map (ft 11)]);obtain⟨u2,r2⟩:=aGL w1 ok rm p;have w2:=w1.HB (u:=u2);have hd:=Sd ok (p:=p);have sp2:∀y∈l.map (CO sp),BS.Hq y.A0:=by intro y hy;obtain⟨z,_,rfl⟩:=Bl.1 hy;exact iB
  obtain⟨h',G',⟨r3,_⟩,w3,x3⟩:=w2.step (A':=b.a.elem (b.Iq p) sp (BS.Ir sp nm) (l.map (CO sp))) (R:=λh'=>BI cx 110 [Pt a 0,I (b.Iq p),I sp,.str (BS.Ir sp nm),u1] (h++[.map (ft 11)]++u2) (.tuple [I (b.a.len+1),I 0]) h'/\True) (λn m ps wa=>by obtain⟨h',n',m',IB,r,wp,xp,_⟩:=aGu wa rm.Wm (rm.len (by omega)) hd hs hu (by rw[Ah];have:=hl.1;omega) sp2 (nm:=BS.Ir sp nm);exact⟨h',n',m',IB,⟨r,trivial⟩,wp,xp⟩)
  have r4:=f96 (h:=h') hu (λy hy=>by obtain⟨z,hz,rfl⟩:=Bl.1 hy;rw[XJ];have:=(hl.2 z hz).2;have:AT=140737488355328:=rfl;omega) (by rw[Ah];have:=hl.1;omega) sp (BS.Ir sp nm);have em:Aw (.Bs [I 0,I 0,S [],ff] [(0,1),(1,1),(2,1),(3,1)]) [I (b.a.len+1),I sp,.str (BS.Ir sp nm),.bool (EJ sp (BS.Ir sp nm) (l.map (CO sp)))]=some (.agg (b.FE nm l sp).row):=by rw[XA];unfold BS.FE;rw[if_pos hs]
  refine⟨h',G',?_,by unfold BS.Ee;rw[if_pos hs];exact w3,(w.CP.trans w1.CP).trans x3⟩;have s1:¬sp<0:=by have:=hs.1;omega
  have s2:¬7<sp:=by have:=hs.2;omega
  have hlen:=λ(y:Item)=>@Item.Cq y;rw[Ab,iQ,t46];by_cases h2:sp=2
  .have e:BS.Ir sp nm=Cb nm H7:=by unfold BS.Ir;rw[if_pos h2]
   rw[e] at r3 r4 em;subst h2;simp only[AA,↓reduceIte,AK,Bi,EC,(Hs w).call,s1,s2,Fi,r1.call,D8,Cx,(aKE nm).Bk rfl rfl,w1.l0,r2.call,w2.l0,Bx,r3.call,ne_eq,r4.call,em,hlen]
  .have e:BS.Ir sp nm=nm:=by unfold BS.Ir;rw[if_neg h2]
   rw[e] at r3 r4 em;simp only[AA,↓reduceIte,AK,Bi,EC,(Hs w).call,s1,s2,Fi,r1.call,h2,w1.l0,r2.call,w2.l0,Bx,r3.call,ne_eq,Cx,r4.call,em,hlen]
 .refine⟨h,G,?_,by unfold BS.Ee;rw[if_neg hs];exact w,.refl⟩;have e:b.FE nm l sp=Item.zero:=by unfold BS.FE;rw[if_neg hs]
  rw[e,LY,Ab,iQ,t46];unfold BS.Hq at hs;by_cases h1:sp<0;·simp only[AA,↓reduceIte,AK,Bi,(Hs w).call,h1,D8]
  .simp only[AA,↓reduceIte,AK,Bi,(Hs w).call,h1,Fi,show 7<sp by omega,D8]
end
section
variable{h h':Ag}{bi a:Nat}{o c t:Aa}{G G' F:Nat->Prop}{b:BS}{x:Int}{m:Nat}
theorem Bg{k:Nat}{v:Aa}:Dh h (own bi G) (put h bi k v) (own bi G):=⟨by rw[IE];exact Ac _,λi _ hn=>B4 λe=>hn (.inl e),λ_ h=> .inl h⟩
theorem BX.put{k:Nat}{v o' c' t':Aa}{b':BS}(w:BX h bi a o c t G b)(e:(HS a b o c t).set k v=HS a b' o' c' t')(ea:b'.a=b.a)(ho:BM b'.AR o')(ht:Df b'.tm t'):BX (Am.put h bi k v) bi a o' c' t' G b':=
 ⟨by rw[Hp w.hb,e];exact AG w.lt,ho,ht,by rw[ea];exact w.w.Cv λi hi=>B4 λe=>w.nb (e▸hi),w.nb⟩
theorem BX.Ig{u:Aa}{l:List Item}(w:BX h bi a o c t G b)(hu:BM l u):BX (Am.put h bi 2 u) bi a u c t G {b with AR:=l}:=w.put rfl rfl hu w.t
theorem BX.Ki{u:Aa}{l:List Ce}(w:BX h bi a o c t G b):BX (Am.put h bi 3 u) bi a o u t G {b with A3:=l}:=w.put rfl rfl w.o w.t
theorem BX.st{k:Nat}{v v0:Aa}(w:BX h bi a o c t G b)(hk:(HS a b o c t)[k]?=some v0)(hv:v.cells=[v]):Cd h 1 (Pt bi k) v=some (Am.put h bi k v):=At.store (v:=v0) ⟨_,w.hb,hk⟩ hv
variable{nm:As}{av:Aa}{l:List AU}{r:List Aa}{sp p:Int}
theorem aLy(w:BX h bi a o c t G b)(ok:DG b)(rm:BR b (m+4))(hr:Na nm av r)(hv:Bz l av)(hl:DH l)(hn:nm.length<=1000)(sp:Int):
  ∃h' o' G',BI cx 141 [Pt bi 0,.func (.func 46) [Pt bi 0] [],.agg r,I sp] h (I (b.Om sp)) h'/\BX h' bi a o' c t G' (b.Ey nm l sp)/\Dh h (own bi G) h' (own bi G'):=by
 obtain⟨u1,r1⟩:=qp w ok rm 0;have w1:=w.HB (u:=u1);obtain⟨h2,G2,r2,w2,x2⟩:=bb (m:=m+1) w1 ok (rm.le (by omega)) hr hv hl hn (b.place 0).1 sp;have Fy:=hr;obtain⟨c0,c2,c3,c4,c5,c6,c7,c9,Tq,U1,rfl⟩:=hr;have ho:=rm.AR;by_cases hs:BS.Hq sp
 .have bc:=(Ms (nm:=nm) (at_:=l) (p:=(b.place 0).1) ok hs).1;have S6:=Ic (m:=m+1) (nm:=nm) (sp:=sp) (p:=(b.place 0).1) (rm.le (by omega)) hl;have VR:(b.FE nm l sp).node=b.a.len+1:=by unfold BS.FE;rw[if_pos hs]
  have Wh:¬(b.a.len+1=0):=by unfold Ar.len;omega
  have MD:(b.Ee nm l sp (b.place 0).1).AR=b.AR:=by unfold BS.Ee;rw[if_pos hs]
  obtain⟨h3,G3,r3,w3,x3⟩:=cT (x:=b.a.len+1) (p:=(b.place 0).1) (bf:=(b.place 0).2) w2 bc S6;obtain⟨v4,r4,hv4⟩:=f95 w3.sO (by simp only[MD];omega) (b.FE nm l sp);refine⟨Am.put h3 bi 2 v4,v4,G3,?_,?_,((w.CP.trans x2).trans x3).trans Bg⟩
  .have hh:b.Om sp=b.a.len+1:=by unfold BS.Om;rw[if_pos hs]
   rw[Ab,Y0,ky,hh];simp only[AA,Nat.reduceAdd,↓reduceIte,Dt,Bi,EC,r1.call,show(46:Nat)<=99999 by decide,r2.call,VR,Wh,ne_eq,r3.call];have e:=@Item.NB (b.FE nm l sp);rw[VR] at e;rw[<-e] at r4;simp only[e] at r4⊢;simp only[r4.call,AA]
  .have:=w3.Ig hv4;unfold BS.Ey;rw[if_pos hs];exact this
 .refine⟨h2,o,G2,?_,?_,w.CP.trans x2⟩
  .have e:b.FE nm l sp=Item.zero:=by unfold BS.FE;rw[if_neg hs]
   have hh:b.Om sp=0:=by unfold BS.Om;rw[if_neg hs]
   rw[e,LY] at r2;rw[Ab,Y0,ky,hh];simp only[AA,Nat.reduceAdd,↓reduceIte,Dt,Bi,EC,r1.call,show(46:Nat)<=99999 by decide,r2.call,ne_eq,Cx]
  .have:b.Ey nm l sp=b.Ee nm l sp (b.place 0).1:=by unfold BS.Ey BS.Ee;rw[if_neg hs,if_neg hs]
   rw[this];exact w2
theorem aGM(w:BX h bi a o c t G b)(ok:DG b)(rm:BR b (m+4))(hr:Na nm av r)(hv:Bz l av)(hl:DH l)(hn:nm.length<=1000)(sp:Int):
  ∃h' o' G',BI cx 58 [Pt bi 0,.agg r,I sp] h (I (b.Om sp)) h'/\BX h' bi a o' c t G' (b.Ey nm l sp)/\Dh h (own bi G) h' (own bi G'):=by
 obtain⟨h',o',G',r1,w',x'⟩:=aLy w ok rm hr hv hl hn sp;refine⟨h',o',G',?_,w',x'⟩;obtain⟨c0,c2,c3,c4,c5,c6,c7,c9,Tq,U1,rfl⟩:=hr;rw[Ab,yT,t58];simp only[AA,Bi,(Hs w).call,r1.call]
theorem qt(w:BX h bi a o c t G b)(ok:DG b)(rm:BR b (m+4))(hr:Na nm av r)(hv:Bz l av)(hl:DH l)(hn:nm.length<=1000):
  ∃h' o' G',BI cx 29 [Pt bi 0,.agg r] h (I (b.a.len+1)) h'/\BX h' bi a o' c t G' (b.Ey nm l 1)/\Dh h (own bi G) h' (own bi G'):=by
 obtain⟨h',o',G',r1,w',x'⟩:=aGM w ok rm hr hv hl hn 1;refine⟨h',o',G',?_,w',x'⟩;have hh:b.Om 1=b.a.len+1:=by unfold BS.Om;rw[if_pos IV]
 rw[hh] at r1;obtain⟨c0,c2,c3,c4,c5,c6,c7,c9,Tq,U1,rfl⟩:=hr;rw[Ab,yJ,t29];simp only[AA,r1.call]
end
def BN(l:List Ce)(v:Aa):Prop:=∃fs:List B0,fs.map (·.c)=l/\C0 fs v
theorem S7{α β:Type}{f:α->β}{q:β->Bool}{l:List α}:AL q (l.map f)=AL (λx=>q (f x)) l:=by unfold AL;rw[<-List.map_reverse,List.findIdx?_map,Ah];rfl
theorem jE{α β:Type}{f:α->β}{l:List α}{k:Nat}:(A7 l k).map f=A7 (l.map f) k:=by unfold A7;simp
theorem qu{fs:List B0}:since fs=gX (fs.map (·.c)):=by unfold since gX;rw[S7];rfl
theorem VS{n:Int}{fs:List B0}:GC n fs=EG n (fs.map (·.c)):=by unfold GC EG;rw[S7];rfl
theorem pE{nm:As}{fs:List B0}:Mn nm fs=FL nm (fs.map (·.c)):=by
 unfold Mn FL;rw[<-List.map_reverse];generalize fs.reverse=r;induction r with
 |nil=>rfl
 |cons x r ih=>simp only[Bm,lO,Ol,ih,Ah]
theorem aGN{e:Ce}{fs:List B0}:QY e fs=lS e (fs.map (·.c)).reverse:=by
 unfold QY;rw[<-List.map_reverse];generalize fs.reverse=r;induction r with
 |nil=>rfl
 |cons x r ih=>simp only[Bm,jc,lS,ih]
theorem aGO{e:Ce}{fs:List B0}:Mo e fs=cB e (fs.map (·.c)).reverse:=by
 unfold Mo;rw[<-List.map_reverse];generalize fs.reverse=r;induction r with
 |nil=>rfl
 |cons x r ih=>simp only[Bm,gT,cB,ih,Ah]
theorem cU{e:Ce}{e':B0}{fs:List B0}(he:e'.c=e):(Kw e fs++[e']).map (·.c)=cC e (fs.map (·.c)):=by
 unfold Kw cC;rw[aGN,aGO,BE,List.map_singleton,he];split;·rw[jE]
 .rfl
theorem T9{fs:List B0}:(fs.take (El fs)).map (·.c)=FD (fs.map (·.c)):=by unfold FD El;rw[HV,qu]
theorem pF{l:List Ce}{fs:List B0}(e:fs.map (·.c)=l)(h:∀x∈l,x.Ay.length<=1000):∀x∈fs,WL x:=by intro x hx;have:=h x.c (by rw[<-e];exact Bl.2 ⟨x,hx,rfl⟩);unfold WL;omega
section
variable{h h':Ag}{bi a:Nat}{o c t:Aa}{G G' F:Nat->Prop}{b:BS}{x:Int}{m:Nat}
variable{nm:As}{av:Aa}{l:List AU}{r:List Aa}{sp p:Int}
theorem aLz(w:BX h bi a o c t G b)(hc:BN b.A3 c)(ok:DG b)(rm:BR b (m+5))(hr:Na nm av r)(hv:Bz l av)(hl:DH l)(hn:nm.length<=1000):
  ∃h' o' c' G',BI cx 30 [Pt bi 0,.agg r] h (I (b.a.len+1)) h'/\BX h' bi a o' c' t G' (b.Ji nm l)/\BN (b.Ji nm l).A3 c'/\Dh h (own bi G) h' (own bi G'):=by
 obtain⟨h1,o1,G1,r1,w1,x1⟩:=qt (m:=m+1) w ok (rm.le (by omega)) hr hv hl hn;obtain⟨fs,efs,hf⟩:=hc;have ha:=rm.A3;have Gv:fs.length=b.A3.length:=by rw[<-efs,Ah]
 obtain⟨u,e',O6,r2,hu⟩:=f30 (h:=h1) (id:=bi) (o:=3) (l:=fs) ⟨c,w1.pC,hf⟩ (by omega) (pF efs λx hx=>((rm.Dj x hx).2).1) (e:=⟨⟨b.a.len+1,nm,l⟩,av,hv⟩) (by unfold WL;have:=hl.1;simp only;omega);refine⟨_,o1,u,G1,?_,w1.Ki (u:=u),?_,x1.trans Bg⟩
 .obtain⟨c0,c2,c3,c4,c5,c6,c7,c9,Tq,U1,rfl⟩:=hr;have Wh:¬(b.a.len+1=0):=by unfold Ar.len;omega
  have r2':BI cx 84 [Pt bi 3,.agg [I (b.a.len+1),.str nm,av]] h1 (.tuple []) (put h1 bi 3 u):=r2;have ZD:av.cells=[av]:=AM.cells hv;rw[Ab,yK,t30];simp only[AA,Nat.reduceLeDiff,↓reduceIte,AK,Bi,r1.call,Wh,ne_eq,ZD,r2'.call]
 .refine⟨_,?_,hu⟩;rw[cU O6,efs];unfold BS.Ji;simp only;rw[FF]
end
theorem aGP:∀x:Fin 64,(BitVec.ofInt 8 192|||BitVec.ofInt 8 (x.val:Int)).toNat=192+x.val:=by decide
theorem aGQ:∀x:Fin 32,(BitVec.ofInt 8 224|||BitVec.ofInt 8 (x.val:Int)).toNat=224+x.val:=by decide
theorem aGR:∀x:Fin 16,(BitVec.ofInt 8 240|||BitVec.ofInt 8 (x.val:Int)).toNat=240+x.val:=by decide
theorem aGS:∀x:Fin 64,(BitVec.ofInt 8 128|||BitVec.ofInt 8 (x.val:Int)).toNat=128+x.val:=by decide
theorem aGT:∀x:Fin 256,(BitVec.ofInt 8 (x.val:Int)&&& BitVec.ofInt 8 63).toNat=x.val%64:=by decide
theorem pG{a b:Int}:Aw (.int .or) [.int .u8 a,.int .u8 b]=some (.int .u8 (IntKind.u8.wrap (BitVec.ofInt 8 a|||BitVec.ofInt 8 b).toNat)):=rfl
theorem aB1{a b:Int}:Aw (.int .and) [.int .u8 a,.int .u8 b]=some (.int .u8 (IntKind.u8.wrap (BitVec.ofInt 8 a&&& BitVec.ofInt 8 b).toNat)):=rfl
theorem bd{x:Nat}(h:x<64):Aw (.int .or) [.int .u8 192,.int .u8 (x:Int)]=some (.int .u8 ((192+x:Nat):Int)):=by rw[pG,aGP ⟨x,h⟩,IntKind.wrap_u8];congr 2;simp only;omega
theorem cV{x:Nat}(h:x<32):Aw (.int .or) [.int .u8 224,.int .u8 (x:Int)]=some (.int .u8 ((224+x:Nat):Int)):=by rw[pG,aGQ ⟨x,h⟩,IntKind.wrap_u8];congr 2;simp only;omega
theorem be{x:Nat}(h:x<16):Aw (.int .or) [.int .u8 240,.int .u8 (x:Int)]=some (.int .u8 ((240+x:Nat):Int)):=by rw[pG,aGR ⟨x,h⟩,IntKind.wrap_u8];congr 2;simp only;omega
theorem Kj{x:Nat}(h:x<64):Aw (.int .or) [.int .u8 128,.int .u8 (x:Int)]=some (.int .u8 ((128+x:Nat):Int)):=by rw[pG,aGS ⟨x,h⟩,IntKind.wrap_u8];congr 2;simp only;omega
theorem Kk{x:Nat}(h:x<256):Aw (.int .and) [.int .u8 (x:Int),.int .u8 63]=some (.int .u8 ((x%64:Nat):Int)):=by rw[aB1,aGT ⟨x,h⟩,IntKind.wrap_u8];congr 2;simp only;omega
theorem Ua{n:Nat}:Aw (.int .shr) [.int .i32 (n:Int),.int .u64 6]=some (.int .i32 ((n/64:Nat):Int)):=by rw[show Aw (.int .shr) [.int .i32 (n:Int),.int .u64 6]=some (.int .i32 ((n:Int).fdiv 64)) from rfl,Int.fdiv_eq_ediv_of_nonneg _ (by omega)];rfl
theorem VT{n:Nat}:Aw (.int .shr) [.int .i32 (n:Int),.int .u64 12]=some (.int .i32 ((n/4096:Nat):Int)):=by rw[show Aw (.int .shr) [.int .i32 (n:Int),.int .u64 12]=some (.int .i32 ((n:Int).fdiv 4096)) from rfl,Int.fdiv_eq_ediv_of_nonneg _ (by omega)];rfl
theorem bg{n:Nat}:Aw (.int .shr) [.int .i32 (n:Int),.int .u64 18]=some (.int .i32 ((n/262144:Nat):Int)):=by rw[show Aw (.int .shr) [.int .i32 (n:Int),.int .u64 18]=some (.int .i32 ((n:Int).fdiv 262144)) from rfl,Int.fdiv_eq_ediv_of_nonneg _ (by omega)];rfl
theorem Si{k:IntKind}{n:Nat}:Aw (.conv .u8) [.int k (n:Int)]=some (.int .u8 ((n%256:Nat):Int)):=by rw[T0,IntKind.wrap_u8];congr 2
theorem Zi{n:Int}:Aw (.conv .u32) [.int .i32 n]=some (.int .u32 (n%4294967296)):=by rw[T0,IntKind.wrap_u32]
theorem XO{n:Nat}(h:n<256):((UInt8.ofNat n).toNat:Int)=(n:Int):=by rw[UInt8.toNat_ofNat'];congr 1;omega
def dv(b:UInt8):Aa:= .int .u8 (b.toNat:Int)
theorem JO{h:Ag}{bs:As}(hb:bs≠[])(hl:bs.length<=8):Fl h 1 1 .slnil (.sl 1 (B1 bs))=some (h++[.cells (bs.map dv)],.Ck h.length 0 bs.length 1):=by
 have Gv:∀bs:As,(B1 bs).flatten=bs.map dv:=by
  intro bs;induction bs with
  |nil=>rfl
  |cons c bs ih=>show[dv c]++(B1 bs).flatten=_;rw[ih];rfl
 cases bs with
 |nil=>exact absurd rfl hb
 |cons c bs=>
  have hm:AT=140737488355328:=rfl;have hlen:(B1 (c::bs)).length=(c::bs).length:=by simp[B1]
  have e:B1 (c::bs)=[.int .u8 c.toNat]::B1 bs:=rfl;have e1:Ft h 1 (.sl 1 (B1 (c::bs)))=some (B1 (c::bs)):=by simp[Ft]
  unfold Fl;rw[e1,e];simp only
  rw[<-e,if_pos (by rw[hlen];omega),Gv,hlen]
theorem aLA{h:Ag}(r:Int)(hr: -2147483648<=r/\r<=2147483647):BI cx 88 [.slnil,.int .i32 r] h (.Ck h.length 0 (GV r).length 1) (h++[.cells ((GV r).map dv)]):=by
 have one:∀{k1:Nat} (h1:k1<256),Aw (.By 1) [.int .u8 (k1:Int)]=some (.sl 1 (B1 [UInt8.ofNat k1])):=by intro k1 h1;simp only[B1,Bm,DR,XO h1];rfl
 have ZW:∀{k1 k2:Nat} (h1:k1<256) (h2:k2<256),Aw (.By 1) [.int .u8 (k1:Int),.int .u8 (k2:Int)]=some (.sl 1 (B1 [UInt8.ofNat k1,UInt8.ofNat k2])):=by intro k1 k2 h1 h2;simp only[B1,Bm,DR,XO h1,XO h2];rfl
 have SC:∀{k1 k2 k3:Nat} (h1:k1<256) (h2:k2<256) (h3:k3<256),Aw (.By 1) [.int .u8 (k1:Int),.int .u8 (k2:Int),.int .u8 (k3:Int)]=some (.sl 1 (B1 [UInt8.ofNat k1,UInt8.ofNat k2,UInt8.ofNat k3])):=by intro k1 k2 k3 h1 h2 h3;simp only[B1,Bm,DR,XO h1,XO h2,XO h3];rfl
 have four:∀{k1 k2 k3 k4:Nat} (h1:k1<256) (h2:k2<256) (h3:k3<256) (h4:k4<256),Aw (.By 1) [.int .u8 (k1:Int),.int .u8 (k2:Int),.int .u8 (k3:Int),.int .u8 (k4:Int)]=some (.sl 1 (B1 [UInt8.ofNat k1,UInt8.ofNat k2,UInt8.ofNat k3,UInt8.ofNat k4])):=by intro k1 k2 k3 k4 h1 h2 h3 h4;simp only[B1,Bm,DR,XO h1,XO h2,XO h3,XO h4];rfl
 have xz:Aw (.By 1) [.int .u8 239,.int .u8 191,.int .u8 189]=some (.sl 1 (B1 [239,191,189])):=rfl;rw[Ab,zD,t88];simp only[AA,Zi];by_cases h0:0<=r
 .obtain⟨n,rfl⟩:=O3 h0;have em:(n:Int)%4294967296=(n:Int):=by omega
  rw[em];by_cases c1:n<128
  .have e:GV (n:Int)=[UInt8.ofNat n]:=by unfold GV;rw[if_pos (by omega)];rfl
   have e8:n%256=n:=by omega
   rw[e];simp only[AA,Bi,show(n:Int)<=127 by omega,Si,e8,one (show n<256 by omega),JO (bs:=[UInt8.ofNat n]) (by simp) (by simp)]
  .have aB2:BI cx 171 [.slnil,.int .i32 (n:Int)] h (.Ck h.length 0 (GV (n:Int)).length 1) (h++[.cells ((GV (n:Int)).map dv)]):=by
    rw[Ab,Y4,l_];simp only[AA,Zi,em];by_cases c2:n<2048
    .have e:GV (n:Int)=[UInt8.ofNat (192+n/64),UInt8.ofNat (128+n%64)]:=by unfold GV;rw[if_neg (by omega),if_pos (by omega)];rfl
     rw[e];have a1:n/64%256=n/64:=by omega
     have a2:n%256%64=n%64:=by omega
     simp only[AA,Bi,show(n:Int)<=2047 by omega,Ua,Si,a1,bd (show n/64<64 by omega),Kk (show n%256<256 by omega),a2,Kj (show n%64<64 by omega),ZW (show 192+n/64<256 by omega) (show 128+n%64<256 by omega),JO (bs:=[UInt8.ofNat (192+n/64),UInt8.ofNat (128+n%64)]) (by simp) (by simp)]
    .by_cases c3:n<65536/\¬(55296<=n/\n<57344)
     .have e:GV (n:Int)=[UInt8.ofNat (224+n/4096),UInt8.ofNat (128+n/64%64),UInt8.ofNat (128+n%64)]:=by unfold GV;rw[if_neg (by omega),if_neg (by omega),if_pos (by omega)];rfl
      rw[e];have a1:n/4096%256=n/4096:=by omega
      have a2:n/64%256%64=n/64%64:=by omega
      have a3:n%256%64=n%64:=by omega
      have g:=JO (h:=h) (bs:=[UInt8.ofNat (224+n/4096),UInt8.ofNat (128+n/64%64),UInt8.ofNat (128+n%64)]) (by simp) (by simp);have t3:=SC (show 224+n/4096<256 by omega) (show 128+n/64%64<256 by omega) (show 128+n%64<256 by omega);by_cases c4:n<55296;·simp only[AA,Bi,show¬(n:Int)<=2047 by omega,show(n:Int)<55296 by omega,Ua,VT,Si,a1,cV (show n/4096<32 by omega),Kk (show n/64%256<256 by omega),a2,Kj (show n/64%64<64 by omega),Kk (show n%256<256 by omega),a3,Kj (show n%64<64 by omega),t3,g]
      .simp only[AA,Bi,show¬(n:Int)<=2047 by omega,show¬(n:Int)<55296 by omega,show(57343:Int)<n by omega,show(n:Int)<=65535 by omega,Ua,VT,Si,a1,cV (show n/4096<32 by omega),Kk (show n/64%256<256 by omega),a2,Kj (show n/64%64<64 by omega),Kk (show n%256<256 by omega),a3,Kj (show n%64<64 by omega),t3,g]
     .by_cases c5:65536<=n/\n<=1114111
      .have e:GV (n:Int)=[UInt8.ofNat (240+n/262144),UInt8.ofNat (128+n/4096%64),UInt8.ofNat (128+n/64%64),UInt8.ofNat (128+n%64)]:=by unfold GV;rw[if_neg (by omega),if_neg (by omega),if_neg (by omega),if_pos (by omega)];rfl
       rw[e];have a0:n/262144%256=n/262144:=by omega
       have a1:n/4096%256%64=n/4096%64:=by omega
       have a2:n/64%256%64=n/64%64:=by omega
       have a3:n%256%64=n%64:=by omega
       have g:=JO (h:=h) (bs:=[UInt8.ofNat (240+n/262144),UInt8.ofNat (128+n/4096%64),UInt8.ofNat (128+n/64%64),UInt8.ofNat (128+n%64)]) (by simp) (by simp);have t4:=four (show 240+n/262144<256 by omega) (show 128+n/4096%64<256 by omega) (show 128+n/64%64<256 by omega) (show 128+n%64<256 by omega);simp only[AA,Bi,show¬(n:Int)<=2047 by omega,show¬(n:Int)<55296 by omega,show(57343:Int)<n by omega,show¬(n:Int)<=65535 by omega,show(65535:Int)<n by omega,show(n:Int)<=1114111 by omega,Ua,VT,bg,Si,a0,be (show n/262144<16 by omega),Kk (show n/4096%256<256 by omega),a1,Kj (show n/4096%64<64 by omega),Kk (show n/64%256<256 by omega),a2,Kj (show n/64%64<64 by omega),Kk (show n%256<256 by omega),a3,Kj (show n%64<64 by omega),t4,g]
      .have e:GV (n:Int)=[239,191,189]:=by unfold GV;rw[if_neg (by omega),if_neg (by omega),if_neg (by omega),if_neg (by omega)]
       rw[e];have g:=JO (h:=h) (bs:=[239,191,189]) (by simp) (by simp);by_cases c6:n<65536;·simp only[AA,Bi,show¬(n:Int)<=2047 by omega,show¬(n:Int)<55296 by omega,show¬(57343:Int)<n by omega,show¬(65535:Int)<n by omega,xz,g]
       .simp only[AA,Bi,show¬(n:Int)<=2047 by omega,show¬(n:Int)<55296 by omega,show(57343:Int)<n by omega,show¬(n:Int)<=65535 by omega,show(65535:Int)<n by omega,show¬(n:Int)<=1114111 by omega,xz,g]
   simp only[AA,Bi,show¬(n:Int)<=127 by omega,aB2.call]
 .have e:GV r=[239,191,189]:=by unfold GV;rw[if_neg (by omega),if_neg (by omega),if_neg (by omega),if_neg (by omega)]
  have g:=JO (h:=h) (bs:=[239,191,189]) (by simp) (by simp);have aB2:BI cx 171 [.slnil,.int .i32 r] h (.Ck h.length 0 (GV r).length 1) (h++[.cells ((GV r).map dv)]):=by rw[e,Ab,Y4,l_];simp only[AA,Bi,Zi,show¬(r%4294967296)<=2047 by omega,show¬(r%4294967296)<55296 by omega,show(57343:Int)<r%4294967296 by omega,show¬(r%4294967296)<=65535 by omega,show(65535:Int)<r%4294967296 by omega,show¬(r%4294967296)<=1114111 by omega,xz,g]
  simp only[AA,Bi,show¬(r%4294967296)<=127 by omega,aB2.call]
theorem VU(r:Int):(GV r).length<=4:=by unfold GV;split<;>(try split)<;>(try split)<;>(try split)<;>simp
theorem cW{l:List Int}{bf:Int}(hb:bf≠0->bf∈l):∃i,i<=l.length/\(bf=0->i=l.length)/\(bf≠0->Ca (λy=>decide (bf=y)) 0 l=(i:Int))/\Sc l bf=if i=0 then none else l[i-1]?:=by
 by_cases h0:bf=0
 .refine⟨l.length,Ac _,λ_=>rfl,λh=>absurd h0 h,?_⟩;unfold Sc;rw[if_pos h0,dQ];split;·rename_i h;rw[E3 (by omega)]
  .rfl
 .obtain⟨k,k1,k2,k3,k4,k5⟩:=Zh (hb h0);refine⟨k,by omega,λh=>absurd h h0,λ_=>k2,?_⟩;unfold Sc;rw[if_neg h0,k4,dQ,Al,Co (by omega)];split;·rename_i h;subst h;simp
  .rw[Ch];rw[if_pos (by omega)]
theorem Zj{s u:As}(h:s.length+u.length<=2000000000):Aw (.str .add) [.str s,.str u]=some (.str (s++u)):=by
 have:s.length+u.length<=9223372036854775807:=by omega
 simp[Aw,WV,this]
theorem XP:∀s:As,(B1 s).flatten=s.map dv
 |[]=>rfl
 |c::s=>by show[dv c]++(B1 s).flatten=_;rw[XP s];rfl
section
variable{h h':Ag}{bi a:Nat}{o c t:Aa}{G G' F:Nat->Prop}{b:BS}{x:Int}{m:Nat}
variable{nm:As}{av:Aa}{l:List AU}{r:List Aa}{sp p:Int}
theorem Zk{k d:Int}{s:As}(ok:DG b)(rm:BR b (m+1))(hk:k=5\/k=6)(hd:b.a.has d/\(b.a.nd d).kind=1)(hs:s.length<=100000):DG {b with a:=b.a.add {kind:=k,Cz:=d,data:=s}}/\BR {b with a:=b.a.add {kind:=k,Cz:=d,data:=s}} m:=
 ⟨ok.Jq (YS ok.ok (by unfold Ar.len;omega) hd hk) hC,rm.Fs (k:=1) (Mu (AO _) hs)⟩
theorem aLB(w:BX h bi a o c t G b)(ok:DG b)(rm:BR b (m+5))(r:Int)(hr: -2147483648<=r/\r<=2147483647):
  ∃h' G',BI cx 31 [Pt bi 0,.int .i32 r] h (.tuple []) h'/\BX h' bi a o c t G' (b.gY r)/\Dh h (own bi G) h' (own bi G'):=by
 obtain⟨u1,r1⟩:=qp w ok rm 0;obtain⟨hp,hbf⟩:=Vr ok (t:=0) (.inl rfl);have w1:=w.HB (u:=u1);unfold BS.gY;generalize(b.place 0).1=p at*;generalize(b.place 0).2=bf at*;obtain⟨K,V,u2,r2,hK,_⟩:=TE w1 ok rm p;have w2:=w1.HB (u:=u2);have x2:Dh h (own bi G) (h++u1++u2) (own bi G):=w.CP.trans w1.CP;unfold BS.Kx;by_cases hk:(b.a.nd p).kind=4\/(b.a.nd p).kind=2;rotate_left
 .refine⟨_,G,?_,?_,x2⟩;·have k4:¬(b.a.nd p).kind=4:=λe=>hk (.inl e);have k2:¬(b.a.nd p).kind=2:=λe=>hk (.inr e);rw[Ab,Vy,t31];simp only[AA,Bi,(Hs w).call,r1.call,r2.call,ne_eq,k4,k2]
  .rw[if_neg hk];exact w2
 rw[if_pos hk];obtain⟨i,hi,sK,Tr,hpv⟩:=cW (l:=(b.a.nd p).AZ) (bf:=bf) (λh=>by have:=hbf h;have h2:=(ok.ok.Fa bf this.1 (by rw[this.2];have:=hp.1;omega)).2;rwa [this.2] at h2);rw[hpv];have OE:=rm.Wm.AZ ok.ok p;have ri:=aBV (h:=h++u1++u2) (x:=bf) hK.Rc OE;have r35:=aLA (h:=h++u1++u2) r hr;have UC:=VU r;generalize hs:GV r=s at*;have f3:Kp (h++u1++u2++[.cells (s.map dv)]) (.Ck (h++u1++u2).length 0 s.length 1)=some (h++u1++u2++[.CH],.sl 1 (B1 s)):=by have Gv:=XP s;have:=JJ (h:=h++u1++u2++[.cells (s.map dv)]) (id:=(h++u1++u2).length) (z:=1) (Au:=B1 s) (by intro q hq;obtain⟨y,_,rfl⟩:=Bl.1 hq;rfl) (by rw[Gv];simp);rw[show(B1 s).length=s.length by simp[B1]] at this;rw[this];congr 2;rw[BP _ _ (Ac _),CY];rfl
 have b3:Aw .Tc [.sl 1 (B1 s)]=some (.str s):=by simp[Aw,Ud,P3]
 have w3:=w2.HB (u:=[.CH]);have x3:Dh h (own bi G) (h++u1++u2++[.CH]) (own bi G):=x2.trans w2.CP;have Zl:=ok.ok.Cz p hp;have new:∀h3,(∃u,h3=h++u1++u2++[.CH]++u)->∃h' h4 G',BI cx 90 [Pt a 0,I (b.a.nd p).Cz,.str s] h3 (.tuple [I (b.a.len+1),I 0]) h4/\BI cx 47 [Pt bi 0,I (b.a.len+1),I p,I bf] h4 (.tuple []) h'/\BX h' bi a o c t G' {b with a:=(b.a.add {kind:=5,Cz:=(b.a.nd p).Cz,data:=s}).D3 (b.a.len+1) p bf}/\Dh h (own bi G) h' (own bi G'):=by
  rintro _ ⟨u,rfl⟩;have w4:=w3.HB (u:=u);obtain⟨h4,G4,⟨r4,_⟩,w5,x5⟩:=w4.step (A':=b.a.add (Lm 5 (b.a.nd p).Cz s).x) (R:=λh'=>BI cx 90 [Pt a 0,I (b.a.nd p).Cz,.str s] (h++u1++u2++[.CH]++u) (.tuple [I (b.a.len+1),I 0]) h'/\True) (λn m ps wa=>by obtain⟨h',r,wp,o1,l1⟩:=aLg (s:=s) wa rm.Wm (by have:=rm.n;unfold Ar.len;omega) Zl;exact⟨h',_,_,_,⟨r,trivial⟩,wp,wa.Rb rfl o1 l1⟩)
  obtain⟨U_,rm5⟩:=Zk (m:=m) (k:=5) (s:=s) ok (rm.le (by omega)) (.inl rfl) Zl (by omega);obtain⟨h',G',r6,w6,x6⟩:=cT (x:=b.a.len+1) (p:=p) (bf:=bf) w5 U_ rm5;exact⟨h',h4,G',r4,r6,w6,(x3.trans w3.CP).trans (x5.trans x6)⟩
 have kl:=(hK.Rc (h:=h++u1++u2)).len;have Nx:i<=1000000000:=by omega
 by_cases hz:i=0
 .subst hz;obtain⟨h',h4,G',r4,r6,w6,x6⟩:=new (h++u1++u2++[.CH]) ⟨[],by simp⟩;simp only[↓reduceIte];refine⟨h',G',?_,w6,x6⟩;rw[Ab,Vy,t31];rcases hk with hk|hk<;>by_cases h0:bf=0
  all_goals first|(rw[<-sK h0] at kl;simp only[AA,Bi,(Hs w).call,r1.call,r2.call,hk,ne_eq,Cx,show¬(2:Int)=4 by decide,kl,AW h0,r35.call,f3,b3,show¬(0:Int)<((0:Nat):Int) by decide,w3.l0,r4.call,Cx,r6.call];done)|(rw[Tr h0] at ri;simp only[AA,Bi,(Hs w).call,r1.call,r2.call,hk,ne_eq,Cx,show¬(2:Int)=4 by decide,kl,h0,r35.call,f3,b3,show¬(0:Int)<((0:Nat):Int) by decide,w3.l0,r4.call,Cx,r6.call,ri.call])
 .obtain⟨j,rfl⟩:∃j,i=j+1:=⟨i-1,by omega⟩;have hj:j<(b.a.nd p).AZ.length:=by omega
  rw[if_neg hz,GJ,Ai hj];simp only
  have ht:=ok.ok.LD p hp _ (AI hj);obtain⟨q,e1,e2⟩:=(hK.Rc (h:=h++u1++u2++[.CH])).at_ j hj;obtain⟨K7,V7,u7,r7,_,_⟩:=TE w3 ok rm (b.a.nd p).AZ[j];have w7:=w3.HB (u:=u7);obtain⟨q',e1',e2'⟩:=(hK.Rc (h:=h++u1++u2++[.CH]++u7)).at_ j hj;rw[e1,BF] at e1';subst e1';have sb:Aw (.int .sub) [I ((j+1:Nat):Int),I 1]=some (I (j:Int)):=by have:=Ho (n:=j+1) (by omega) (by omega);simpa using this
  generalize hte:(b.a.nd p).AZ[j]=te at*;by_cases k5:(b.a.nd te).kind=5
  .rw[if_pos k5];have fH:=rm.data te;obtain⟨h8,G8,⟨r8,_⟩,w8,x8⟩:=w7.step (A':=b.a.Q4 te ((b.a.nd te).data++s)) (R:=λh'=>BI cx 89 [Pt a 0,I te,.str ((b.a.nd te).data++s)] (h++u1++u2++[.CH]++u7) (I 0) h'/\True) (λn m ps wa=>by obtain⟨h',IB,r,wp,xp⟩:=aLh (s:=(b.a.nd te).data++s) wa rm.Wm ht.1 k5;exact⟨h',n,m,IB,⟨r,trivial⟩,wp,xp⟩)
   refine⟨h8,G8,?_,w8,(x3.trans w3.CP).trans x8⟩;rw[Ab,Vy,t31];rcases hk with hk|hk<;>by_cases h0:bf=0
   all_goals first|(rw[<-sK h0] at kl;simp only[AA,Bi,(Hs w).call,r1.call,r2.call,hk,ne_eq,Cx,show¬(2:Int)=4 by decide,kl,AW h0,r35.call,f3,b3,show(0:Int)<((j+1:Nat):Int) by omega,sb,e1,e2,r7.call,k5,w7.l0,e2',Zj (show(b.a.nd te).data.length+s.length<=2000000000 by omega),Cx,r8.call];done)|(rw[Tr h0] at ri;simp only[AA,Bi,(Hs w).call,r1.call,r2.call,hk,ne_eq,Cx,show¬(2:Int)=4 by decide,kl,h0,r35.call,f3,b3,show(0:Int)<((j+1:Nat):Int) by omega,sb,e1,e2,r7.call,k5,w7.l0,e2',Zj (show(b.a.nd te).data.length+s.length<=2000000000 by omega),Cx,r8.call,ri.call])
  .rw[if_neg k5];obtain⟨h',h4,G',r4,r6,w6,x6⟩:=new _ ⟨u7,rfl⟩;refine⟨h',G',?_,w6,x6⟩;rw[Ab,Vy,t31];rcases hk with hk|hk<;>by_cases h0:bf=0
   all_goals first|(rw[<-sK h0] at kl;simp only[AA,Bi,(Hs w).call,r1.call,r2.call,hk,ne_eq,Cx,show¬(2:Int)=4 by decide,kl,AW h0,r35.call,f3,b3,show(0:Int)<((j+1:Nat):Int) by omega,sb,e1,e2,r7.call,k5,w7.l0,r4.call,Cx,r6.call];done)|(rw[Tr h0] at ri;simp only[AA,Bi,(Hs w).call,r1.call,r2.call,hk,ne_eq,Cx,show¬(2:Int)=4 by decide,kl,h0,r35.call,f3,b3,show(0:Int)<((j+1:Nat):Int) by omega,sb,e1,e2,r7.call,k5,w7.l0,r4.call,Cx,r6.call,ri.call])
theorem Ln{s:As}{p bf x:Int}{h0 h1:Ag}(hstart:(¬x=0/\p=x/\bf=0/\h1=h0)\/(x=0/\BI cx 85 [Pt bi 0,I 0] h0 (.tuple [I p,I bf]) h1))
  (w0:BX h0 bi a o c t G b) (x0:Dh h0 (own bi G) h1 (own bi G)) (w:BX h1 bi a o c t G b) (ok:DG b) (rm:BR b (m+1)) (hs:s.length<=100000):
  ∃h' G',BI cx 59 [Pt bi 0,.str s,I x] h0 (.tuple []) h'/\BX h' bi a o c t G' {b with a:=BS.Es b.a s p bf}/\Dh h0 (own bi G) h' (own bi G'):=by
 obtain⟨K,V,u2,r2,hK,_⟩:=TE w ok rm p;have w2:=w.HB (u:=u2);unfold BS.Es;by_cases hk:Ke (b.a.nd p).kind
 .rw[if_pos hk];have hp:b.a.has p:=by
   by_cases hp:b.a.has p;·exact hp
   .rw[GN hp] at hk;unfold Ke at hk;simp at hk
  have Zl:=ok.ok.Cz p hp;obtain⟨h4,G4,⟨r4,_⟩,w5,x5⟩:=w2.step (A':=b.a.add (Lm 6 (b.a.nd p).Cz s).x) (R:=λh'=>BI cx 14 [Pt a 0,I (b.a.nd p).Cz,.str s] (h1++u2) (.tuple [I (b.a.len+1),I 0]) h'/\True) (λn m ps wa=>by obtain⟨h',r,wp,o1,l1⟩:=aGl (s:=s) wa rm.Wm (by have:=rm.n;unfold Ar.len;omega) Zl;exact⟨h',_,_,_,⟨r,trivial⟩,wp,wa.Rb rfl o1 l1⟩)
  obtain⟨U_,rm5⟩:=Zk (m:=m) (k:=6) (s:=s) ok rm (.inr rfl) Zl hs;obtain⟨h',G',r6,w6,x6⟩:=cT (x:=b.a.len+1) (p:=p) (bf:=bf) w5 U_ rm5;refine⟨h',G',?_,w6,(x0.trans w.CP).trans (x5.trans x6)⟩;rw[Ab,yU,t59];rcases hstart with⟨hx,rfl,rfl,rfl⟩|⟨hx,r1⟩
  .rcases hk with hk|hk|hk<;>simp only[AA,Bi,(Hs w0).call,r2.call,hk,ne_eq,Cx,show¬(2:Int)=1 by decide,show¬(4:Int)=1 by decide,show¬(4:Int)=2 by decide,w2.l0,r4.call,r6.call,hx]
  .rcases hk with hk|hk|hk<;>simp only[AA,Bi,(Hs w0).call,r2.call,hk,ne_eq,Cx,show¬(2:Int)=1 by decide,show¬(4:Int)=1 by decide,show¬(4:Int)=2 by decide,w2.l0,r4.call,r6.call,AW hx,r1.call]
 .rw[if_neg hk];refine⟨_,G,?_,w2,x0.trans w.CP⟩;unfold Ke at hk;have k1:¬(b.a.nd p).kind=1:=by omega
  have k2:¬(b.a.nd p).kind=2:=by omega
  have k4:¬(b.a.nd p).kind=4:=by omega
  rw[Ab,yU,t59];rcases hstart with⟨hx,rfl,rfl,rfl⟩|⟨hx,r1⟩
  .simp only[AA,Bi,(Hs w0).call,r2.call,ne_eq,k1,k2,k4,hx]
  .simp only[AA,Bi,(Hs w0).call,r2.call,ne_eq,k1,k2,k4,AW hx,r1.call]
theorem aLE(w:BX h bi a o c t G b)(ok:DG b)(rm:BR b (m+1))(s:As)(hs:s.length<=100000)(x:Int):
  ∃h' G',BI cx 59 [Pt bi 0,.str s,I x] h (.tuple []) h'/\BX h' bi a o c t G' (b.J2 s x)/\Dh h (own bi G) h' (own bi G'):=by
 unfold BS.J2;by_cases h0:x=0;·rw[if_pos h0];obtain⟨u1,r1⟩:=qp w ok rm 0;exact Ln (p:=(b.place 0).1) (bf:=(b.place 0).2) (.inr ⟨h0,r1⟩) w w.CP (w.HB (u:=u1)) ok rm hs
 .rw[if_neg h0];exact Ln (p:=x) (bf:=0) (.inl ⟨h0,rfl,rfl,rfl⟩) w .refl w ok rm hs
theorem aLF(w:BX h bi a o c t G b)(ok:DG b)(rm:BR b (m+4))(hr:Na nm av r)(hv:Bz l av)(hl:DH l)(hn:nm.length<=1000)(st:Int):
  ∃h' o' G',BI cx 60 [Pt bi 0,.agg r,I st] h (.tuple []) h'/\BX h' bi a o' c t G' (b.OU nm l st)/\Dh h (own bi G) h' (own bi G'):=by
 obtain⟨h1,o1,G1,r1,w1,x1⟩:=qt w ok rm hr hv hl hn;have s1:=w1.st (k:=18) (v:= I st) rfl rfl;have w2:BX (put h1 bi 18 (I st)) bi a o1 c t G1 {b.Ey nm l 1 with sw:=st}:=w1.put rfl rfl w1.o w1.t;have s2:=w2.st (k:=5) (v:= I (b.Ey nm l 1).mode) rfl rfl;have w3:BX (put (put h1 bi 18 (I st)) bi 5 (I (b.Ey nm l 1).mode)) bi a o1 c t G1 {b.Ey nm l 1 with sw:=st,R6:=(b.Ey nm l 1).mode}:=w2.put rfl rfl w1.o w1.t;have s3:=w3.st (k:=4) (v:=I 8) rfl rfl;have w4:BX (put (put (put h1 bi 18 (I st)) bi 5 (I (b.Ey nm l 1).mode)) bi 4 (I 8)) bi a o1 c t G1 (b.OU nm l st):=w3.put rfl rfl w1.o w1.t;refine⟨_,o1,G1,?_,w4,((x1.trans Bg).trans Bg).trans Bg⟩;obtain⟨c0,c2,c3,c4,c5,c6,c7,c9,Tq,U1,rfl⟩:=hr;rw[Ab,aAl,t60];simp only[AA,(Hs w).call,r1.call,w1.l4,s1,s2,s3]
theorem aLG(w:BX h bi a o c t G b)(rm:BR b m):
  ∃h' o',BI cx 61 [Pt bi 0] h (.tuple []) h'/\BX h' bi a o' c t G b.IP/\Dh h (own bi G) h' (own bi G):=by
 have ho:=rm.AR;have r1:=aKK w.sA (show b.AR.length<=1000000000 by omega) 3 (v:= .sl 1 ([wP].map CI)) (ws:=[wP]) CS (by decide);have em:Aw (.By 1) [S [112]]=some (.sl 1 ([wP].map CI)):=DE (ws:=[wP]) rfl (by decide);unfold BS.IP;by_cases hs:I6 (Bq [wP]) (IL 3) b.AR.reverse=true;·rw[if_pos hs];rw[hs] at r1;obtain⟨u1,r2,Ny⟩:=aF7 w.sO (by omega) wP;have w1:=w.Ig Ny;have DY:=OQ (b:=D2 wP) (a:=CD) (l:=b.AR);obtain⟨u2,r3,HU⟩:=f66 w1.sO (by simp only;omega) (w:= .sl 1 ([wP].map CI)) (ws:=[wP]) CS (by decide);refine⟨_,u2,?_,w1.Ig HU,Bg.trans Bg⟩;rw[Ab,yV,t61];simp only[AA,(Hs w).call,em,r1.call,r2.call,r3.call]
 .rw[if_neg hs];rw[show I6 (Bq [wP]) (IL 3) b.AR.reverse=false by simpa using hs] at r1;refine⟨h,o,?_,w,.refl⟩;rw[Ab,yV,t61];simp only[AA,(Hs w).call,em,r1.call]
end
section
variable{h h':Ag}{bi a:Nat}{o c t:Aa}{G G' F:Nat->Prop}{b:BS}{x:Int}{m:Nat}
variable{nm:As}{av:Aa}{l:List AU}{r:List Aa}{sp p:Int}
theorem Re{α:Type}{l:List α}{n:Nat}(hn:n<l.length):(l.take (n+1)).reverse=l[n]::(l.take n).reverse:=by rw[Av hn,Nk];rfl
theorem aGV(w:BX h bi a o c t G b)(rm:BR b m)(nm:As):
  ∃h' o',BI cx 63 [Pt bi 0,.str nm] h (.tuple []) h'/\BX h' bi a o' c t G (b.C1 nm)/\Dh h (own bi G) h' (own bi G):=by
 have ho:=rm.AR;have H5:Ev cx 63 [Pt bi 0,.str nm] h λr h'=>r= .tuple []/\∃o',BX h' bi a o' c t G (b.C1 nm)/\Dh h (own bi G) h' (own bi G):=by
  unfold Ev;rw[yW,t63];simp only[AA,Bi,(Hs w).call,(Tx w.sA).call,CK (show -9223372036854775808<=(b.AR.length:Int)-1 by omega) (show(b.AR.length:Int)-1<9223372036854775808 by omega)];refine Bd (λn:Nat=>[I ((n:Int)-1)]) (λn h1=>n<=b.AR.length/\(b.AR.reverse.find? λi=>Bq [nm] i||Gc i)=((b.AR.take n).reverse.find? λi=>Bq [nm] i||Gc i)/\h1=h) (λn=>n) b.AR.length rfl ⟨Ac _,by rw[Bu],rfl⟩ ?_;rintro n h1 ⟨hn,ha,rfl⟩;cases n with
  |zero=>
   have e:b.C1 nm=b:=by unfold BS.C1;rw[ha];rfl
   simp only[AA,Bi,show¬(0:Int)<=((0:Nat):Int)-1 by omega];exact⟨_,rfl,rfl,o,by rw[e];exact w,.refl⟩
  |succ n=>
   have hlt:n<b.AR.length:=by omega
   have i1:((n+1:Nat):Int)-1=(n:Int):=by omega
   have r1:=VH w.sA (n:Int);rw[Hj hlt] at r1;have em:Aw (.By 1) [.str nm]=some (.sl 1 ([nm].map CI)):=DE (ws:=[nm]) rfl (by simp);have r2:=jD (ws:=[nm]) CS (by simp) b.AR[n] h1;rw[Re hlt,I5] at ha;generalize hi:b.AR[n]=i at*;rw[Item.row] at r2;simp only[AA,Bi,EC,i1,show(0:Int)<=(n:Int) by omega,r1.call,em];have r2':BI cx 50 [.agg i.row,.sl 1 ([nm].map CI)] h1 (.bool (Bq [nm] i)) h1:=r2;rw[r2'.call,KQ,Cu];refine⟨λh2=>?_,λh2=>?_⟩
   .obtain⟨u1,r3,Ny⟩:=aF7 w.sO (by omega) nm;have w1:=w.Ig Ny;have DY:=OQ (b:=D2 nm) (a:=CD) (l:=b.AR);obtain⟨u2,r4,HU⟩:=aF8 w1.sO (by simp only;omega) i.node;simp only[AA,r3.call,r4.call];refine⟨_,rfl,rfl,u2,?_,Bg.trans Bg⟩;have e:b.C1 nm={b with AR:=Gd i.node (Ds (D2 nm) CD b.AR)}:=by unfold BS.C1;rw[ha];simp only[h2,df,BO]
    rw[e];exact w1.Ig HU
   .simp only[h2,Jn] at ha;simp only[(aFT i.A0 i.name).Bk rfl rfl];rw[KQ,Cu];refine⟨λh3=>?_,λh3=>?_⟩
    .have h3':Gc i=true:=h3;rw[h3'] at ha;have e:b.C1 nm=b:=by unfold BS.C1;rw[ha];simp only[h2,C2,Ef]
     simp only[AA];exact⟨_,rfl,rfl,o,by rw[e];exact w,.refl⟩
    .have h3':Gc i=false:=h3;rw[h3'] at ha;simp only[AA,CK (show -9223372036854775808<=(n:Int)-1 by omega) (show(n:Int)-1<9223372036854775808 by omega)];exact AF.next n rfl ⟨by omega,ha,rfl⟩ (by omega)
 obtain⟨r,h',hr,rfl,o',w',x'⟩:=H5.ret;exact⟨h',o',hr,w',x'⟩
theorem aGW(w:BX h bi a o c t G b)(rm:BR b m){k:Nat}(hk:k<=b.AR.length):BI cx 204 [Pt bi 0,I (k:Int)] h (I (BS.IF (b.AR.take k))) h:=by
 have ho:=rm.AR;rw[Ab,nV,aBi];simp only[AA,CK (show -9223372036854775808<=(k:Int)-1 by omega) (show(k:Int)-1<9223372036854775808 by omega)];refine Bd (λn:Nat=>[I 0,I ((n:Int)-1)]) (λn h1=>n<=k/\((b.AR.take k).reverse.find? λi=>Bq [A6] i||Bq [Ex] i)=((b.AR.take n).reverse.find? λi=>Bq [A6] i||Bq [Ex] i)/\h1=h) (λn=>n) k rfl ⟨Ac _,rfl,rfl⟩ ?_;rintro n h1 ⟨hn,ha,rfl⟩;cases n with
 |zero=>simp only[AA,Bi,show¬(0:Int)<=((0:Nat):Int)-1 by omega];unfold BS.IF;rw[ha];rfl
 |succ n=>
  have hlt:n<b.AR.length:=by omega
  have i1:((n+1:Nat):Int)-1=(n:Int):=by omega
  have r1:=VH w.sA (n:Int);rw[Hj hlt] at r1;have em1:Aw (.By 1) [S A6]=some (.sl 1 ([A6].map CI)):=DE (ws:=[A6]) rfl (by decide);have sP:Aw (.By 1) [S Ex]=some (.sl 1 ([Ex].map CI)):=DE (ws:=[Ex]) rfl (by decide);have r2:=jD (ws:=[A6]) CS (by decide) b.AR[n] h1;have r3:=jD (ws:=[Ex]) CS (by decide) b.AR[n] h1;rw[Re hlt,I5] at ha;simp only[AA,Bi,i1,show(0:Int)<=(n:Int) by omega,r1.call,em1,r2.call,sP,r3.call,CK (show -9223372036854775808<=(n:Int)-1 by omega) (show(n:Int)-1<9223372036854775808 by omega)];rw[Cu];refine⟨λh2=>?_,λh2=>?_⟩;·simp only[h2,df] at ha;unfold BS.IF;rw[ha];simp only[h2,BO]
  .simp only[h2,Jn] at ha;rw[Cu];refine⟨λh3=>?_,λh3=>?_⟩;·rw[h3] at ha;unfold BS.IF;rw[ha];simp only[h2,C2,Ef]
   .rw[h3] at ha;exact AF.next n rfl ⟨by omega,ha,rfl⟩ (by omega)
def jF(r:As×Int):List Aa:=[.str r.1,I r.2]
theorem Zm{z:Nat}{Au:List (List Aa)}{args:List Aa}(e:args=Au.map Aa.agg)(hz:∀r∈Au,r.length=z)(hl:Au.length*z<=16777216):Aw (.By z) args=some (.sl z Au):=by
 subst e;have e1:(Au.map Aa.agg).all (λa=>a.cells.length==z)=true:=by simp[Aa.cells];exact hz
 have e2:(Au.map Aa.agg).map (·.cells)=Au:=by rw[List.map_map];exact List.map_id _
 rw[lK,e1,e2];simp[hl]
theorem bh{args:List Aa}(e:args=(Iy.map jF).map Aa.agg):Aw (.By 2) args=some (.sl 2 (Iy.map jF)):=Zm e (λr hr=>by obtain⟨x,_,rfl⟩:=Bl.1 hr;rfl) (by decide)
theorem aGX:BI cx 203 [] h (.sl 2 (Iy.map jF)) h:=by rw[Ab,nU,aBh];simp only[AA,Nat.reduceLeDiff,↓reduceIte,AK,Bi];exact(Cf (λz=>Xu z λv=>[v]=[Aa.sl 2 (Iy.map jF)]) (bh rfl)).mpr (by rw[Mk])
theorem O0{s:As}{i:Item}:Bq [s] i=decide (i.A0=1/\i.name=s):=by unfold Bq;simp
theorem sQ{i:Item}{k:Nat}:b.Gl i k=match Iy.find? λr=>Bq [r.1] i with
  |some r=>some r.2
  |none=>if Bq [J3] i then some (BS.IF (b.AR.take k)) else if Bq [xV,xW] i&&decide (0<k) then some 15 else if Bq [A6] i then some (b.tm.getLast?.getD 7) else if Bq [Py] i&&decide (0<k) then some 4 else if Bq [Dd] i then some (if b.head=0 then 3 else 6) else if k=0 then some 7 else none:=by
 unfold BS.Gl;by_cases hs:i.A0=1
 .rw[if_pos hs];have e:(λr:As×Int=>Bq [r.1] i)=λr=>decide (r.1=i.name):=by funext r;rw[O0,D4];exact⟨λh=>h.2.symm,λh=>⟨hs,h.symm⟩⟩
  rw[e];cases hf:Iy.find? λr=>decide (r.1=i.name) with
  |some r=>rfl
  |none=>simp only[Bq,hs,LZ,AP,List.not_mem_nil,or_false,BK,DK]
 .rw[if_neg hs];have e:(λr:As×Int=>Bq [r.1] i)=λ_=>false:=by funext r;rw[O0,AB (λh=>hs h.1)]
  rw[e];have e2:Iy.find? (λ_=>false)=none:=by decide
  rw[e2];simp only[Bq,hs,false_and,Fi,C2,Ef,Bool.false_and]
theorem aGY(w:BX h bi a o c t G b)(rm:BR b m)(i:Item){k:Nat}(hk:k<=b.AR.length):BI cx 122 [Pt bi 0,.agg i.row,I (k:Int)] h (.tuple [I ((b.Gl i k).getD 7),.bool (b.Gl i k).isSome]) h:=by
 have ho:=rm.AR;have wv:=rm.tm;have kR:AM 2 (Iy.map jF) (.sl 2 (Iy.map jF)):= .mk;have fi:=λws hw=>jD (ws:=ws) CS hw i h;rw[sQ,Ab,mI,aAF];have hlen:Iy.length=9:=rfl;have lv:=kR.Cp;rw[hlen] at lv;simp only[AA,↓reduceIte,EC,aGX.call,lv];refine Bd (λn:Nat=>[I 0,ff,I (n:Int)]) (λn h1=>n<=9/\(Iy.find? λr=>Bq [r.1] i)=((Iy.drop n).find? λr=>Bq [r.1] i)/\h1=h) (λn=>9 -n) 0 rfl ⟨AO _,rfl,rfl⟩ ?_;rintro n h1 ⟨hn,ha,rfl⟩;rcases AN n 9 with hlt|DT
 .have Ra:n<Iy.length:=hlt;have em:Aw (.By 1) [.str Iy[n].1]=some (.sl 1 ([Iy[n].1].map CI)):=DE (ws:=[Iy[n].1]) rfl (by simp);rw[AH Ra,I5] at ha;simp only[AA,Nat.reduceLeDiff,↓reduceIte,Bi,show(n:Int)<((9:Nat):Int) by omega,kR.BA Ra,jF,em,(fi [Iy[n].1] (by simp)).call,BB (show n<9223372036854775807 by omega)];rw[Cu];refine⟨λh2=>?_,λh2=>?_⟩;·rw[h2] at ha;rw[ha];simp
  .rw[h2] at ha;exact AF.next (n+1) rfl ⟨hlt,ha,rfl⟩ (by omega)
 .have h9:n=9:=by omega
  subst h9;have ha:(Iy.find? λr=>Bq [r.1] i)=none:=ha;rw[ha];have e1:Aw (.By 1) [S aTf]=some (.sl 1 ([J3].map CI)):=DE (ws:=[J3]) rfl (by decide);have e2:Aw (.By 1) [S [116,100],S [116,104]]=some (.sl 1 ([xV,xW].map CI)):=DE (ws:=[xV,xW]) rfl (by decide);have e3:Aw (.By 1) [S aSC]=some (.sl 1 ([A6].map CI)):=DE (ws:=[A6]) rfl (by decide);have e4:Aw (.By 1) [S aTm]=some (.sl 1 ([Py].map CI)):=DE (ws:=[Py]) rfl (by decide);have e5:Aw (.By 1) [S aSL]=some (.sl 1 ([Dd].map CI)):=DE (ws:=[Dd]) rfl (by decide);have q1:=fi [J3] (by decide);have q2:=fi [xV,xW] (by decide);have q3:=fi [A6] (by decide);have q4:=fi [Py] (by decide);have q5:=fi [Dd] (by decide);have rs:=aGW w rm hk;have lt:=(Df.Rc (h:=h1) w.t);have i9:¬((9:Nat):Int)<((9:Nat):Int):=by decide
  have l6:=w.l6;have yp:b.tm≠[]->∃p,Aw (.int .sub) [I (b.tm.length:Int),I 1]=some (I ((b.tm.length-1:Nat):Int))/\Aw (.EE 1) [t,I ((b.tm.length-1:Nat):Int)]=some p/\A9 h1 none p=some (I (b.tm.getLast?.getD 7)):=by intro hne;have hpos:=FW.2 hne;obtain⟨p,p1,p2⟩:=lt.at_ (b.tm.length-1) (by omega);refine⟨p,Ho hpos (by omega),p1,?_⟩;rw[p2,dQ,Ai (by omega)];rfl
  by_cases g1:Bq [J3] i=true;·rw[g1] at q1;simp only[AA,↓reduceIte,Bi,i9,e1,q1.call,rs.call,g1,Ih,Option.isSome_some]
  .have g1:Bq [J3] i=false:=by simpa using g1
   rw[g1] at q1;by_cases k0:0<k
   .have k1:¬k=0:=by omega
    have k2:¬(k:Int)=0:=by omega
    have k3:(0:Int)<(k:Int):=by omega
    cases g2:Bq [xV,xW] i<;>rw[g2] at q2;rotate_left;·simp only[AA,↓reduceIte,i9,e1,q1.call,e2,q2.call,k0,k3,g1,IZ]
    cases g3:Bq [A6] i<;>rw[g3] at q3;rotate_left
    .by_cases ht:b.tm=[];·simp only[AA,↓reduceIte,i9,e1,q1.call,e2,q2.call,e3,q3.call,k0,k3,g1,IZ,l6,lt.len,ht,Int.natCast_zero,Int.lt_irrefl,List.getLast?_nil]
     .obtain⟨p,p1,p2,p3⟩:=yp ht;have Fp:¬b.tm.length=0:=λe=>ht (tP.1 e);simp only[AA,↓reduceIte,i9,e1,q1.call,e2,q2.call,e3,q3.call,k0,k3,g1,IZ,l6,lt.len,show(0:Int)<(b.tm.length:Int) by omega,p1,p2,p3]
    cases g4:Bq [Py] i<;>rw[g4] at q4;rotate_left;·simp only[AA,↓reduceIte,i9,e1,q1.call,e2,q2.call,e3,q3.call,e4,q4.call,k0,k3,g1,IZ]
    all_goals cases g5:Bq [Dd] i<;>rw[g5] at q5
    all_goals first
     |simp only[AA,↓reduceIte,i9,e1,q1.call,e2,q2.call,e3,q3.call,e4,q4.call,e5,q5.call,k0,k1,k2,k3,g1,IZ];done
     |by_cases hh:b.head=0
      .simp only[AA,↓reduceIte,i9,e1,q1.call,e2,q2.call,e3,q3.call,e4,q4.call,e5,q5.call,k0,k2,k3,g1,IZ,w.l7,hh]
      .simp only[AA,↓reduceIte,i9,e1,q1.call,e2,q2.call,e3,q3.call,e4,q4.call,e5,q5.call,k0,k2,k3,g1,IZ,w.l7,hh]
   .have k1:k=0:=by omega
    subst k1;have k3:¬(0:Int)<((0:Nat):Int):=by decide
    have k2:((0:Nat):Int)=0:=rfl;by_cases g3:Bq [A6] i=true
    .rw[g3] at q3;cases g2:Bq [xV,xW] i<;>rw[g2] at q2<;>by_cases ht:b.tm=[];all_goals first
      |simp only[AA,↓reduceIte,i9,e1,q1.call,e2,q2.call,e3,q3.call,k2,g1,g3,IZ,l6,lt.len,ht,Int.lt_irrefl,List.getLast?_nil,Dg];done
      |obtain⟨p,p1,p2,p3⟩:=yp ht
       have Fp:¬b.tm.length=0:=λe=>ht (tP.1 e);simp only[AA,↓reduceIte,i9,e1,q1.call,e2,q2.call,e3,q3.call,k2,g1,g3,IZ,l6,lt.len,show(0:Int)<(b.tm.length:Int) by omega,p1,p2,p3,Dg]
    .have g3:Bq [A6] i=false:=by simpa using g3
     rw[g3] at q3;cases g2:Bq [xV,xW] i<;>rw[g2] at q2<;>cases g4:Bq [Py] i<;>rw[g4] at q4<;>cases g5:Bq [Dd] i<;>rw[g5] at q5<;>by_cases hh:b.head=0;all_goals simp only[AA,↓reduceIte,i9,e1,q1.call,e2,q2.call,e3,q3.call,e4,q4.call,e5,q5.call,k2,g1,g3,IZ,w.l7,hh,Dg]
end
section
variable{h h':Ag}{bi a:Nat}{o c t:Aa}{G G' F:Nat->Prop}{b:BS}{x:Int}{m:Nat}
variable{nm:As}{av:Aa}{l:List AU}{r:List Aa}{sp p:Int}
theorem BX.qv(w:BX h bi a o c t G b):A9 h (some 4) (Pt bi 10)=some (.agg b.ctx.row):=by simp only[A9,w.hb];rfl
theorem BX.cX(w:BX h bi a o c t G b)(v:Int):BX (Am.put h bi 4 (I v)) bi a o c t G {b with mode:=v}:=w.put rfl rfl w.o w.t
theorem BR.mode{v:Int}(rm:BR b m):BR {b with mode:=v} m:=⟨rm.n,rm.at_,rm.data,rm.AR,rm.A3,rm.tm,rm.Dj,rm.Wl⟩
theorem qw(w:BX h bi a o c t G b)(rm:BR b m):
  ∃h',BI cx 51 [Pt bi 0] h (.tuple []) h'/\BX h' bi a o c t G b.HP/\Dh h (own bi G) h' (own bi G):=by
 have ho:=rm.AR;have H5:Ev cx 51 [Pt bi 0] h λr h'=>r= .tuple []/\BX h' bi a o c t G b.HP/\Dh h (own bi G) h' (own bi G):=by
  unfold Ev;have w1:=w.cX 7;rw[yR,t51];simp only[AA,Bi,(Hs w).call,w.st (k:=4) (v:=I 7) rfl rfl,(Tx w1.sA).call,CK (show -9223372036854775808<=(b.AR.length:Int)-1 by omega) (show(b.AR.length:Int)-1<9223372036854775808 by omega)];refine Bd (λn:Nat=>[I ((n:Int)-1)]) (λn h1=>n<=b.AR.length/\b.Ky b.AR.length=b.Ky n/\h1=Am.put h bi 4 (I 7)) (λn=>n) b.AR.length rfl ⟨Ac _,rfl,rfl⟩ ?_;rintro n h1 ⟨hn,ha,rfl⟩;cases n with
  |zero=>
   have e:b.HP={b with mode:=7}:=by unfold BS.HP;rw[ha];rfl
   simp only[AA,Bi,show¬(0:Int)<=((0:Nat):Int)-1 by omega];exact⟨_,rfl,rfl,by rw[e];exact w1,Bg⟩
  |succ n=>
   have hlt:n<b.AR.length:=by omega
   have i1:((n+1:Nat):Int)-1=(n:Int):=by omega
   have r1:=VH w1.sA (n:Int);rw[show GB ({b with mode:=7}:BS).AR (n:Int)=b.AR[n] from Hj hlt] at r1;have r2:∀i:Item,BI cx 122 [Pt bi 0,.agg i.row,I (n:Int)] (Am.put h bi 4 (I 7)) (.tuple [I ((b.Gl i n).getD 7),.bool (b.Gl i n).isSome]) (Am.put h bi 4 (I 7)):=λi=>aGY w1 rm.mode i (k:=n) (by simp only;omega);have r3:=r2 (b.D6 n);have hst:∀v,Cd (Am.put h bi 4 (I 7)) 1 (Pt bi 4) (I v)=some (Am.put (Am.put h bi 4 (I 7)) bi 4 (I v)):=λv=>w1.st (k:=4) rfl rfl;have e:b.Ky (n+1)=match b.Gl (b.D6 n) n with|some m=>m|none=>b.Ky n:=rfl
   rw[e] at ha;have Ql:=w1.l9;have hlc:=w1.qv;have Me:=CK (show -9223372036854775808<=(n:Int)-1 by omega) (show(n:Int)-1<9223372036854775808 by omega);cases hm:b.Gl (b.D6 n) n with
   |none=>
    rw[hm] at r3 ha;by_cases h0:n=0
    .have Wz:((n:Int)=0)=True:=AW (by omega);cases hf:b.KL with
     |true=>
      have er:b.D6 n=b.ctx:=by unfold BS.D6;rw[if_pos ⟨h0,hf⟩]
      rw[er] at r3;rw[show({b with mode:=7}:BS).KL=true from hf] at Ql;simp only[AA,EC,i1,r1.call,Ql,hlc,r3.call,hst,IZ,show(0:Int)<=(n:Int) by omega,Wz,Me];exact AF.next n rfl ⟨by omega,ha,rfl⟩ (by omega)
     |false=>
      have er:b.D6 n=b.AR[n]:=by unfold BS.D6;rw[if_neg (by simp[hf]),AE,Ai hlt];rfl
      rw[er] at r3;rw[show({b with mode:=7}:BS).KL=false from hf] at Ql;simp only[AA,EC,i1,r1.call,Ql,hlc,r3.call,hst,IZ,show(0:Int)<=(n:Int) by omega,Wz,Me];exact AF.next n rfl ⟨by omega,ha,rfl⟩ (by omega)
    .have er:b.D6 n=b.AR[n]:=by unfold BS.D6;rw[if_neg (by simp[h0]),AE,Ai hlt];rfl
     rw[er] at r3;have Wz:¬(n:Int)=0:=by omega
     simp only[AA,EC,i1,r1.call,r3.call,hst,IZ,show(0:Int)<=(n:Int) by omega,Wz,Me];exact AF.next n rfl ⟨by omega,ha,rfl⟩ (by omega)
   |some v=>
    rw[hm] at r3 ha;have e:b.HP={b with mode:=v}:=by unfold BS.HP;rw[ha]
    have w2:BX (Am.put (Am.put h bi 4 (I 7)) bi 4 (I v)) bi a o c t G b.HP:=by rw[e];exact w1.cX v
    by_cases h0:n=0
    .have Wz:((n:Int)=0)=True:=AW (by omega);cases hf:b.KL with
     |true=>
      have er:b.D6 n=b.ctx:=by unfold BS.D6;rw[if_pos ⟨h0,hf⟩]
      rw[er] at r3;rw[show({b with mode:=7}:BS).KL=true from hf] at Ql;simp only[AA,EC,i1,r1.call,Ql,hlc,r3.call,hst,IZ,show(0:Int)<=(n:Int) by omega,Wz];exact⟨_,rfl,rfl,w2,Bg.trans Bg⟩
     |false=>
      have er:b.D6 n=b.AR[n]:=by unfold BS.D6;rw[if_neg (by simp[hf]),AE,Ai hlt];rfl
      rw[er] at r3;rw[show({b with mode:=7}:BS).KL=false from hf] at Ql;simp only[AA,EC,i1,r1.call,Ql,hlc,r3.call,hst,IZ,show(0:Int)<=(n:Int) by omega,Wz];exact⟨_,rfl,rfl,w2,Bg.trans Bg⟩
    .have er:b.D6 n=b.AR[n]:=by unfold BS.D6;rw[if_neg (by simp[h0]),AE,Ai hlt];rfl
     rw[er] at r3;have Wz:¬(n:Int)=0:=by omega
     simp only[AA,EC,i1,r1.call,r3.call,hst,IZ,show(0:Int)<=(n:Int) by omega,Wz];exact⟨_,rfl,rfl,w2,Bg.trans Bg⟩
 obtain⟨r,h',hr,rfl,w',x'⟩:=H5.ret;exact⟨h',hr,w',x'⟩
theorem sR{h0 u:Ag}{V:Aa}{L:List AU}{N:Nat}(hN:N=h0.length)(hV:If (h0++u) V L)(hU:Up N V)(hb:L.length<=1000000000)(y:AU):
  ∃u' V',Fl (h0++u) 3 40 V (.sl 3 [y.row])=some (h0++u',V')/\If (h0++u') V' (L++[y])/\Up N V':=by
 subst hN;have ZJ:AT=140737488355328:=rfl;rcases hV with⟨rfl,rfl⟩|⟨id,rfl,hc,hl⟩
 .refine⟨u++[.cells (([y]:List AU).map AU.row).flatten],.Ck (h0++u).length 0 1 3,by rw[<-Ax];rfl,.inr ⟨(h0++u).length,rfl,by simp,by simp⟩,λid k e=>by injection e with e;rw[<-e,Ao];omega⟩
 .have Ha:h0.length<=id:=hU id _ rfl;have hg:=IJ (b:=40) (Au:=L.map AU.row) (r2:=[y.row]) (v:= .sl 3 [y.row]) (ah L) (by decide) hc .mk (by simp) (by rw[Ah];simp;omega);rw[Ah] at hg;have e:(h0++u).set id .CH++[.cells (L.map AU.row++[y.row]).flatten]=h0++(u.set (id-h0.length) .CH++[.cells ((L++[y]).map AU.row).flatten]):=by rw[BP _ _ Ha,Ax,BE];rfl
  rw[e] at hg;have Xr:(h0++(u.set (id-h0.length) C6.CH++[.cells ((L++[y]).map AU.row).flatten]))=(h0++u.set (id-h0.length) C6.CH)++[.cells ((L++[y]).map AU.row).flatten]:=by rw[Ax]
  have ZH:(h0++u.set (id-h0.length) C6.CH).length=(h0++u).length:=by simp
  refine⟨_,_,hg,.inr ⟨(h0++u).length,by simp,?_,?_⟩,λid k e=>by injection e with e;rw[<-e,Ao];omega⟩;·rw[Xr,<-ZH,A5 (Ac _),CY];rfl
  .rw[Xr];simp only[Ao,Be,Bf,BU];omega
theorem aGZ(y c:AU)(h:Ag):BI cx 149 [.agg c.row,.CB y.row] h (.bool (decide (Da ⟨0,y.name,y.value⟩=Da c))) h:=by
 rw[Ab,la,aEQ,AU.row,AU.row];simp only[AA];refine⟨λh1=>?_,λh1=>?_⟩;·congr 2;rw[D4];simp[Da,h1];exact eq_comm
 .rw[AB (λe=>h1 (by simp[Da] at e;exact e.1.symm))]
theorem AU.XQ{y:AU}:(⟨0,y.name,y.value⟩:AU).row=[I 0,.str y.name,.str y.value]:=rfl
theorem Sj(k:Int×As):∀{l out:List AU},(GD out l).any (λz=>decide (k=Da z))=(out++l).any λz=>decide (k=Da z)
 |[],out=>by simp[GD]
 |y::l,out=>by
  rw[GD];split
  .rename_i h;rw[Sj k,List.any_append,List.any_append,List.any_cons];by_cases hk:k=Da y;·subst hk;rw[h];rfl
   .simp[hk]
  .rw[Sj k,Ax];rfl
theorem bj(k:Int×As)(l:List AU):(Cg l).any (λz=>decide (k=Da z))=l.any λz=>decide (k=Da z):=Sj k
theorem O1{l:List AU}{y:AU}:Cg (l++[y])=if(Cg l).any (λz=>decide (Da y=Da z)) then Cg l else Cg l++[y]:=VN
theorem aLH(w:BX h bi a o c t G b)(ok:DG b)(rm:BR b (m+1000))(hr:Na nm av r)(hv:Bz l av)(hl:DH l)(x:Int):
  ∃h' G',BI cx 64 [Pt bi 0,.agg r,I x] h (.tuple []) h'/\BX h' bi a o c t G' (b.GF l x)/\Dh h (own bi G) h' (own bi G'):=by
 obtain⟨K1,V1,u1,r1,_,_⟩:=TE w ok rm x;have w1:=w.HB (u:=u1);obtain⟨c0,c2,c3,c4,c5,c6,c7,c9,Tq,U1,rfl⟩:=hr;have x1:Dh h (own bi G) (h++u1) (own bi G):=w.CP;by_cases hk:(b.a.nd x).kind=4;rotate_left;·refine⟨h++u1,G,?_,by unfold BS.GF;rw[if_neg hk];exact w1,x1⟩;rw[Ab,yX,t64];simp only[AA,↓reduceIte,Bi,(Hs w).call,r1.call,ne_eq,hk]
 obtain⟨K2,V2,u2,r2,_,hV,hU⟩:=TE w1 ok rm x;have w2:=w1.HB (u:=u2);have x2:Dh h (own bi G) (h++u1++u2) (own bi G):=x1.trans w1.CP;have hx:b.a.has x:=by
  by_cases hp:b.a.has x;·exact hp
  .rw[GN hp] at hk;simp at hk
 have hal:=rm.at_ x;have eQ:=hl.1;have H5:Ev cx 64 [Pt bi 0,.agg [c0,.str nm,c2,c3,c4,c5,c6,c7,av,c9,Tq,U1],I x] h λr h'=>r= .tuple []/\∃G',BX h' bi a o c t G' (b.GF l x)/\Dh h (own bi G) h' (own bi G'):=by
  unfold Ev;rw[yX,t64];have hvl:=AM.Cp hv;simp only[AA,↓reduceIte,Bi,(Hs w).call,r1.call,r2.call,ne_eq,hk,hvl];refine Bd (λs:Aa×Nat=>[s.1,I (s.2:Int)]) (λs h1=>∃u L,h1=h++u1++u/\s.2<=l.length/\If h1 s.1 L/\Up (h++u1).length s.1/\Cg L=Cg ((b.a.nd x).Ay++BS.plain (l.take s.2))/\(∀y∈L,BS.Hq y.A0)/\L.length<=(b.a.nd x).Ay.length+s.2) (λs=>l.length-s.2) (V2,0) rfl ⟨u2,(b.a.nd x).Ay,rfl,AO _,hV,hU,?_,?_,by simp⟩ ?_;·simp[BS.plain]
  .exact λy hy=>(ok.ok.Q2 x hx).dn y hy
  rintro⟨V,n⟩ h1 ⟨u,L,rfl,hn,hV,hU,hL,hs,DY⟩;simp only at hn hV hU hL DY;rcases AN n l.length with hlt|DT
  .have e2:=AM.BA (k:= .i64) hv hlt;rw[AU.row] at e2;have r3:=we hV.in_ (by omega) (F:= .func (.func 149) [] [.CB l[n].row]) (q:=λc=>decide (Da ⟨0,l[n].name,l[n].value⟩=Da c)) ⟨_,_,rfl,by decide,λc=>aGZ l[n] c _⟩;rw[AU.row] at r3;obtain⟨u',V',g1,g2,g3⟩:=sR (N:=(h++u1).length) rfl hV hU (by omega) ⟨0,l[n].name,l[n].value⟩;rw[AU.XQ] at g1;have em:Aw (.By 3) [.agg [I 0,.str l[n].name,.str l[n].value]]=some (.sl 3 [[I 0,.str l[n].name,.str l[n].value]]):=rfl;have e1:Cg ((b.a.nd x).Ay++BS.plain (l.take (n+1)))=Cg (L++[⟨0,l[n].name,l[n].value⟩]):=by rw[Av hlt,BS.plain,BE,<-Ax,List.map_singleton,O1,O1,hL];rfl
   have e3:Cg (L++[⟨0,l[n].name,l[n].value⟩])=if L.any (λz=>decide (Da ⟨0,l[n].name,l[n].value⟩=Da z)) then Cg L else Cg L++[⟨0,l[n].name,l[n].value⟩]:=by rw[O1,bj]
   simp only[AA,Nat.reduceLeDiff,↓reduceIte,AK,Bi,show(n:Int)<(l.length:Int) by omega,e2,r3.call,em,g1,BB (show n<9223372036854775807 by omega)];rw[Cu];refine⟨λh2=>?_,λh2=>?_⟩
   .refine AF.next (V',n+1) rfl ⟨u',_,rfl,hlt,g2,g3,e1.symm,?_,by simp;omega⟩ (by simp only;omega);intro y hy;rcases Ap.1 hy with hy|hy
    .exact hs y hy
    .simp at hy;subst hy;exact⟨by simp only;omega,by simp only;omega⟩
   .have h2:(L.any λz=>decide (Da ⟨0,l[n].name,l[n].value⟩=Da z))=true:=by simpa using h2
    rw[if_pos h2] at e3;exact AF.next (V,n+1) rfl ⟨u,L,rfl,hlt,hV,hU,by rw[e1,e3],hs,by simp only;omega⟩ (by simp only;omega)
  .have Nx:n=l.length:=by omega
   subst Nx;rw[Bu] at hL;simp only[AA,↓reduceIte,Bi,show¬(l.length:Int)<(l.length:Int) by omega,(w1.HB (u:=u)).l0];obtain⟨h3,G3,r3,w3,x3⟩:=(w1.HB (u:=u)).step (A':=b.a.Iv x L) (R:=λh3=>BI cx 150 [Pt a 0,I x,V] (h++u1++u) (I 0) h3) λn m ps wa=>by obtain⟨h',IB,f1,f2,f3⟩:=aGn wa rm.Wm hx hk hV.in_ (by omega) hs;exact⟨h',n,m,IB,f1,f2,f3⟩
   have e:b.GF l x={b with a:=b.a.Iv x L}:=by unfold BS.GF;rw[if_pos hk];unfold Ar.Iv;rw[hL]
   simp only[AA,r3.call];refine⟨_,rfl,rfl,G3,?_,?_⟩;·rw[e];exact w3
   .exact(x1.trans w1.CP).trans x3
 obtain⟨r,h',hr,rfl,G',w',x'⟩:=H5.ret;exact⟨h',G',hr,w',x'⟩
end
section
variable{h h':Ag}{bi a:Nat}{o c t:Aa}{G G' F:Nat->Prop}{b b':BS}{x:Int}{m:Nat}
variable{nm:As}{av:Aa}{l:List AU}{r:List Aa}{sp p:Int}
theorem BR.sub(rm:BR b m)(ha:b'.a=b.a)(ho:b'.AR.Sublist b.AR)(hc:b'.A3.Sublist b.A3)(ht:b'.tm.length<=b.tm.length):BR b' m:=
 ⟨by rw[ha];exact rm.n,by rw[ha];exact rm.at_,by rw[ha];exact rm.data,by have:=rm.AR;have:=ho.length_le;omega,by have:=rm.A3;have:=hc.length_le;omega,by have:=rm.tm;omega,λe he=>rm.Dj e (hc.subset he),λi hi=>rm.Wl i (ho.subset hi)⟩
theorem aG0{v:Aa}{l:List Int}(hv:Df l v)(hb:l.length<=1000000000)(h:Ag):∃u,BI cx 53 [v] h u h/\Df l u:=by
 have Du:AM 1 (l.map B6) v:=hv;have hm:AT=140737488355328:=rfl;obtain⟨u,e,hu⟩:=AM.YE (l:=([]:List Int)) (f:=B6) (v:= .sl 1 []) (b:=8) .mk Du (by simp;omega);rcases Du with rfl|⟨rfl,h0⟩
 .refine⟨u,?_,hu⟩;rw[Ab,iR,t53];simp only[AA,show Aw (.Gp false .sl) [.sl 1 (l.map B6),.slnil]=some (.bool false) from rfl,show Aw (.By 1) []=some (.sl 1 []) from rfl,e]
 .refine⟨.slnil,?_,.inr ⟨rfl,h0⟩⟩;rw[Ab,iR,t53];simp only[AA,show Aw (.Gp false .sl) [.slnil,.slnil]=some (.bool true) from rfl]
theorem BX.jG{u:Aa}{l:List Int}(w:BX h bi a o c t G b)(hu:Df l u):BX (Am.put h bi 6 u) bi a o c u G {b with tm:=l}:=w.put rfl rfl w.o hu
theorem cY:Aw (.By 1) [S aSC]=some (.sl 1 ([A6].map CI)):=DE (ws:=[A6]) rfl (by decide)
theorem aLI(w:BX h bi a o c t G b)(hc:BN b.A3 c)(rm:BR b m):
  ∃h' o' c' t',BI cx 65 [Pt bi 0] h (.tuple []) h'/\BX h' bi a o' c' t' G b.C8/\BN b.C8.A3 c'/\Dh h (own bi G) h' (own bi G):=by
 have ho:=rm.AR;have Q8:=rm.A3;have wv:=rm.tm;have r1:=aBQ w.sA (by omega) A6;by_cases Fh:AL (Bq [A6]) b.AR<0;·refine⟨h,o,c,t,?_,by unfold BS.C8;rw[if_pos Fh];exact w,by unfold BS.C8;rw[if_pos Fh];exact hc,.refl⟩;rw[Ab,iT,t65];simp only[AA,Bi,(Hs w).call,r1.call,Fh]
 obtain⟨u1,r2,Ny⟩:=aKU w.sO (by omega);have w1:=w.Ig Ny;have l1:(Ds Cs CD b.AR).length<=b.AR.length:=OQ;obtain⟨u2,r3,HU⟩:=f66 w1.sO (by simp only;omega) (CS (ws:=[A6])) (by decide);have w2:=w1.Ig HU;obtain⟨fs,F0,hcs⟩:=hc;have Gv:fs.length=b.A3.length:=by rw[<-F0,Ah]
 obtain⟨u3,r4,qx⟩:=f65 (show RY _ bi 3 fs from⟨c,w2.pC,hcs⟩) (by omega);have w3:=w2.Ki (u:=u3) (l:=FD b.A3);have L2:BN (FD b.A3) u3:=⟨_,by rw[T9,F0],qx⟩;have lt:=AM.Cp w.t;have l6:=w3.l6;have e:b.C8=BS.HP {b with AR:=Ds CD (Bq [A6]) (Ds Cs CD b.AR),A3:=FD b.A3,tm:=b.tm.dropLast}:=by unfold BS.C8;rw[if_neg Fh]
 have sO:(Ds CD (Bq [A6]) (Ds Cs CD b.AR)).Sublist b.AR:=(EH (p:=CD) (q:=Bq [A6]) (l:=Ds Cs CD b.AR)).trans EH;have x3:Dh h (own bi G) (put (put (put h bi 2 u1) bi 2 u2) bi 3 u3) (own bi G):=(Bg.trans Bg).trans Bg;by_cases h0:b.tm=[]
 .have w3':BX (put (put (put h bi 2 u1) bi 2 u2) bi 3 u3) bi a u2 u3 t G {b with AR:=Ds CD (Bq [A6]) (Ds Cs CD b.AR),A3:=FD b.A3,tm:=b.tm.dropLast}:=by
   have:b.tm.dropLast=b.tm:=by rw[h0];rfl
   rw[this];exact w3
  obtain⟨h4,r5,w4,x4⟩:=qw w3' (rm.sub (b':={b with AR:=Ds CD (Bq [A6]) (Ds Cs CD b.AR),A3:=FD b.A3,tm:=b.tm.dropLast}) rfl sO (EZ _ _) (by simp));refine⟨h4,u2,u3,t,?_,by rw[e];exact w4,by rw[e];exact L2,x3.trans x4⟩;have lt0:Aw (.len false) [t]=some (I 0):=by rw[lt,h0];rfl
  rw[Ab,iT,t65];simp only[AA,Bi,(Hs w).call,r1.call,Fh,r2.call,cY,r3.call,r4.call,l6,lt0,r5.call,IZ]
 .have hpos:=FW.2 h0;obtain⟨u4,e4,hu4⟩:=AM.Lc w.t (k:= .i64) (n:=b.tm.length-1) (by omega);rw[<-List.dropLast_eq_take] at hu4;obtain⟨u5,r5,hu5⟩:=aG0 hu4 (by simp;omega) (put (put (put h bi 2 u1) bi 2 u2) bi 3 u3);have w4:=w3.jG hu5;obtain⟨h5,r6,w5,x5⟩:=qw w4 (rm.sub (b':={b with AR:=Ds CD (Bq [A6]) (Ds Cs CD b.AR),A3:=FD b.A3,tm:=b.tm.dropLast}) rfl sO (EZ _ _) (by simp));refine⟨h5,u2,u3,u5,?_,by rw[e];exact w5,by rw[e];exact L2,(x3.trans Bg).trans x5⟩;rw[Ab,iT,t65];simp only[AA,Bi,(Hs w).call,r1.call,Fh,r2.call,cY,r3.call,r4.call,l6,lt,show(0:Int)<(b.tm.length:Int) by omega,Ho hpos (show b.tm.length<9223372036854775807 by omega),e4,r5.call,w3.st (k:=6) (v0:=t) rfl (AM.cells hu5),r6.call,IZ]
theorem aLK(w:BX h bi a o c t G b):∃h',BI cx 66 [Pt bi 0] h (.tuple []) h'/\BX h' bi a o c t G {b with stop:=true}/\Dh h (own bi G) h' (own bi G):=by refine⟨_,?_,w.put (k:=19) (v:= .bool true) rfl rfl w.o w.t,Bg⟩;rw[Ab,aAn,t66];simp only[AA,(Hs w).call,w.st (k:=19) (v:=tt) rfl rfl]
theorem aG4(w:BX h bi a o c t G b)(rm:BR b m):∃h' o',BI cx 68 [Pt bi 2] h (.agg b.gZ.row) h'/\BX h' bi a o' c t G b.Qa/\Dh h (own bi G) h' (own bi G):=by
 have ho:=rm.AR;have ld:A9 h none (Pt bi 2)=some o:=w.ld 2;have lo:=AM.Cp w.o;unfold BS.Qa BS.gZ;by_cases h2:b.AR.length<2;·refine⟨h,o,?_,by rw[if_pos h2];exact w,.refl⟩;rw[if_pos h2,Ab,YU,t68];simp only[AA,↓reduceIte,AK,Bi,(Tx w.sA).call,show(b.AR.length:Int)<2 by omega];rfl
 .obtain⟨u,e,hu⟩:=AM.Lc w.o (k:= .i64) (n:=b.AR.length-1) (by omega);refine⟨_,u,?_,by rw[if_neg h2];exact w.Ig hu,Bg⟩;rw[if_neg h2,Ab,YU,t68];simp only[AA,↓reduceIte,AK,Bi,EC,(Tx w.sA).call,show¬(b.AR.length:Int)<2 by omega,(f39 w.sA (by omega)).call,ld,lo,Ho (show 0<b.AR.length by omega) (show b.AR.length<9223372036854775807 by omega),e,w.st (k:=2) (v0:=o) rfl (AM.cells hu)]
end
end Go.Am
end
