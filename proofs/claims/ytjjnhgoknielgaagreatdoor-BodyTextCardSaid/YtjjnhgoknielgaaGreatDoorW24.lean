/- Lemmas -/
import Derived.Test.YtjjnhgoknielgaaGreatDoorW23
set_option linter.all false
set_option maxHeartbeats 0
set_option maxRecDepth 100000
section
namespace Go.Am
open Go
section
variable{h h':Ai}{a n:Nat}{m:Option Nat}{ps:List PN}{A:Ar}{x:Int}{F:Nat->Prop}
def qF{p:PN}(w:PA h a n m ps A)(hx:A.has x){i:Nat}(hi:i∈Gm a n m (ps.set (x.toNat-1) p)):i∈Gm a n m ps\/Ip p.kv=some i:=by
 obtain⟨c,b⟩:=Ze w hx p;unfold Gm at hi⊢;rw[b,E1] at hi;simp only[AF,Ao,Cs] at hi⊢;rcases hi with h1|h1|h1|⟨q,h1,h2⟩|⟨q,h1,h2⟩
 .exact .inl (.inl h1)
 .exact .inl (.inr (.inl h1))
 .exact .inl (.inr (.inr (.inl h1)))
 .exact .inl (.inr (.inr (.inr ⟨q,A9 h1,h2⟩)))
 .rcases h1 with rfl|h1
  .exact .inr h2
  .exact .inl (.inr (.inr (.inr ⟨q,A6 h1,h2⟩)))
def Ģ{kv:Ab}{l:List Int}{k:Nat}(hk:KV h kv l)(XX:k<=l.length)(hb:l.length<=1000000000)(y:Int):
  ∃h1,Ey .oz h [kv,I (k:Int),.sl 1 [[I y]]]=some (h1,.Du h.length 0 (l.length+1) 1)/\h1[h.length]?=some (.cells ((l.take k++y::l.drop k).map (Ab.int .i64)))/\(∀i,i<h.length->Ip kv≠some i->h1[i]?=h[i]?)/\h1.length=h.length+1:=by
 rcases hk with⟨rfl,rfl⟩|⟨id,cs,rfl,hc⟩
 .have:k=0:=by simpa using XX
  subst this;exact⟨h++[.cells [I y]],rfl,AB,λi hi _=>Al hi,AB⟩
 .have JB:=(Aj.1 hc).1;refine⟨h.set id .Ef++[.cells ((l.take k++y::l.drop k).map (Ab.int .i64))],?_,by rw[Bu AB];simp,λi hi hn=>?_,AB⟩
  .simp only[Ey,Rq,hc];rw[Ae (by have:AY=140737488355328:=rfl;simp;omega)];simp only[BH];have c:(l.map (Ab.int .i64)++cs).take k=(l.take k).map (Ab.int .i64):=by rw[Bk (by simpa using XX),HN]
   have b:(l.map (Ab.int .i64)++cs).take l.length=l.map (Ab.int .i64):=Kc AB;rw[c,b];simp
  .rw[Al (by simpa using hi),Aq];intro e;exact hn (by rw[e];rfl)
def RN{p b:Int}(hf:¬sy A p x b):A.F9 p x b=A:=by unfold Ar.F9;rw[Aa hf]
def ģ{l:List Int}{b y:Int}{k:Nat}(hb:b=0->k=l.length)(h2:b≠0->l.takeWhile (λy=>decide (y≠b))=l.take k/\l.dropWhile (λy=>decide (y≠b))=l.drop k):I1 l b y=l.take k++y::l.drop k:=by
 unfold I1;by_cases h0:b=0;.rw[Ae h0,hb h0];simp
 .rw[Aa h0,(h2 h0).1,(h2 h0).2]
open Classical in
def aDs{e p b:Int}(w:PA h a n m ps A)(d:NN A)(ok:Eo A e):
  ∃er h' PV,CD cx 66 [Pt a 0,I p,I x,I b] h (I er) h'/\PA h' a n m PV (A.F9 p x b)/\FC h (λi=>i∈Gm a n m ps) h' (λi=>i∈Gm a n m PV):=by
 by_cases xz:A.has p/\A.has x;rotate_left;.refine⟨3,h,ps,?_,by rw[RN (λf=>xz ⟨f.hp,f.hn⟩)];exact w,.refl⟩;rw[Ag,Q2,t66];simp only[abS,Gb,(MG (x:=p) (y:=x) w).Af,Aa xz,CP,(Az:¬(3:Int)=0)]
 obtain⟨hp,hx⟩:=xz;by_cases hb:b≠0/\¬A.has b;.refine⟨3,h,ps,?_,by rw[RN (λf=>hb.2 (f.hb hb.1).1)];exact w,.refl⟩;rw[Ag,Q2,t66];simp only[abS,Gb,(MG (x:=p) (y:=x) w).Af,Ae (And.intro hp hx),CP,CG,hb.1,(WH (x:=b) w).Af,Ap hb.2,FE]
 have Tz:b=0\/(b≠0/\A.has b):=by
  by_cases h0:b=0;.exact .inl h0
  .refine .inr ⟨h0,?_⟩;by_cases h1:A.has b;.exact h1
   .exact absurd ⟨h0,h1⟩ hb
 by_cases kp:MO (A.nd p).kind;rotate_left
 .refine⟨4,h,ps,?_,by rw[RN (λf=>kp f.kp)];exact w,.refl⟩;unfold MO at kp;have c:¬(A.nd p).kind=1:=λe=>kp (.inl e);have t:¬(A.nd p).kind=2:=λe=>kp (.inr (.inl e));have H:¬(A.nd p).kind=4:=λe=>kp (.inr (.inr e));rw[Ag,Q2,t66];rcases Tz with h0|⟨h0,Qq⟩
  .simp only[abS,Gb,(MG (x:=p) (y:=x) w).Af,Ae (And.intro hp hx),CP,CG,(Jo w d hp).Af,(Jo w d hx).Af,w.f0 hp,w.f0 hx,c,FE,h0,t,H]
  .simp only[abS,Gb,(MG (x:=p) (y:=x) w).Af,Ae (And.intro hp hx),CP,CG,(Jo w d hp).Af,(Jo w d hx).Af,w.f0 hp,w.f0 hx,c,FE,h0,(WH (x:=b) w).Af,Ak Qq,t,H]
 by_cases kn:(A.nd x).kind=1\/(A.nd x).kind=2
 .refine⟨4,h,ps,?_,by rw[RN (λf=>by have:=f.kn;omega)];exact w,.refl⟩;rw[Ag,Q2,t66];rcases kp with c|c|c<;>rcases kn with t|t<;>rcases Tz with h0|⟨h0,Qq⟩
  all_goals first|(simp only[abS,Gb,(MG (x:=p) (y:=x) w).Af,Ae (And.intro hp hx),CP,CG,(Jo w d hp).Af,(Jo w d hx).Af,w.f0 hp,w.f0 hx,c,(Az:¬(2:Int)=1),(Az:¬(4:Int)=1),(Az:¬(4:Int)=2),FE,h0,t];done)|simp only[abS,Gb,(MG (x:=p) (y:=x) w).Af,Ae (And.intro hp hx),CP,CG,(Jo w d hp).Af,(Jo w d hx).Af,w.f0 hp,w.f0 hx,c,(Az:¬(2:Int)=1),(Az:¬(4:Int)=1),(Az:¬(4:Int)=2),FE,h0,(WH (x:=b) w).Af,Ak Qq,t]
 have l:¬(A.nd x).kind=1:=λe=>kn (.inl e);have g:¬(A.nd x).kind=2:=λe=>kn (.inr e);have r:=aKz w ok hx hp;by_cases re:Reach A x p
 .refine⟨4,h,ps,?_,by rw[RN (λf=>f.re re)];exact w,.refl⟩;rw[Ak re] at r;rw[Ag,Q2,t66];rcases kp with c|c|c<;>rcases Tz with h0|⟨h0,Qq⟩
  all_goals first|(simp only[abS,Gb,(MG (x:=p) (y:=x) w).Af,Ae (And.intro hp hx),CP,CG,(Jo w d hp).Af,(Jo w d hx).Af,w.f0 hp,w.f0 hx,c,(Az:¬(2:Int)=1),(Az:¬(4:Int)=1),(Az:¬(4:Int)=2),FE,h0,l,g,r.Af];done)|simp only[abS,Gb,(MG (x:=p) (y:=x) w).Af,Ae (And.intro hp hx),CP,CG,(Jo w d hp).Af,(Jo w d hx).Af,w.f0 hp,w.f0 hx,c,(Az:¬(2:Int)=1),(Az:¬(4:Int)=1),(Az:¬(4:Int)=2),FE,h0,(WH (x:=b) w).Af,Ak Qq,l,g,r.Af]
 rw[Ap re] at r;by_cases q:b≠0/\(b=x\/(A.nd b).GO≠p)
 .refine⟨5,h,ps,?_,by rw[RN (λf=>by have:=f.hb q.1;rcases q.2 with h|h;exact this.2.1 h;exact h this.2.2)];exact w,.refl⟩;obtain⟨h0,q⟩:=q;have Qq:=(Tz.resolve_left h0).2;rw[Ag,Q2,t66];by_cases o:b=x;.have aVf:=o;rcases kp with c|c|c<;>simp only[abS,Gb,(MG (x:=p) (y:=x) w).Af,Ae (And.intro hp hx),CP,CG,(Jo w d hp).Af,(Jo w d hx).Af,w.f0 hp,w.f0 hx,c,(Az:¬(2:Int)=1),(Az:¬(4:Int)=1),(Az:¬(4:Int)=2),FE,l,g,r.Af,o,show¬x=0 from o▸h0,Ak hx,(WH (x:=x) w).Af]
  .have q:=q.resolve_left o;rcases kp with c|c|c<;>simp only[abS,Gb,(MG (x:=p) (y:=x) w).Af,Ae (And.intro hp hx),CP,CG,(Jo w d hp).Af,(Jo w d hx).Af,w.f0 hp,w.f0 hx,c,(Az:¬(2:Int)=1),(Az:¬(4:Int)=1),(Az:¬(4:Int)=2),FE,h0,(WH (x:=b) w).Af,Ak Qq,l,g,r.Af,o,(Jo w d Qq).Af,w.f1 Qq,q]
 have fits:sy A p x b:=⟨hp,hx,λh0=>⟨(Tz.resolve_left h0).2,λe=>q ⟨h0,.inl e⟩,by
  by_cases h1:(A.nd b).GO=p;.exact h1
  .exact absurd ⟨h0,.inr h1⟩ q⟩,kp,⟨l,g⟩,re⟩
 have Z:A.F9 p x b=(A.cut x).Mw p x b:=by unfold Ar.F9;rw[Ae fits]
 obtain⟨h1,bB,Q,w1,U⟩:=aDq w d ok hx;have RO:=iM ok hx g;have K:=d.cut (x:=x);have wI:(A.cut x).has p:=KT.2 hp;have UU:(A.cut x).has x:=KT.2 hx;have L:x≠p:=by rintro rfl;exact re .refl
 have D:=K.Bi RO p;obtain⟨k,XX,C,aAp⟩:∃k,k<=((A.cut x).nd p).Bi.length/\(b=0->k=((A.cut x).nd p).Bi.length)/\(b≠0->Ct (λy=>decide (b=y)) 0 ((A.cut x).nd p).Bi=(k:Int)/\((A.cut x).nd p).Bi.takeWhile (λy=>decide (y≠b))=((A.cut x).nd p).Bi.take k/\((A.cut x).nd p).Bi.dropWhile (λy=>decide (y≠b))=((A.cut x).nd p).Bi.drop k):=by
  by_cases h0:b=0;.exact⟨_,Ad _,λ_=>rfl,λh=>absurd h0 h⟩
  .have u:=fits.hb h0;have aKH:((A.cut x).nd b).GO=p:=by
    rw[QX ok hx,Aa u.2.1];split;.exact u.2.2
    .exact u.2.2
   have aBI:b∈((A.cut x).nd p).Bi:=by have:=(RO.GO b (KT.2 u.1) (by rw[aKH];have:=hp.1;omega)).2;rwa [aKH] at this
   obtain⟨k,c,t,_,H,X⟩:=kJ aBI;exact⟨k,Ac,λh=>absurd h h0,λ_=>⟨t,H,X⟩⟩
 have RT:=ģ (y:=x) C λh=>(aAp h).2;have Ok:=w1.Ok wI;obtain⟨h2,N,Mx,y5,uB⟩:=Ģ Ok XX D x;have M:=(w1.pn wI).2.1;obtain⟨s,Ĥ⟩:∃s:PN,s=⟨{(A.cut x).nd p with Bi:=I1 ((A.cut x).nd p).Bi b x},.Du h1.length 0 (((A.cut x).nd p).Bi.length+1) 1,(pN bB p).av,w1.att wI⟩:=⟨_,rfl⟩;have B:s.x={(A.cut x).nd p with Bi:=I1 ((A.cut x).nd p).Bi b x}:=by rw[Ĥ]
 have hrow:s.row=(pN bB p).row.set 2 (.Du h1.length 0 (((A.cut x).nd p).Bi.length+1) 1):=by rw[Ĥ];simp only[PN.row];rw[M];rfl
 have aKI:n∈Gm a n m bB:=by simp[Gm]
 have Y_:Ip (pN bB p).kv≠some n:=by intro G;have:=w1.nd;unfold Gm at this;simp only[Ca,AF,P5] at this;exact this.2.1 (Ao.2 (.inr (Cs.2 ⟨_,(w1.pn wI).2.2,G⟩)))
 have J:=w1.sto wI (k:=2) Az (v:= .Du h1.length 0 (((A.cut x).nd p).Bi.length+1) 1) rfl hrow (y5 n (w1.lt n aKI) Y_);have hlen:(I1 ((A.cut x).nd p).Bi b x).length=((A.cut x).nd p).Bi.length+1:=by rw[RT,An,AJ,Ax,A4];omega
 have z:=w1.xd wI (p:=s) (h1:=h2) (λi hi hn=>y5 i (w1.lt i hi) hn) (by rw[Ĥ];refine .inr ⟨h1.length,[],by simp only[hlen],?_⟩;simp only[RT,A8];exact Mx) (.inr λj hj=>by rw[Ĥ] at hj;cases hj;exact Ad _)
 have Yl:∀i,i∈Gm a n m (bB.set (p.toNat-1) s)->i∈Gm a n m bB\/i=h1.length:=by
  intro i hi;rcases qF w1 wI hi with h|h
  .exact .inl h
  .rw[Ĥ] at h;cases h;exact .inr rfl
 generalize E:h2.set n (.cells ((bB.set (p.toNat-1) s).map PN.row).flatten)=h3 at J z;generalize aVh:bB.set (p.toNat-1) s=ğ at z Yl;rw[B] at z;have Z8:((A.cut x).set p {(A.cut x).nd p with Bi:=I1 ((A.cut x).nd p).Bi b x}).has x:=JI.2 UU;have mQ:((A.cut x).set p {(A.cut x).nd p with Bi:=I1 ((A.cut x).nd p).Bi b x}).nd x=(A.cut x).nd x:=by rw[IS,Aa (λh=>L h.1)]
 have xz:=(z.pn Z8).2.1;obtain⟨S,O,V,Y,W,l4⟩:=z.wr Z8 (k:=1) Az (v:= I p) rfl (p:=⟨{(A.cut x).nd x with GO:=p},(pN ğ x).kv,(pN ğ x).av,by have:=(pN ğ x).ok;rw[xz,mQ] at this;exact this⟩) (by simp only[PN.row];rw[xz,mQ];rfl) rfl (B6 HK.Bi mQ).symm;have aKJ:(A.cut x).Mw p x b=((A.cut x).set p {(A.cut x).nd p with Bi:=I1 ((A.cut x).nd p).Bi b x}).set x {(A.cut x).nd x with GO:=p}:=by unfold Ar.Mw;simp only;rw[mQ]
 refine⟨0,S,_,?_,by rw[Z,aKJ];exact V,?_⟩
 .rw[Ag,Q2,t66];by_cases h0:b=0;.rw[C h0] at N;have kl:=Ok.len;rcases kp with c|c|c<;>simp only[abS,Gb,(MG (x:=p) (y:=x) w).Af,Ae (And.intro hp hx),CP,CG,(Jo w d hp).Af,(Jo w d hx).Af,w.f0 hp,w.f0 hx,c,(Az:¬(2:Int)=1),(Az:¬(4:Int)=1),(Az:¬(4:Int)=2),FE,h0,l,g,r.Af,Q.Af,w1.f2 wI,kl,Hh,N,J,O]
  .have u:=fits.hb h0;have Qq:=u.1;have P:=aG3 Ok.qE D b;rw[(aAp h0).1] at P;have kl:=Ok.len;rcases kp with c|c|c<;>simp only[abS,Gb,(MG (x:=p) (y:=x) w).Af,Ae (And.intro hp hx),CP,CG,(Jo w d hp).Af,(Jo w d hx).Af,w.f0 hp,w.f0 hx,c,(Az:¬(2:Int)=1),(Az:¬(4:Int)=1),(Az:¬(4:Int)=2),FE,h0,(WH (x:=b) w).Af,Ak Qq,l,g,r.Af,u.2.1,(Jo w d Qq).Af,w.f1 Qq,u.2.2,Q.Af,w1.f2 wI,kl,P.Af,Hh,N,J,O]
 .have xm:h3.length=h1.length+1:=by rw[<-E,Ci,uB]
  have T:FC h1 (λi=>i∈Gm a n m bB) S (λi=>i∈Gm a n m (ğ.set (x.toNat-1) ⟨{(A.cut x).nd x with GO:=p},(pN ğ x).kv,(pN ğ x).av,by have:=(pN ğ x).ok;rw[xz,mQ] at this;exact this⟩)):=by
   refine⟨Ac,λi hi Z7=>?_,λi hi=>?_⟩;.have R:i≠n:=λG=>Z7 (G▸aKI);rw[W i R,<-E,Aq (C3 R)];exact y5 i hi λG=>Z7 (Mh (w1.pn wI).2.2 G)
   .rw[Y] at hi;rcases Yl i hi with h|h
    .exact .inl h
    .exact .inr Ac
  exact U.trans T
end
def SU(a:Nat)(b:BS)(o c t:Ab):List Ab:=[Pt a 0,I b.BM,o,c,I b.mode,I b.IV,t,I b.head,I b.Ha,.bool b.Lh,I b.ctx.node,I b.ctx.Bd,.str b.ctx.name,.bool b.ctx.QT,.bool b.fs,.bool b.D4,.str b.aJW,.bool b.skip,I b.sw,.bool b.stop]
structure BX(h:Ai)(bi a:Nat)(o c t:Ab)(G:Nat->Prop)(b:BS):Prop where
 hb:h[bi]?=some (.cells (SU a b o c t))
 o:D3 b.Au o
 t:IY b.tm t
 w:PW h G a b.a
 nb:¬G bi
section
variable{h:Ai}{bi a:Nat}{o c t:Ab}{G F:Nat->Prop}{b:BS}{x:Int}{m:Nat}
def BX.lt(w:BX h bi a o c t G b):bi<h.length:=(Aj.1 w.hb).1
def BX.FV{h':Ai}(w:BX h bi a o c t G b)(hf:∀i,i=bi\/G i->h'[i]?=h[i]?):BX h' bi a o c t G b:=
 ⟨by rw[hf bi (.inl rfl)];exact w.hb,w.o,w.t,w.w.FV λi hi=>hf i (.inr hi),w.nb⟩
def BX.L1(w:BX h bi a o c t G b){u:Ai}:BX (h++u) bi a o c t G b:=w.FV λi hi=>Al (by rcases hi with rfl|hi;exact w.lt;exact w.w.lt hi)
def BX.ld(w:BX h bi a o c t G b)(k:Nat):Bp h none (Pt bi k)=(SU a b o c t)[k]?:=by simp only[Bp,w.hb,Jh]
def BX.l0(w:BX h bi a o c t G b):Bp h none (Pt bi 0)=some (Pt a 0):=w.ld 0
def BX.l1(w:BX h bi a o c t G b):Bp h none (Pt bi 1)=some (I b.BM):=w.ld 1
def BX.l4(w:BX h bi a o c t G b):Bp h none (Pt bi 4)=some (I b.mode):=w.ld 4
def BX.l7(w:BX h bi a o c t G b):Bp h none (Pt bi 7)=some (I b.head):=w.ld 7
def BX.l9(w:BX h bi a o c t G b):Bp h none (Pt bi 9)=some (.bool b.Lh):=w.ld 9
def BX.l15(w:BX h bi a o c t G b):Bp h none (Pt bi 15)=some (.bool b.D4):=w.ld 15
def BX.l3(w:BX h bi a o c t G b):Bp h none (Pt bi 3)=some c:=w.ld 3
def BX.l6(w:BX h bi a o c t G b):Bp h none (Pt bi 6)=some t:=w.ld 6
def BX.atO(w:BX h bi a o c t G b):At h bi 2 o:=⟨_,w.hb,rfl⟩
def BX.ud(w:BX h bi a o c t G b):At h bi 3 c:=⟨_,w.hb,rfl⟩
def BX.sO(w:BX h bi a o c t G b):MV h bi 2 b.Au:=⟨o,w.atO,w.o⟩
def BX.sA(w:BX h bi a o c t G b):r_ h (Pt bi 2) b.Au:=w.sO.at
def Jp(w:BX h bi a o c t G b):CD cx 102 [Pt bi 0] h (.bool true) h:=by rw[Ag,ax,aE8];simp only[abS,w.l0]
def PW.pa{A:Ar}(w:PW h G a A):∃n m ps,PA h a n m ps A:=let⟨n,m,ps,w,_⟩:=w;⟨n,m,ps,w⟩
def WI(w:BX h bi a o c t G b)(ok:EC b)(rm:CH b m)(x:Int):∃K V u,CD cx 104 [Pt bi 0,I x] h (.agg [I (b.a.nd x).kind,I (b.a.nd x).GO,K,I (b.a.nd x).BM,I (b.a.nd x).Bd,.str (b.a.nd x).name,V,.str (b.a.nd x).data,.str (b.a.nd x).Lg,.str (b.a.nd x).sys,.bool (b.a.nd x).DX,I (b.a.nd x).cont,I (b.a.nd x).Fv]) (h++u)/\IY (b.a.nd x).Bi K/\L2 (h++u) V (b.a.nd x).As/\Up h.length V:=by obtain⟨n,m',ps,d⟩:=w.w.pa;obtain⟨r,u,e,K,V,rfl,g,f⟩:=ę (x:=x) d rm.WA (rm.WA.Bi ok.ok x);refine⟨K,V,u,?_,g,f⟩;rw[Ag,ay,aE9];simp only[abS,w.l0,e.Af]
def aG8(w:BX h bi a o c t G b)(rm:CH b m):CD cx 180 [Pt bi 0] h (.agg (DP b.Au).row) h:=by have:=rm.Au;rw[Ag,dm,aFM];simp only[abS,Ly,(Jp w).Af,(f39 w.sA Ac).Af]
def aKK(w:BX h bi a o c t G b)(ok:EC b)(rm:CH b m):CD cx 181 [Pt bi 0] h (.tuple [I b.On.1,I b.On.2]) h:=by
 have hl:=rm.Au;obtain⟨n,m',ps,f⟩:=w.w.pa;have e:=aBF w.sA (Ac:b.Au.length<=1000000000) JS;have r2:=aBF w.sA (Ac:b.Au.length<=1000000000) AW;have b1:=LG (q:=AH [JS]) (l:=b.Au);have b2:=LG (q:=AH [AW]) (l:=b.Au);unfold BS.On;simp only
 generalize AD (AH [JS]) b.Au=d at e b1⊢;generalize AD (AH [AW]) b.Au=g at r2 b2⊢;rw[Ag,dr,aFN];simp only[Cy,e.Af,r2.Af];refine⟨λh1=>?_,λh1=>⟨λh2=>?_,λh2=>?_⟩⟩;.rw[Ae h1];simp only[Cy,Ly,(WD w.sA g).Af]
 .rw[Aa h1,Ae h2];simp only[Cy,Ly,(WD w.sA 0).Af]
 .rw[Aa h1,Aa h2];simp only[abS,Ly,(WD w.sA d).Af,w.l0,(aKn (x:=(El b.Au d).node) f rm.WA).Af];refine⟨λh3=>?_,λh3=>?_⟩;.rw[Ae h3]
  .rw[Aa h3];have i:(if d-1<0 then 0 else d-1)=max (d-1) 0:=Ac;simp only[Cy,Ly,Ek (Ac: -9223372036854775808<=d-1) (Ac:d-1<9223372036854775808),gZ,i,(WD w.sA (max (d-1) 0)).Af]
def eC:AE (.Cb 1) [S JS,S vG,S vH,S vI,S wTr]=some (.sl 1 (Kn.map Cw)):=Fp (ws:=Kn) rfl Az
def ue{v:Ab}{ws:List Ah}(hv:IP ws v)(hn:ws.length<=1000000000)(a:Item)(h:Ai):CD cx 164 [.agg a.row,v] h (.bool (AH ws a)) h:=by rw[Ag,da,t164];simp only[Cy,Ly,(aBE hv hn _ h).Af,AH];refine⟨λh1=>by simp[h1],λh1=>by simp[h1]⟩
def ĥ{A:Ar}{x:Int}(hk:(A.nd x).kind=4)(ws:List Ah):AH ws ⟨0,(A.nd x).Bd,(A.nd x).name,false⟩=decide (sK ws A x):=by
 by_cases h:sK ws A x;.rw[Ak h];unfold AH;rw[Ak];exact⟨h.2.1,h.2.2⟩
 .rw[Ap h];unfold AH;rw[Ap];exact λh2=>h ⟨hk,h2.1,h2.2⟩
def aBM(w:BX h bi a o c t G b)(ok:EC b)(rm:CH b m)(x:Int):∃u,CD cx 103 [Pt bi 0,I x] h (.tuple [I (b.place x).1,I (b.place x).2]) (h++u):=by
 have hl:=rm.Au;by_cases A:x=0/\b.Au=[]
 .refine⟨[],?_⟩;have B:b.place x=(b.BM,0):=by unfold BS.place;rw[Ae A]
  rw[B,A8,Ag,iV,aA9];simp only[abS,(Jp w).Af,A.1,A.2,CG,(Vg w.sA).Af,Int.natCast_zero,w.l1]
 .obtain⟨t',ht⟩:∃t',t'=if x=0 then(DP b.Au).node else x:=⟨_,rfl⟩
  obtain⟨X,U,q,R,_,_⟩:=WI w ok rm t';have w1:=w.L1 (u:=q);have B:b.place x=if(b.a.nd (if b.D4=true/\sK Kn b.a t' then b.On else(t',0)).1).cont≠0 then((b.a.nd (if b.D4=true/\sK Kn b.a t' then b.On else(t',0)).1).cont,0) else if b.D4=true/\sK Kn b.a t' then b.On else(t',0):=by unfold BS.place;rw[Aa A,<-ht]
  obtain⟨pb,xw⟩:∃pb,pb=if b.D4=true/\sK Kn b.a t' then b.On else(t',0):=⟨_,rfl⟩
  rw[<-xw] at B;obtain⟨V,T,N,r2,_,_⟩:=WI w1 ok rm pb.1;have Q:=aKK w1 ok rm;have v:=ue (ws:=Kn) Dl Az ⟨0,(b.a.nd t').Bd,(b.a.nd t').name,false⟩ (h++q);have em:∀s n,AE (.Dc [I 0,I 0,S [],ff] [(1,1),(2,1)]) [I s,.str n]=some (.agg (Item.row ⟨0,s,n,false⟩)):=λ_ _=>rfl;refine⟨q++N,?_⟩;rw[<-A7];have last:∀(y:Int×Int),y=pb->W cx (.call 104 [Pt bi 0,I y.1] λl=> .cells 13 l λd=> .op (.int .neq) [g d 11,I 0] λk=> .A0 k (.ret .ret [.tuple [g d 11,I 0]]) (.ret .ret [.tuple [I y.1,I y.2]])) (λj vs h1=>j=GD.ret/\vs=[.tuple [I (b.place x).1,I (b.place x).2]]/\h1=h++q++N) (h++q):=by
   rintro _ rfl;rw[B];simp only[Cy,r2.Af];refine⟨λh1=>?_,λh1=>?_⟩;.rw[Ae h1]
   .rw[Aa h1]
  rw[Ag,iV,aA9];have l15:=w1.l15;have mid:W cx (.call 104 [Pt bi 0,I t'] λM=> .cells 13 M λp=> .GY 200009 (.op .M6 [Pt bi 0] λL=> .op (.GC 15) [L] λv16=> .load none v16 λK=> .A0 K (.op (.int .eql) [g p 0,I 4] λJ=> .A0 J (.op (.Dc [I 0,I 0,S [],ff] [(1,1),(2,1)]) [g p 4,g p 5] λH=> .op (.Cb 1) [S aX4,S aYB,S aYy,S aYC,S [116,114]] λv20=> .call 164 [H,v20] λE=> .ret .normal [E]) (.ret .normal [ff])) (.ret .normal [ff])) (λx P=>match x with
    | .normal=> .GY 100046 (.A0 (g P 0) (.call 181 [Pt bi 0] λr=> .op (.ext 0) [r] λD=> .op (.ext 1) [r] λC=> .ret .normal [D,C]) (.ret .normal [I t',I 0])) (λx f=>match x with
     | .normal=> .call 104 [Pt bi 0,g f 0] λl=> .cells 13 l λd=> .op (.int .neq) [g d 11,I 0] λk=> .A0 k (.ret .ret [.tuple [g d 11,I 0]]) (.ret .ret [.tuple [g f 0,g f 1]])
     | .exit i=> .fail
     | .ret=> .ret .ret [.tuple [g f 0,g f 1]])
    | .exit i=> .fail
    | .ret=> .ret .ret [.tuple [I t',I 0]])) (λj vs h1=>j=GD.ret/\vs=[.tuple [I (b.place x).1,I (b.place x).2]]/\h1=h++q++N) h:=by
   rw[R.Af];by_cases hf:b.D4=true
   .rw[hf] at l15;by_cases z:(b.a.nd t').kind=4
    .rw[ĥ z] at v;by_cases hw:sK Kn b.a t';.rw[Ak hw] at v;rw[Ae ⟨hf,hw⟩] at xw;have:=last b.On xw.symm;simp only[abS,l15,z,em,eC,v.Af,Q.Af];simpa only[Cy,hZ,AJ,AZ] using this
     .rw[Ap hw] at v;rw[Aa (λh=>hw h.2)] at xw;have:=last (t',0) xw.symm;simp only[abS,l15,z,em,eC,v.Af];simpa only[Cy,hZ,AJ,AZ] using this
    .rw[Aa (λh=>z h.2.1)] at xw;have:=last (t',0) xw.symm;simp only[abS,l15,z];simpa only[Cy,hZ,AJ,AZ] using this
   .rw[Aa (λh=>hf h.1)] at xw;have:=last (t',0) xw.symm;rw[show b.D4=false by simpa using hf] at l15;simp only[Cy,l15];simpa only[Cy,hZ,AJ,AZ] using this
  by_cases h0:x=0
  .have hne:b.Au≠[]:=λe=>A ⟨h0,e⟩;have O:¬((b.Au.length:Nat):Int)=0:=by have:=CB.2 hne;omega
   rw[Ae h0] at ht;rw[ht] at mid;simp only[abS,(Jp w).Af];rw[h0] at mid⊢;simp only[abS,Ly,(Vg w.sA).Af,O,(aG8 w rm).Af] at mid⊢;exact mid
  .rw[Aa h0] at ht;rw[ht] at mid;simp only[abS,(Jp w).Af,h0,Fg] at mid⊢;exact mid
end
section
def uf{Q:Lt}{h:Ai}{k:Ab->IT}:W cx (.Oy k) Q h↔W cx (k (.map (some h.length))) Q (h++[.map (ft 0)]):=SF
section
variable{v:Ab}{l:List Bj}{h:Ai}
def aPz(hv:BF l v)(hb:l.length<=1000)(sp:Int):∃u,CD cx 241 [I sp,v] h u (h++[.map (ft 11)])/\BF (l.map (DR sp)) u:=by
 have Lm:Bx 3 (l.map Bj.row) v:=hv;have Ql:Ev cx 241 [I sp,v] h λr h'=>h'=h++[.map (ft 11)]/\BF (l.map (DR sp)) r:=by
  unfold Ev;rw[iu,aGq];rw[uf];simp only[Cy,Nat.reduceLeDiff,↓reduceIte,Cl,F7,u0,aJL,aJM,aJN,aJO,aJP,aJQ,aJR,aJS,aJT,aJU,aEQ,Lm.GN];refine Cv (λp:Nat×Ab=>[p.2,I (p.1:Int)]) (λp h1=>p.1<=l.length/\BF ((l.take p.1).map (DR sp)) p.2/\h1=h++[.map (ft 11)]) (λp=>l.length-p.1) (0,.slnil) rfl ⟨Bn _,.nil,rfl⟩ ?_;rintro⟨n,u⟩ h1 ⟨hn,hu,rfl⟩;simp only at hn hu;rcases Bm n l.length with hlt|JA
  .have i1:(n:Int)<(l.length:Int):=by omega
   have J3:∀{q:List Ab},q=(DR sp l[n]).row->∃w,AE (.append 3 40) [u,.sl 3 [q]]=some w/\BF ((l.take (n+1)).map (DR sp)) w:=by
    rintro _ rfl;refine⟨_,Bx.pD (f:=Bj.row) (a:=DR sp l[n]) (b:=40) hu ?_,?_⟩;.simp[AY];omega
    .rw[Bb hlt,B3];exact .mk
   have inc:=DB (Ac:n<9223372036854775807);by_cases e:sp=2
   .subst e;cases c:KA (Eb l[n].name OS) with
    |some x=>obtain⟨w,d,hw⟩:=J3 (q:=[I x.1,.str x.2,.str l[n].value]) (by simp only[DR,N4,true_or,BN,c,Bj.row]);simp only[Cy,Nat.reduceLeDiff,↓reduceIte,Cl,i1,Lm.DN hlt,F7,Bj.row,(aJ8 _).Bz rfl rfl,AN,AO,AK,Nl,c,Nn,d,inc];exact By.next (n+1,w) rfl ⟨hlt,hw,rfl⟩ FY
    |none=>obtain⟨w,d,hw⟩:=J3 (q:=[I 0,.str (Eb l[n].name OS),.str l[n].value]) (by simp only[DR,N4,true_or,BN,c,Bj.row]);simp only[Cy,Nat.reduceLeDiff,↓reduceIte,Cl,i1,Lm.DN hlt,F7,Bj.row,(aJ8 _).Bz rfl rfl,AN,AO,AK,Nl,c,Nn,d,inc];exact By.next (n+1,w) rfl ⟨hlt,hw,rfl⟩ FY
   by_cases g:sp=3
   .subst g;by_cases hd:l[n].name=aJV
    .have c:KA aER=none:=by decide
     obtain⟨w,d,hw⟩:=J3 (q:=[I 0,.str aER,.str l[n].value]) (by simp only[DR,N4,hd,or_true,BN,DK,c,Bj.row,rY,e]);simp only[Cy,Nat.reduceLeDiff,↓reduceIte,Cl,i1,Lm.DN hlt,F7,Bj.row,hd,(Az:¬(3:Int)=2),AN,AP,AO,AK,Nl,c,Nn,d,inc];exact By.next (n+1,w) rfl ⟨hlt,hw,rfl⟩ FY
    .cases c:KA l[n].name with
     |some x=>obtain⟨w,d,hw⟩:=J3 (q:=[I x.1,.str x.2,.str l[n].value]) (by simp only[DR,N4,hd,or_true,BN,DK,c,Bj.row,and_false,e]);simp only[Cy,Nat.reduceLeDiff,↓reduceIte,Cl,i1,Lm.DN hlt,F7,Bj.row,hd,(Az:¬(3:Int)=2),AN,AP,AO,AK,Nl,c,Nn,d,inc];exact By.next (n+1,w) rfl ⟨hlt,hw,rfl⟩ FY
     |none=>obtain⟨w,d,hw⟩:=J3 (q:=[I 0,.str l[n].name,.str l[n].value]) (by simp only[DR,N4,hd,or_true,BN,DK,c,Bj.row,and_false,e]);simp only[Cy,Nat.reduceLeDiff,↓reduceIte,Cl,i1,Lm.DN hlt,F7,Bj.row,hd,(Az:¬(3:Int)=2),AN,AP,AO,AK,Nl,c,Nn,d,inc];exact By.next (n+1,w) rfl ⟨hlt,hw,rfl⟩ FY
   .obtain⟨w,d,hw⟩:=J3 (q:=[I 0,.str l[n].name,.str l[n].value]) (by simp only[DR,e,g,or_self,DK,Bj.row]);cases c:KA l[n].name with
    |some x=>simp only[Cy,Nat.reduceLeDiff,↓reduceIte,Cl,i1,Lm.DN hlt,F7,Bj.row,e,g,AN,AP,AO,AK,Nl,c,Nn,d,inc];exact By.next (n+1,w) rfl ⟨hlt,hw,rfl⟩ FY
    |none=>simp only[Cy,Nat.reduceLeDiff,↓reduceIte,Cl,i1,Lm.DN hlt,F7,Bj.row,e,g,AN,AP,AO,AK,Nl,c,Nn,d,inc];exact By.next (n+1,w) rfl ⟨hlt,hw,rfl⟩ FY
  .have i1:¬(n:Int)<(l.length:Int):=by omega
   rw[Bf JA] at hu;simp only[Cy,Nat.reduceLeDiff,↓reduceIte,Cl,i1,AP,AO,AK];exact⟨_,rfl,hu⟩
 obtain⟨r,h',hr,rfl,hu⟩:=Ql.ret;exact⟨r,hr,hu⟩
end
end
def BU(bi:Nat)(G:Nat->Prop):Nat->Prop:=λi=>i=bi\/G i
section
variable{h h':Ai}{bi a:Nat}{o c t:Ab}{G G' F:Nat->Prop}{b:BS}{x:Int}{m:Nat}
def FC.aKN(x:FC h G h' G'):FC h (Am.BU bi G) h' (Am.BU bi G'):=⟨x.len,λi hi hn=>x.old i hi λhg=>hn (.inr hg),λi hi=>by
 rcases hi with rfl|hi
 .exact .inl (.inl rfl)
 .rcases x.BU i hi with h|h
  .exact .inl (.inr h)
  .exact .inr h⟩
def BX.aKO{A':Ar}(w:BX h bi a o c t G b)(hp:PW h' G' a A')(x:FC h G h' G'):BX h' bi a o c t G' {b with a:=A'}/\FC h (BU bi G) h' (BU bi G'):=
 ⟨⟨by rw[x.old bi w.lt w.nb];exact w.hb,w.o,w.t,hp,λhg=>by rcases x.BU bi hg with h|h;exact w.nb h;have:=w.lt;omega⟩,x.aKN⟩
def BX.step{A':Ar}{R:Ai->Prop}(w:BX h bi a o c t G b)(d:∀n m ps,PA h a n m ps b.a->∃h' n' m' PV,R h'/\PA h' a n' m' PV A'/\FC h (λi=>i∈Gm a n m ps) h' (λi=>i∈Gm a n' m' PV)):
  ∃h' G',R h'/\BX h' bi a o c t G' {b with a:=A'}/\FC h (BU bi G) h' (BU bi G'):=by
 obtain⟨n,m,ps,g,e⟩:=w.w;obtain⟨h',n',m',PV,r,w',x⟩:=d n m ps g;have k:G=λi=>i∈Gm a n m ps:=funext λi=>propext (e i);obtain⟨j,f⟩:=w.aKO w'.pw (by rw[k];exact x);exact⟨h',_,r,j,f⟩
def BX.EF(w:BX h bi a o c t G b){u:Ai}:FC h (BU bi G) (h++u) (BU bi G):= .L1
def aKP{v:Ab}{l:List Int}{f:FuncId}{caps:List Ab}{q:Int->Bool}(hv:IY l v)(hb:l.length<=1000000000)(hf:f<=99999)(hq:∀k∈l,∀u,∃d,CD cx f (I k::caps) (h++u) (.bool (q k)) (h++u++d)):
  ∃u,CD cx 235 [v,.func (.func f) [] caps] h (I (Ct q 0 l)) (h++u):=by
 have Lm:Bx 1 (l.map Di) v:=hv;have Ql:Ev cx 235 [v,.func (.func f) [] caps] h λr h'=>r= I (Ct q 0 l)/\∃u,h'=h++u:=by
  unfold Ev;rw[h_,aGm];simp only[Cy,Lm.GN];refine Cv (λk:Nat=>[I 0,I (k:Int)]) (λk h1=>k<=l.length/\Ct q 0 l=Ct q k (l.drop k)/\∃u,h1=h++u) (λk=>l.length-k) 0 rfl ⟨Bn _,rfl,[],AB⟩ ?_;rintro k h1 ⟨hk,ha,u,rfl⟩;rcases Bm k l.length with hlt|JA
  .have i1:(k:Int)<(l.length:Int):=by omega
   have g:Bp (h++u) none (.Cd (Di l[k]))=some (I l[k]):=rfl;obtain⟨d,e⟩:=hq _ (AG hlt) u;rw[AA hlt,Ct] at ha;simp only[abS,↓reduceIte,CR,i1,Lm.DN hlt,g,hf,e.Af,DB (Ac:k<9223372036854775807)];rw[DE];refine⟨λh2=>?_,λh2=>?_⟩;.exact⟨_,rfl,by rw[ha,Ae h2],u++d,AB⟩
   .rw[Aa (by simp[h2])] at ha;exact By.next (k+1) rfl ⟨hlt,ha,u++d,AB⟩ Ac
  .have i1:¬(k:Int)<(l.length:Int):=by omega
   rw[AX JA,Ct] at ha;simp only[abS,↓reduceIte,CR,i1];exact⟨_,rfl,by rw[ha],u,rfl⟩
 obtain⟨r,h',hr,rfl,u,rfl⟩:=Ql.ret;exact⟨u,hr⟩
def aBN{l:List Int}{q:Int->Bool}:decide (0<=Ct q 0 l)=l.any q:=by
 rcases Hp (p:=q) (l:=l) (k:=0) with⟨h1,h2⟩|⟨n,y,h1,h2,h3⟩
 .rw[h1,yc];have:=MK.1 h2;simpa using this
 .rw[h1,yc];have e:=Wf h3;have d:=RX h3;rw[Ak Ac,Ov];exact⟨y,d,e⟩
def BX.self(w:BX h bi a o c t G b){A':Ar}(e:A'=b.a):BX h bi a o c t G {b with a:=A'}:=by subst e;exact w
open Classical in
def wJ{p bf:Int}(w:BX h bi a o c t G b)(ok:EC b)(rm:CH b m):∃h' G',CD cx 106 [Pt bi 0,I x,I p,I bf] h (.tuple []) h'/\BX h' bi a o c t G' {b with a:=b.a.Et x p bf}/\FC h (BU bi G) h' (BU bi G'):=by
 obtain⟨K1,V1,d,J,_,_⟩:=WI w ok rm p;have w1:=w.L1 (u:=d);have X:∀v,Ab.cells (.ptr v)=[.ptr v]:=λ_=>rfl;have If:∀h2,(∃u,h2=h++u)->∃h' G',(∃s,CD cx 66 [Pt a 0,I p,I x,I bf] h2 (I s) h')/\BX h' bi a o c t G' {b with a:=b.a.F9 p x bf}/\FC h (BU bi G) h' (BU bi G'):=by
  rintro _ ⟨u,rfl⟩;have g:=w.L1 (u:=u);obtain⟨h',G',r,w',x'⟩:=g.step (A':=b.a.F9 p x bf) (R:=λh'=>∃s,CD cx 66 [Pt a 0,I p,I x,I bf] (h++u) (I s) h') (λn m ps Q=>by obtain⟨s,h',PV,r,wp,P⟩:=aDs Q rm.WA ok.ok (p:=p) (x:=x) (b:=bf);exact⟨h',n,m,PV,⟨s,r⟩,wp,P⟩)
  exact⟨h',G',r,w',w.EF.trans x'⟩
 by_cases A:(b.a.nd p).kind=1
 .obtain⟨K2,Z,j,r2,_,_⟩:=WI w1 ok rm x;have g:=w1.L1 (u:=j);by_cases D:(b.a.nd x).kind=4
  .obtain⟨V,W,ğ,M⟩:=g.w.pa;obtain⟨K,O,U⟩:=ki (x:=p) M rm.WA (rm.WA.Bi ok.ok p);obtain⟨H,T⟩:=aKP (h:=h++d++j) (f:=183) (caps:=[.Cd [Pt bi 0]]) (q:=λk=>decide ((b.a.nd k).kind=4)) U (rm.WA.Bi ok.ok p) Az (λk _ u=>by have E:=g.L1 (u:=u);obtain⟨K3,Y,S,y,_,_⟩:=WI E ok rm k;refine⟨S,?_⟩;rw[Ag,dv,aFP];simp only[Cy,y.Af])
   have i:CD cx 182 [K,.func (.func 183) [] [.Cd [Pt bi 0]]] (h++d++j) (.bool ((b.a.nd p).Bi.any λk=>decide ((b.a.nd k).kind=4))) (h++d++j++H):=by rw[Ag,du,aFO,<-aBN];simp only[Cy,T.Af]
   have E:=g.L1 (u:=H);by_cases L:∃k∈(b.a.nd p).Bi,(b.a.nd k).kind=4
   .have N:((b.a.nd p).Bi.any λk=>decide ((b.a.nd k).kind=4))=true:=by simpa using L
    rw[N] at i;have z:b.a.Et x p bf=b.a:=by unfold Ar.Et;rw[Ae ⟨A,D,L⟩]
    refine⟨_,G,?_,E.self z,(w.EF.trans w1.EF).trans g.EF⟩;rw[Ag,T3,tn];simp only[abS,J.Af,A,r2.Af,D,g.l0,O.Af,i.Af]
   .have N:((b.a.nd p).Bi.any λk=>decide ((b.a.nd k).kind=4))=false:=by rw[aTb];intro k hk;simpa using λe=>L ⟨k,hk,e⟩
    rw[N] at i;have z:b.a.Et x p bf=b.a.F9 p x bf:=by unfold Ar.Et;rw[Aa (λh=>L h.2.2)]
    obtain⟨h',G',⟨s,y⟩,C,B⟩:=If (h++d++j++H) ⟨d++j++H,AB⟩;refine⟨h',G',?_,by rw[z];exact C,B⟩;rw[Ag,T3,tn];simp only[abS,J.Af,A,r2.Af,D,g.l0,O.Af,i.Af,E.l0,y.Af]
  .have z:b.a.Et x p bf=b.a.F9 p x bf:=by unfold Ar.Et;rw[Aa (λh=>D h.2.1)]
   obtain⟨h',G',⟨s,y⟩,C,B⟩:=If (h++d++j) ⟨d++j,AB⟩;refine⟨h',G',?_,by rw[z];exact C,B⟩;rw[Ag,T3,tn];simp only[abS,J.Af,A,r2.Af,D,g.l0,y.Af]
 .have z:b.a.Et x p bf=b.a.F9 p x bf:=by unfold Ar.Et;rw[Aa (λh=>A h.1)]
  obtain⟨h',G',⟨s,y⟩,C,B⟩:=If (h++d) ⟨d,rfl⟩;refine⟨h',G',?_,by rw[z];exact C,B⟩;rw[Ag,T3,tn];simp only[abS,J.Af,A,w1.l0,y.Af]
def aKQ(w:BX h bi a o c t G b)(ok:EC b)(rm:CH b m)(p:Int):∃u,CD cx 244 [Pt bi 0,I p] h (I (b.Ko p)) (h++u):=by
 obtain⟨n,j,d,f,_,_⟩:=WI w ok rm p;have w1:=w.L1 (u:=d);unfold BS.Ko;by_cases hc:(b.a.nd p).cont=0
 .refine⟨d,?_⟩;rw[Aa (by simp[hc]),Ag,jV,aBw];simp only[abS,f.Af,hc,CP,CG,w1.l1];refine⟨λh1=>?_,λh1=>?_⟩;.rw[Ae h1]
  .rw[Aa h1]
 .obtain⟨k,i,e,r2,_,_⟩:=WI w1 ok rm (b.a.nd p).cont;have g:=w1.L1 (u:=e);refine⟨d++e,?_⟩;rw[Ae hc,<-A7,Ag,jV,aBw];simp only[abS,f.Af,r2.Af,hc,CP,g.l1];refine⟨λh1=>?_,λh1=>?_⟩;.rw[Ae h1]
  .rw[Aa h1]
def kK(nm:Ah)(av:Ab)(r:List Ab):Prop:=∃n k j i g f e d mT zO,r=[n,.str nm,k,j,i,g,f,e,av,d,mT,zO]
def Sk:Ab.agg Item.zero.row= .agg [I 0,I 0,S [],ff]:=rfl
variable{nm:Ah}{av:Ab}{l:List Bj}{r:List Ab}{sp p:Int}
def CH.len{k:Nat}(rm:CH b k)(hk:3<=k):b.a.len+3<=1000000000:=by have:=rm.n;unfold Ar.len;omega
def aG9(w:BX h bi a o c t G b)(ok:EC b)(rm:CH b (m+3))(hr:kK nm av r)(hv:BF l av)(hl:GQ l)(hn:nm.length<=1000)(p sp:Int):
  ∃h' G',CD cx 193 [Pt bi 0,.agg r,I sp,I p] h (.agg (b.HA nm l sp).row) h'/\BX h' bi a o c t G' (b.Gf nm l sp p)/\FC h (BU bi G) h' (BU bi G'):=by
 obtain⟨O,N,M,L,K,J,H,E,mT,zO,rfl⟩:=hr;by_cases hs:BS.LD sp
 .obtain⟨D,s,hu⟩:=aPz (h:=h) hv hl.1 sp;have w1:=w.L1 (u:=[.map (ft 11)]);obtain⟨j,r2⟩:=aKQ w1 ok rm p;have g:=w1.L1 (u:=j);have hd:=dS ok (p:=p);have i:∀y∈l.map (DR sp),BS.LD y.Bd:=by intro y hy;obtain⟨z,_,rfl⟩:=A5.1 hy;exact Ü
  obtain⟨h',G',⟨f,_⟩,C,A⟩:=g.step (A':=b.a.elem (b.Ko p) sp (BS.Mf sp nm) (l.map (DR sp))) (R:=λh'=>CD cx 243 [Pt a 0,I (b.Ko p),I sp,.str (BS.Mf sp nm),D] (h++[.map (ft 11)]++j) (.tuple [I (b.a.len+1),I 0]) h'/\True) (λn m ps B=>by obtain⟨h',n',m',PV,r,wp,v,_⟩:=aKy B rm.WA (rm.len Ac) hd hs hu (by rw[Aw];have:=hl.1;omega) i (nm:=BS.Mf sp nm);exact⟨h',n',m',PV,⟨r,trivial⟩,wp,v⟩)
  have d:=f96 (h:=h') hu (λy hy=>by obtain⟨z,hz,rfl⟩:=A5.1 hy;rw[tj];have:=(hl.2 z hz).2;have:AY=140737488355328:=rfl;omega) (by rw[Aw];have:=hl.1;omega) sp (BS.Mf sp nm);have em:AE (.Dc [I 0,I 0,S [],ff] [(0,1),(1,1),(2,1),(3,1)]) [I (b.a.len+1),I sp,.str (BS.Mf sp nm),.bool (RD sp (BS.Mf sp nm) (l.map (DR sp)))]=some (.agg (b.HA nm l sp).row):=by rw[sj];unfold BS.HA;rw[Ae hs]
  refine⟨h',G',?_,by unfold BS.Gf;rw[Ae hs];exact C,(w.EF.trans w1.EF).trans A⟩;have q:¬sp<0:=by have:=hs.1;omega
  have k:¬7<sp:=by have:=hs.2;omega
  have hlen:=λ(y:Item)=>@Item.EP y;rw[Ag,jN,aBo];by_cases h2:sp=2
  .have e:BS.Mf sp nm=Eb nm OR:=by unfold BS.Mf;rw[Ae h2]
   rw[e] at f d em;subst h2;simp only[abS,↓reduceIte,Cl,Ly,(Jp w).Af,q,k,Fg,s.Af,EY,CG,(aOX nm).Bz rfl rfl,w1.l0,r2.Af,g.l0,DJ,f.Af,CP,d.Af,em,hlen]
  .have e:BS.Mf sp nm=nm:=by unfold BS.Mf;rw[Aa h2]
   rw[e] at f d em;simp only[abS,↓reduceIte,Cl,Ly,(Jp w).Af,q,k,Fg,s.Af,h2,w1.l0,r2.Af,g.l0,DJ,f.Af,CP,CG,d.Af,em,hlen]
 .refine⟨h,G,?_,by unfold BS.Gf;rw[Aa hs];exact w,.refl⟩;have e:b.HA nm l sp=Item.zero:=by unfold BS.HA;rw[Aa hs]
  rw[e,Sk,Ag,jN,aBo];unfold BS.LD at hs;by_cases h1:sp<0;.simp only[abS,↓reduceIte,Cl,(Jp w).Af,h1,EY]
  .simp only[abS,↓reduceIte,Cl,(Jp w).Af,h1,Fg,(Ac:7<sp),EY]
def Cz{k:Nat}{v:Ab}:FC h (BU bi G) (put h bi k v) (BU bi G):=⟨by rw[MU];exact Ad _,λi _ hn=>Da λe=>hn (.inl e),λ_ h=> .inl h⟩
def BX.put{k:Nat}{v o' c' t':Ab}{b':BS}(w:BX h bi a o c t G b)(e:(SU a b o c t).set k v=SU a b' o' c' t')(ea:b'.a=b.a)(ho:D3 b'.Au o')(ht:IY b'.tm t'):BX (Am.put h bi k v) bi a o' c' t' G b':=
 ⟨by rw[IQ w.hb,e];exact AI w.lt,ho,ht,by rw[ea];exact w.w.FV λi hi=>Da λe=>w.nb (e▸hi),w.nb⟩
def BX.PX{u:Ab}{l:List Item}(w:BX h bi a o c t G b)(hu:D3 l u):BX (Am.put h bi 2 u) bi a u c t G {b with Au:=l}:=w.put rfl rfl hu w.t
def BX.Ub{u:Ab}{l:List Cn}(w:BX h bi a o c t G b):BX (Am.put h bi 3 u) bi a o u t G {b with A3:=l}:=w.put rfl rfl w.o w.t
def BX.st{k:Nat}{v v0:Ab}(w:BX h bi a o c t G b)(hk:(SU a b o c t)[k]?=some v0)(hv:v.cells=[v]):Dd h 1 (Pt bi k) v=some (Am.put h bi k v):=At.store (v:=v0) ⟨_,w.hb,hk⟩ hv
variable{nm:Ah}{av:Ab}{l:List Bj}{r:List Ab}{sp p:Int}
def aPA(w:BX h bi a o c t G b)(ok:EC b)(rm:CH b (m+4))(hr:kK nm av r)(hv:BF l av)(hl:GQ l)(hn:nm.length<=1000)(sp:Int):
  ∃h' o' G',CD cx 192 [Pt bi 0,.func (.func 193) [Pt bi 0] [],.agg r,I sp] h (I (b.Li sp)) h'/\BX h' bi a o' c t G' (b.Co nm l sp)/\FC h (BU bi G) h' (BU bi G'):=by
 obtain⟨v,q⟩:=aBM w ok rm 0;have w1:=w.L1 (u:=v);obtain⟨h2,A,r2,n,j⟩:=aG9 (m:=m+1) w1 ok (rm.le Ac) hr hv hl hn (b.place 0).1 sp;have Ib:=hr;obtain⟨L,K,J,H,E,D,C,B,mT,zO,rfl⟩:=hr;have ho:=rm.Au;by_cases hs:BS.LD sp
 .have f:=(Qf (nm:=nm) (at_:=l) (p:=(b.place 0).1) ok hs).1;have wK:=RJ (m:=m+1) (nm:=nm) (sp:=sp) (p:=(b.place 0).1) (rm.le Ac) hl;have aDv:(b.HA nm l sp).node=b.a.len+1:=by unfold BS.HA;rw[Ae hs]
  have zq:¬(b.a.len+1=0):=by unfold Ar.len;omega
  have NV:(b.Gf nm l sp (b.place 0).1).Au=b.Au:=by unfold BS.Gf;rw[Ae hs]
  obtain⟨h3,z,y,k,s⟩:=wJ (x:=b.a.len+1) (p:=(b.place 0).1) (bf:=(b.place 0).2) n f wK;obtain⟨v4,d,g⟩:=f95 k.sO (by simp only[NV];omega) (b.HA nm l sp);refine⟨Am.put h3 bi 2 v4,v4,z,?_,?_,((w.EF.trans j).trans s).trans Cz⟩
  .have i:b.Li sp=b.a.len+1:=by unfold BS.Li;rw[Ae hs]
   rw[Ag,jM,aBn,i];simp only[abS,Nat.reduceAdd,↓reduceIte,CR,Ly,q.Af,(Az:(193:Nat)<=99999),r2.Af,aDv,zq,CP,y.Af];have e:=@Item.Wz (b.HA nm l sp);rw[aDv] at e;rw[<-e] at d;simp only[e] at d⊢;simp only[d.Af,Cy]
  .have:=k.PX g;unfold BS.Co;rw[Ae hs];exact this
 .refine⟨h2,o,A,?_,?_,w.EF.trans j⟩
  .have e:b.HA nm l sp=Item.zero:=by unfold BS.HA;rw[Aa hs]
   have i:b.Li sp=0:=by unfold BS.Li;rw[Aa hs]
   rw[e,Sk] at r2;rw[Ag,jM,aBn,i];simp only[abS,Nat.reduceAdd,↓reduceIte,CR,Ly,q.Af,(Az:(193:Nat)<=99999),r2.Af,CP,CG]
  .have:b.Co nm l sp=b.Gf nm l sp (b.place 0).1:=by unfold BS.Co BS.Gf;rw[Aa hs,Aa hs]
   rw[this];exact n
def aKS(w:BX h bi a o c t G b)(ok:EC b)(rm:CH b (m+4))(hr:kK nm av r)(hv:BF l av)(hl:GQ l)(hn:nm.length<=1000)(sp:Int):
  ∃h' o' G',CD cx 117 [Pt bi 0,.agg r,I sp] h (I (b.Li sp)) h'/\BX h' bi a o' c t G' (b.Co nm l sp)/\FC h (BU bi G) h' (BU bi G'):=by
 obtain⟨h',o',G',d,w',x'⟩:=aPA w ok rm hr hv hl hn sp;refine⟨h',o',G',?_,w',x'⟩;obtain⟨q,n,k,j,i,g,f,e,mT,zO,rfl⟩:=hr;rw[Ag,be,aFg];simp only[abS,(Jp w).Af,d.Af]
def aBO(w:BX h bi a o c t G b)(ok:EC b)(rm:CH b (m+4))(hr:kK nm av r)(hv:BF l av)(hl:GQ l)(hn:nm.length<=1000):
  ∃h' o' G',CD cx 70 [Pt bi 0,.agg r] h (I (b.a.len+1)) h'/\BX h' bi a o' c t G' (b.Co nm l 1)/\FC h (BU bi G) h' (BU bi G'):=by
 obtain⟨h',o',G',d,w',x'⟩:=aKS w ok rm hr hv hl hn 1;refine⟨h',o',G',?_,w',x'⟩;have e:b.Li 1=b.a.len+1:=by unfold BS.Li;rw[Ae KG]
 rw[e] at d;obtain⟨s,q,n,k,j,i,g,f,mT,zO,rfl⟩:=hr;rw[Ag,õ,t70];simp only[Cy,d.Af]
end
def EH(l:List Cn)(v:Ab):Prop:=∃fs:List DH,fs.map (·.c)=l/\Fm fs v
def V0{U Z:Type}{f:U->Z}{q:Z->Bool}{l:List U}:AD q (l.map f)=AD (λx=>q (f x)) l:=by unfold AD;rw[<-Uz,List.findIdx?_map,Aw];rfl
def wL{U Z:Type}{f:U->Z}{l:List U}{k:Nat}:(BA l k).map f=BA (l.map f) k:=by unfold BA;simp
def aBP{fs:List DH}:since fs=vF (fs.map (·.c)):=by unfold since vF;rw[V0];rfl
def Zh{n:Int}{fs:List DH}:LA n fs=FU n (fs.map (·.c)):=by unfold LA FU;rw[V0];rfl
def kx{nm:Ah}{fs:List DH}:Sg nm fs=DT nm (fs.map (·.c)):=by
 unfold Sg DT;rw[<-Uz];generalize fs.reverse=r;induction r with
 |nil=>rfl
 |cons x r ih=>simp only[AV,zZ,PJ,ih,Aw]
def aKT{e:Cn}{fs:List DH}:aW e fs=ak e (fs.map (·.c)).reverse:=by
 unfold aW;rw[<-Uz];generalize fs.reverse=r;induction r with
 |nil=>rfl
 |cons x r ih=>simp only[AV,aAU,ak,ih]
def aKU{e:Cn}{fs:List DH}:SK e fs=pM e (fs.map (·.c)).reverse:=by
 unfold SK;rw[<-Uz];generalize fs.reverse=r;induction r with
 |nil=>rfl
 |cons x r ih=>simp only[AV,vC,pM,ih,Aw]
def Ħ{e:Cn}{d:DH}{fs:List DH}(he:d.c=e):(SL e fs++[d]).map (·.c)=pO e (fs.map (·.c)):=by
 unfold SL pO;rw[aKT,aKU,B3,aRD,he];split;.rw[wL]
 .rfl
def ky{fs:List DH}:(fs.take (ID fs)).map (·.c)=FF (fs.map (·.c)):=by unfold FF ID;rw[HN,aBP]
def aBQ{l:List Cn}{fs:List DH}(e:fs.map (·.c)=l)(h:∀x∈l,x.As.length<=1000):∀x∈fs,xo x:=by intro x hx;have:=h x.c (by rw[<-e];exact A5.2 ⟨x,hx,rfl⟩);unfold xo;omega
section
variable{h h':Ai}{bi a:Nat}{o c t:Ab}{G G' F:Nat->Prop}{b:BS}{x:Int}{m:Nat}
variable{nm:Ah}{av:Ab}{l:List Bj}{r:List Ab}{sp p:Int}
def aPB(w:BX h bi a o c t G b)(hc:EH b.A3 c)(ok:EC b)(rm:CH b (m+5))(hr:kK nm av r)(hv:BF l av)(hl:GQ l)(hn:nm.length<=1000):
  ∃h' o' c' G',CD cx 204 [Pt bi 0,.agg r] h (I (b.a.len+1)) h'/\BX h' bi a o' c' t G' (b.Eu nm l)/\EH (b.Eu nm l).A3 c'/\FC h (BU bi G) h' (BU bi G'):=by
 obtain⟨h1,j,k,i,w1,g⟩:=aBO (m:=m+1) w ok (rm.le Ac) hr hv hl hn;obtain⟨fs,d,hf⟩:=hc;have ha:=rm.A3;have Jz:fs.length=b.A3.length:=by rw[<-d,Aw]
 obtain⟨u,n,oI,r2,hu⟩:=f30 (h:=h1) (id:=bi) (o:=3) (l:=fs) ⟨c,w1.ud,hf⟩ Ac (aBQ d λx hx=>((rm.Es x hx).2).1) (e:=⟨⟨b.a.len+1,nm,l⟩,av,hv⟩) (by unfold xo;have:=hl.1;simp only;omega);refine⟨_,j,u,k,?_,w1.Ub (u:=u),?_,g.trans Cz⟩
 .obtain⟨C,B,A,z,y,v,s,q,mT,zO,rfl⟩:=hr;have zq:¬(b.a.len+1=0):=by unfold Ar.len;omega
  have f:CD cx 246 [Pt bi 3,.agg [I (b.a.len+1),.str nm,av]] h1 (.tuple []) (put h1 bi 3 u):=r2;have hav:av.cells=[av]:=Bx.cells hv;rw[Ag,fh,aF3];simp only[abS,Nat.reduceLeDiff,↓reduceIte,Cl,i.Af,zq,CP,hav,f.Af]
 .refine⟨_,?_,hu⟩;rw[Ħ oI,d];unfold BS.Eu;simp only;rw[H6]
end
def aKV:∀x:Fin 64,(BitVec.ofInt 8 192|||BitVec.ofInt 8 (x.val:Int)).toNat=192+x.val:=Az
def aKW:∀x:Fin 32,(BitVec.ofInt 8 224|||BitVec.ofInt 8 (x.val:Int)).toNat=224+x.val:=Az
def aKX:∀x:Fin 16,(BitVec.ofInt 8 240|||BitVec.ofInt 8 (x.val:Int)).toNat=240+x.val:=Az
def aKY:∀x:Fin 64,(BitVec.ofInt 8 128|||BitVec.ofInt 8 (x.val:Int)).toNat=128+x.val:=Az
def aKZ:∀x:Fin 256,(BitVec.ofInt 8 (x.val:Int)&&& BitVec.ofInt 8 63).toNat=x.val%64:=Az
def kz{a b:Int}:AE (.int .or) [.int .u8 a,.int .u8 b]=some (.int .u8 (IntKind.u8.wrap (BitVec.ofInt 8 a|||BitVec.ofInt 8 b).toNat)):=rfl
def aHa{a b:Int}:AE (.int .and) [.int .u8 a,.int .u8 b]=some (.int .u8 (IntKind.u8.wrap (BitVec.ofInt 8 a&&& BitVec.ofInt 8 b).toNat)):=rfl
def ħ{x:Nat}(h:x<64):AE (.int .or) [.int .u8 192,.int .u8 (x:Int)]=some (.int .u8 ((192+x:Nat):Int)):=by rw[kz,aKV ⟨x,h⟩,IntKind.wrap_u8];congr 2;simp only;omega
def qG{x:Nat}(h:x<32):AE (.int .or) [.int .u8 224,.int .u8 (x:Int)]=some (.int .u8 ((224+x:Nat):Int)):=by rw[kz,aKW ⟨x,h⟩,IntKind.wrap_u8];congr 2;simp only;omega
def Ĩ{x:Nat}(h:x<16):AE (.int .or) [.int .u8 240,.int .u8 (x:Int)]=some (.int .u8 ((240+x:Nat):Int)):=by rw[kz,aKX ⟨x,h⟩,IntKind.wrap_u8];congr 2;simp only;omega
def Mi{x:Nat}(h:x<64):AE (.int .or) [.int .u8 128,.int .u8 (x:Int)]=some (.int .u8 ((128+x:Nat):Int)):=by rw[kz,aKY ⟨x,h⟩,IntKind.wrap_u8];congr 2;simp only;omega
def Mj{x:Nat}(h:x<256):AE (.int .and) [.int .u8 (x:Int),.int .u8 63]=some (.int .u8 ((x%64:Nat):Int)):=by rw[aHa,aKZ ⟨x,h⟩,IntKind.wrap_u8];congr 2;simp only;omega
def Xm{n:Nat}:AE (.int .shr) [.int .i32 (n:Int),.int .u64 6]=some (.int .i32 ((n/64:Nat):Int)):=by rw[show AE (.int .shr) [.int .i32 (n:Int),.int .u64 6]=some (.int .i32 ((n:Int).fdiv 64)) from rfl,Rm _ Ac];rfl
def Zi{n:Nat}:AE (.int .shr) [.int .i32 (n:Int),.int .u64 12]=some (.int .i32 ((n/4096:Nat):Int)):=by rw[show AE (.int .shr) [.int .i32 (n:Int),.int .u64 12]=some (.int .i32 ((n:Int).fdiv 4096)) from rfl,Rm _ Ac];rfl
def ĩ{n:Nat}:AE (.int .shr) [.int .i32 (n:Int),.int .u64 18]=some (.int .i32 ((n/262144:Nat):Int)):=by rw[show AE (.int .shr) [.int .i32 (n:Int),.int .u64 18]=some (.int .i32 ((n:Int).fdiv 262144)) from rfl,Rm _ Ac];rfl
def Vh{k:IntKind}{n:Nat}:AE (.conv .u8) [.int k (n:Int)]=some (.int .u8 ((n%256:Nat):Int)):=by rw[Rz,IntKind.wrap_u8];congr 2
def kL{n:Int}:AE (.conv .u32) [.int .i32 n]=some (.int .u32 (n%4294967296)):=by rw[Rz,IntKind.wrap_u32]
def eD{n:Nat}(h:n<256):((UInt8.ofNat n).toNat:Int)=(n:Int):=by rw[UInt8.toNat_ofNat'];congr 1;omega
def ŷ(b:UInt8):Ab:= .int .u8 (b.toNat:Int)
def LK{h:Ai}{bs:Ah}(hb:bs≠[])(hl:bs.length<=8):Hk h 1 1 .slnil (.sl 1 (CN bs))=some (h++[.cells (bs.map ŷ)],.Du h.length 0 bs.length 1):=by
 have Jz:∀bs:Ah,(CN bs).flatten=bs.map ŷ:=by
  intro bs;induction bs with
  |nil=>rfl
  |cons c bs ih=>show[ŷ c]++(CN bs).flatten=_;rw[ih];rfl
 cases bs with
 |nil=>exact absurd rfl hb
 |cons c bs=>
  have hm:AY=140737488355328:=rfl;have hlen:(CN (c::bs)).length=(c::bs).length:=by simp[CN]
  have e:CN (c::bs)=[.int .u8 c.toNat]::CN bs:=rfl;have a:Ij h 1 (.sl 1 (CN (c::bs)))=some (CN (c::bs)):=by simp[Ij]
  unfold Hk;rw[a,e];simp only
  rw[<-e,Ae (by rw[hlen];omega),Jz,hlen]
def aPD{h:Ai}(r:Int)(hr: -2147483648<=r/\r<=2147483647):CD cx 118 [.slnil,.int .i32 r] h (.Du h.length 0 (Ga r).length 1) (h++[.cells ((Ga r).map ŷ)]):=by
 have one:∀{a:Nat} (h1:a<256),AE (.Cb 1) [.int .u8 (a:Int)]=some (.sl 1 (CN [UInt8.ofNat a])):=by intro a h1;simp only[CN,AV,CM,eD h1];rfl
 have Kj:∀{a b:Nat} (h1:a<256) (h2:b<256),AE (.Cb 1) [.int .u8 (a:Int),.int .u8 (b:Int)]=some (.sl 1 (CN [UInt8.ofNat a,UInt8.ofNat b])):=by intro a b h1 h2;simp only[CN,AV,CM,eD h1,eD h2];rfl
 have Vz:∀{a b c:Nat} (h1:a<256) (h2:b<256) (h3:c<256),AE (.Cb 1) [.int .u8 (a:Int),.int .u8 (b:Int),.int .u8 (c:Int)]=some (.sl 1 (CN [UInt8.ofNat a,UInt8.ofNat b,UInt8.ofNat c])):=by intro a b c h1 h2 h3;simp only[CN,AV,CM,eD h1,eD h2,eD h3];rfl
 have four:∀{a b c d:Nat} (h1:a<256) (h2:b<256) (h3:c<256) (f:d<256),AE (.Cb 1) [.int .u8 (a:Int),.int .u8 (b:Int),.int .u8 (c:Int),.int .u8 (d:Int)]=some (.sl 1 (CN [UInt8.ofNat a,UInt8.ofNat b,UInt8.ofNat c,UInt8.ofNat d])):=by intro a b c d h1 h2 h3 f;simp only[CN,AV,CM,eD h1,eD h2,eD h3,eD f];rfl
 have bad:AE (.Cb 1) [.int .u8 239,.int .u8 191,.int .u8 189]=some (.sl 1 (CN [239,191,189])):=rfl;rw[Ag,bg,aFh];simp only[Cy,kL];by_cases h0:0<=r
 .obtain⟨n,rfl⟩:=MQ h0;have em:(n:Int)%4294967296=(n:Int):=Ac;rw[em];by_cases p:n<128
  .have e:Ga (n:Int)=[UInt8.ofNat n]:=by unfold Ga;rw[Ae Ac];rfl
   have i:n%256=n:=Ac;rw[e];simp only[Cy,hZ,(Ac:(n:Int)<=127),Vh,i,one (Ac:n<256),LK (bs:=[UInt8.ofNat n]) AB AB]
  .have aHb:CD cx 194 [.slnil,.int .i32 (n:Int)] h (.Du h.length 0 (Ga (n:Int)).length 1) (h++[.cells ((Ga (n:Int)).map ŷ)]):=by
    rw[Ag,jO,aBp];simp only[Cy,kL,em];by_cases o:n<2048
    .have e:Ga (n:Int)=[UInt8.ofNat (192+n/64),UInt8.ofNat (128+n%64)]:=by unfold Ga;rw[Aa Ac,Ae Ac];rfl
     rw[e];have a1:n/64%256=n/64:=Ac;have a2:n%256%64=n%64:=Ac;simp only[Cy,hZ,(Ac:(n:Int)<=2047),Xm,Vh,a1,ħ (Ac:n/64<64),Mj (Ac:n%256<256),a2,Mi (Ac:n%64<64),Kj (Ac:192+n/64<256) (Ac:128+n%64<256),LK (bs:=[UInt8.ofNat (192+n/64),UInt8.ofNat (128+n%64)]) AB AB]
    .by_cases m:n<65536/\¬(55296<=n/\n<57344)
     .have e:Ga (n:Int)=[UInt8.ofNat (224+n/4096),UInt8.ofNat (128+n/64%64),UInt8.ofNat (128+n%64)]:=by unfold Ga;rw[Aa Ac,Aa Ac,Ae Ac];rfl
      rw[e];have a1:n/4096%256=n/4096:=Ac;have a2:n/64%256%64=n/64%64:=Ac;have a3:n%256%64=n%64:=Ac;have g:=LK (h:=h) (bs:=[UInt8.ofNat (224+n/4096),UInt8.ofNat (128+n/64%64),UInt8.ofNat (128+n%64)]) AB AB;have t3:=Vz (Ac:224+n/4096<256) (Ac:128+n/64%64<256) (Ac:128+n%64<256);by_cases l:n<55296;.simp only[abS,(Ac:¬(n:Int)<=2047),(Ac:(n:Int)<55296),Xm,Zi,Vh,a1,qG (Ac:n/4096<32),Mj (Ac:n/64%256<256),a2,Mi (Ac:n/64%64<64),Mj (Ac:n%256<256),a3,Mi (Ac:n%64<64),t3,g]
      .simp only[abS,(Ac:¬(n:Int)<=2047),(Ac:¬(n:Int)<55296),(Ac:(57343:Int)<n),(Ac:(n:Int)<=65535),Xm,Zi,Vh,a1,qG (Ac:n/4096<32),Mj (Ac:n/64%256<256),a2,Mi (Ac:n/64%64<64),Mj (Ac:n%256<256),a3,Mi (Ac:n%64<64),t3,g]
     .by_cases k:65536<=n/\n<=1114111
      .have e:Ga (n:Int)=[UInt8.ofNat (240+n/262144),UInt8.ofNat (128+n/4096%64),UInt8.ofNat (128+n/64%64),UInt8.ofNat (128+n%64)]:=by unfold Ga;rw[Aa Ac,Aa Ac,Aa Ac,Ae Ac];rfl
       rw[e];have a0:n/262144%256=n/262144:=Ac;have a1:n/4096%256%64=n/4096%64:=Ac;have a2:n/64%256%64=n/64%64:=Ac;have a3:n%256%64=n%64:=Ac;have g:=LK (h:=h) (bs:=[UInt8.ofNat (240+n/262144),UInt8.ofNat (128+n/4096%64),UInt8.ofNat (128+n/64%64),UInt8.ofNat (128+n%64)]) AB AB;have t4:=four (Ac:240+n/262144<256) (Ac:128+n/4096%64<256) (Ac:128+n/64%64<256) (Ac:128+n%64<256);simp only[abS,(Ac:¬(n:Int)<=2047),(Ac:¬(n:Int)<55296),(Ac:(57343:Int)<n),(Ac:¬(n:Int)<=65535),(Ac:(65535:Int)<n),(Ac:(n:Int)<=1114111),Xm,Zi,ĩ,Vh,a0,Ĩ (Ac:n/262144<16),Mj (Ac:n/4096%256<256),a1,Mi (Ac:n/4096%64<64),Mj (Ac:n/64%256<256),a2,Mi (Ac:n/64%64<64),Mj (Ac:n%256<256),a3,Mi (Ac:n%64<64),t4,g]
      .have e:Ga (n:Int)=[239,191,189]:=by unfold Ga;rw[Aa Ac,Aa Ac,Aa Ac,Aa Ac]
       rw[e];have g:=LK (h:=h) (bs:=[239,191,189]) AB AB;by_cases j:n<65536;.simp only[abS,(Ac:¬(n:Int)<=2047),(Ac:¬(n:Int)<55296),(Ac:¬(57343:Int)<n),(Ac:¬(65535:Int)<n),bad,g]
       .simp only[abS,(Ac:¬(n:Int)<=2047),(Ac:¬(n:Int)<55296),(Ac:(57343:Int)<n),(Ac:¬(n:Int)<=65535),(Ac:(65535:Int)<n),(Ac:¬(n:Int)<=1114111),bad,g]
   simp only[abS,(Ac:¬(n:Int)<=127),aHb.Af]
 .have e:Ga r=[239,191,189]:=by unfold Ga;rw[Aa Ac,Aa Ac,Aa Ac,Aa Ac]
  have g:=LK (h:=h) (bs:=[239,191,189]) AB AB;have aHb:CD cx 194 [.slnil,.int .i32 r] h (.Du h.length 0 (Ga r).length 1) (h++[.cells ((Ga r).map ŷ)]):=by rw[e,Ag,jO,aBp];simp only[abS,kL,(Ac:¬(r%4294967296)<=2047),(Ac:¬(r%4294967296)<55296),(Ac:(57343:Int)<r%4294967296),(Ac:¬(r%4294967296)<=65535),(Ac:(65535:Int)<r%4294967296),(Ac:¬(r%4294967296)<=1114111),bad,g]
  simp only[abS,(Ac:¬(r%4294967296)<=127),aHb.Af]
def qH(r:Int):(Ga r).length<=4:=by unfold Ga;split<;>(try split)<;>(try split)<;>(try split)<;>simp
def Ī{l:List Int}{bf:Int}(hb:bf≠0->bf∈l):∃i,i<=l.length/\(bf=0->i=l.length)/\(bf≠0->Ct (λy=>decide (bf=y)) 0 l=(i:Int))/\QY l bf=if i=0 then none else l[i-1]?:=by
 by_cases h0:bf=0
 .refine⟨l.length,Ad _,λ_=>rfl,λh=>absurd h0 h,?_⟩;unfold QY;rw[Ae h0,RY];split;.rename_i h;rw[En Ac]
  .rfl
 .obtain⟨k,j,e,g,d,f⟩:=kJ (hb h0);refine⟨k,Ac,λh=>absurd h h0,λ_=>e,?_⟩;unfold QY;rw[Aa h0,d,RY,Ax,BP Ac];split;.rename_i h;subst h;simp
  .rw[CA];rw[Ae Ac]
def k_{s u:Ah}(h:s.length+u.length<=2000000000):AE (.str .add) [.str s,.str u]=some (.str (s++u)):=by have:s.length+u.length<=9223372036854775807:=Ac;simp[AE,mZ,this]
def eE:∀s:Ah,(CN s).flatten=s.map ŷ
 |[]=>rfl
 |c::s=>by show[ŷ c]++(CN s).flatten=_;rw[eE s];rfl
section
variable{h h':Ai}{bi a:Nat}{o c t:Ab}{G G' F:Nat->Prop}{b:BS}{x:Int}{m:Nat}
variable{nm:Ah}{av:Ab}{l:List Bj}{r:List Ab}{sp p:Int}
def lf{k d:Int}{s:Ah}(ok:EC b)(rm:CH b (m+1))(hk:k=5\/k=6)(hd:b.a.has d/\(b.a.nd d).kind=1)(hs:s.length<=100000):EC {b with a:=b.a.add {kind:=k,BM:=d,data:=s}}/\CH {b with a:=b.a.add {kind:=k,BM:=d,data:=s}} m:=
 ⟨ok.I5 (TY ok.ok (by unfold Ar.len;omega) hd hk) PK,rm.GZ (k:=1) (Mg (Bn _) hs)⟩
def aPE(w:BX h bi a o c t G b)(ok:EC b)(rm:CH b (m+5))(r:Int)(hr: -2147483648<=r/\r<=2147483647):
  ∃h' G',CD cx 72 [Pt bi 0,.int .i32 r] h (.tuple []) h'/\BX h' bi a o c t G' (b.Jk r)/\FC h (BU bi G) h' (BU bi G'):=by
 obtain⟨f,D⟩:=aBM w ok rm 0;obtain⟨hp,hbf⟩:=TZ ok (t:=0) (.inl rfl);have w1:=w.L1 (u:=f);unfold BS.Jk;generalize(b.place 0).1=p at*;generalize(b.place 0).2=bf at*;obtain⟨K,V,d,r2,X,_⟩:=WI w1 ok rm p;have Z:=w1.L1 (u:=d);have x2:FC h (BU bi G) (h++f++d) (BU bi G):=w.EF.trans w1.EF;unfold BS.JT;by_cases hk:(b.a.nd p).kind=4\/(b.a.nd p).kind=2;rotate_left
 .refine⟨_,G,?_,?_,x2⟩;.have k4:¬(b.a.nd p).kind=4:=λe=>hk (.inl e);have k2:¬(b.a.nd p).kind=2:=λe=>hk (.inr e);rw[Ag,Y5,t72];simp only[abS,(Jp w).Af,D.Af,r2.Af,CP,k4,k2]
  .rw[Aa hk];exact Z
 rw[Ae hk];obtain⟨i,hi,H,uC,hpv⟩:=Ī (l:=(b.a.nd p).Bi) (bf:=bf) (λh=>by have:=hbf h;have h2:=(ok.ok.GO bf this.1 (by rw[this.2];have:=hp.1;omega)).2;rwa [this.2] at h2);rw[hpv];have XX:=rm.WA.Bi ok.ok p;have J:=aG3 (h:=h++f++d) (x:=bf) X.qE XX;have g:=aPD (h:=h++f++d) r hr;have xf:=qH r;generalize hs:Ga r=s at*;have f3:L6 (h++f++d++[.cells (s.map ŷ)]) (.Du (h++f++d).length 0 s.length 1)=some (h++f++d++[.Ef],.sl 1 (CN s)):=by have Jz:=eE s;have:=OP (h:=h++f++d++[.cells (s.map ŷ)]) (id:=(h++f++d).length) (z:=1) (Ay:=CN s) (by intro q hq;obtain⟨y,_,rfl⟩:=A5.1 hq;rfl) (by rw[Jz];simp);rw[show(CN s).length=s.length by simp[CN]] at this;rw[this];congr 2;rw[Ce _ _ (Ad _),Fh];rfl
 have b3:AE .XD [.sl 1 (CN s)]=some (.str s):=by simp[AE,fP,YJ]
 have A:=Z.L1 (u:=[.Ef]);have x3:FC h (BU bi G) (h++f++d++[.Ef]) (BU bi G):=x2.trans Z.EF;have qI:=ok.ok.BM p hp;have new:∀h3,(∃u,h3=h++f++d++[.Ef]++u)->∃h' L G',CD cx 120 [Pt a 0,I (b.a.nd p).BM,.str s] h3 (.tuple [I (b.a.len+1),I 0]) L/\CD cx 106 [Pt bi 0,I (b.a.len+1),I p,I bf] L (.tuple []) h'/\BX h' bi a o c t G' {b with a:=(b.a.add {kind:=5,BM:=(b.a.nd p).BM,data:=s}).Et (b.a.len+1) p bf}/\FC h (BU bi G) h' (BU bi G'):=by
  rintro _ ⟨u,rfl⟩;have w4:=A.L1 (u:=u);obtain⟨L,G4,⟨C,_⟩,w5,x5⟩:=w4.step (A':=b.a.add (Ns 5 (b.a.nd p).BM s).x) (R:=λh'=>CD cx 120 [Pt a 0,I (b.a.nd p).BM,.str s] (h++f++d++[.Ef]++u) (.tuple [I (b.a.len+1),I 0]) h'/\True) (λn m ps S=>by obtain⟨h',r,wp,o1,l1⟩:=aPl (s:=s) S rm.WA (by have:=rm.n;unfold Ar.len;omega) qI;exact⟨h',_,_,_,⟨r,trivial⟩,wp,S.RM rfl o1 l1⟩)
  obtain⟨ok5,rm5⟩:=lf (m:=m) (k:=5) (s:=s) ok (rm.le Ac) (.inl rfl) qI Ac;obtain⟨h',G',B,O,M⟩:=wJ (x:=b.a.len+1) (p:=p) (bf:=bf) w5 ok5 rm5;exact⟨h',L,G',C,B,O,(x3.trans A.EF).trans (x5.trans M)⟩
 have kl:=(X.qE (h:=h++f++d)).len;have RS:i<=1000000000:=Ac;by_cases hz:i=0
 .subst hz;obtain⟨h',L,G',C,B,O,M⟩:=new (h++f++d++[.Ef]) ⟨[],AB⟩;simp only[↓reduceIte];refine⟨h',G',?_,O,M⟩;rw[Ag,Y5,t72];rcases hk with hk|hk<;>by_cases h0:bf=0
  all_goals first|(rw[<-H h0] at kl;simp only[abS,(Jp w).Af,D.Af,r2.Af,hk,CP,CG,(Az:¬(2:Int)=4),kl,BI h0,g.Af,f3,b3,(Az:¬(0:Int)<((0:Nat):Int)),A.l0,C.Af,CG,B.Af];done)|(rw[uC h0] at J;simp only[abS,(Jp w).Af,D.Af,r2.Af,hk,CP,CG,(Az:¬(2:Int)=4),kl,h0,g.Af,f3,b3,(Az:¬(0:Int)<((0:Nat):Int)),A.l0,C.Af,CG,B.Af,J.Af])
 .obtain⟨j,rfl⟩:∃j,i=j+1:=⟨i-1,Ac⟩;have hj:j<(b.a.nd p).Bi.length:=Ac;rw[Aa hz,ML,Av hj];simp only
  have ht:=ok.ok.Ok p hp _ (AG hj);obtain⟨q,Q,Y⟩:=(X.qE (h:=h++f++d++[.Ef])).at_ j hj;obtain⟨K7,V7,T,W,_,_⟩:=WI A ok rm (b.a.nd p).Bi[j];have N:=A.L1 (u:=T);obtain⟨q',Z9,P⟩:=(X.qE (h:=h++f++d++[.Ef]++T)).at_ j hj;rw[Q,BO] at Z9;subst Z9;have U:AE (.int .sub) [I ((j+1:Nat):Int),I 1]=some (I (j:Int)):=by have:=Ol (n:=j+1) Ac Ac;simpa using this
  generalize hte:(b.a.nd p).Bi[j]=v at*;by_cases E:(b.a.nd v).kind=5
  .rw[Ae E];have xk:=rm.data v;obtain⟨h8,G8,⟨r8,_⟩,w8,x8⟩:=N.step (A':=b.a.N6 v ((b.a.nd v).data++s)) (R:=λh'=>CD cx 119 [Pt a 0,I v,.str ((b.a.nd v).data++s)] (h++f++d++[.Ef]++T) (I 0) h'/\True) (λn m ps S=>by obtain⟨h',PV,r,wp,xp⟩:=aPm (s:=(b.a.nd v).data++s) S rm.WA ht.1 E;exact⟨h',n,m,PV,⟨r,trivial⟩,wp,xp⟩)
   refine⟨h8,G8,?_,w8,(x3.trans A.EF).trans x8⟩;rw[Ag,Y5,t72];rcases hk with hk|hk<;>by_cases h0:bf=0
   all_goals first|(rw[<-H h0] at kl;simp only[abS,(Jp w).Af,D.Af,r2.Af,hk,CP,CG,(Az:¬(2:Int)=4),kl,BI h0,g.Af,f3,b3,(Ac:(0:Int)<((j+1:Nat):Int)),U,Q,Y,W.Af,E,N.l0,P,k_ (Ac:(b.a.nd v).data.length+s.length<=2000000000),CG,r8.Af];done)|(rw[uC h0] at J;simp only[abS,(Jp w).Af,D.Af,r2.Af,hk,CP,CG,(Az:¬(2:Int)=4),kl,h0,g.Af,f3,b3,(Ac:(0:Int)<((j+1:Nat):Int)),U,Q,Y,W.Af,E,N.l0,P,k_ (Ac:(b.a.nd v).data.length+s.length<=2000000000),CG,r8.Af,J.Af])
  .rw[Aa E];obtain⟨h',L,G',C,B,O,M⟩:=new _ ⟨T,rfl⟩;refine⟨h',G',?_,O,M⟩;rw[Ag,Y5,t72];rcases hk with hk|hk<;>by_cases h0:bf=0
   all_goals first|(rw[<-H h0] at kl;simp only[abS,(Jp w).Af,D.Af,r2.Af,hk,CP,CG,(Az:¬(2:Int)=4),kl,BI h0,g.Af,f3,b3,(Ac:(0:Int)<((j+1:Nat):Int)),U,Q,Y,W.Af,E,N.l0,C.Af,CG,B.Af];done)|(rw[uC h0] at J;simp only[abS,(Jp w).Af,D.Af,r2.Af,hk,CP,CG,(Az:¬(2:Int)=4),kl,h0,g.Af,f3,b3,(Ac:(0:Int)<((j+1:Nat):Int)),U,Q,Y,W.Af,E,N.l0,C.Af,CG,B.Af,J.Af])
def Zj{s:Ah}{p bf x:Int}{h0 h1:Ai}(hstart:(¬x=0/\p=x/\bf=0/\h1=h0)\/(x=0/\CD cx 103 [Pt bi 0,I 0] h0 (.tuple [I p,I bf]) h1))
  (w0:BX h0 bi a o c t G b) (i:FC h0 (BU bi G) h1 (BU bi G)) (w:BX h1 bi a o c t G b) (ok:EC b) (rm:CH b (m+1)) (hs:s.length<=100000):
  ∃h' G',CD cx 62 [Pt bi 0,.str s,I x] h0 (.tuple []) h'/\BX h' bi a o c t G' {b with a:=BS.H5 b.a s p bf}/\FC h0 (BU bi G) h' (BU bi G'):=by
 obtain⟨K,V,q,r2,L,_⟩:=WI w ok rm p;have d:=w.L1 (u:=q);unfold BS.H5;by_cases hk:MO (b.a.nd p).kind
 .rw[Ae hk];have hp:b.a.has p:=by
   by_cases hp:b.a.has p;.exact hp
   .rw[OV hp] at hk;unfold MO at hk;simp at hk
  have qI:=ok.ok.BM p hp;obtain⟨M,N,⟨y,_⟩,H,D⟩:=d.step (A':=b.a.add (Ns 6 (b.a.nd p).BM s).x) (R:=λh'=>CD cx 105 [Pt a 0,I (b.a.nd p).BM,.str s] (h1++q) (.tuple [I (b.a.len+1),I 0]) h'/\True) (λn m ps j=>by obtain⟨h',r,wp,J,l1⟩:=aKo (s:=s) j rm.WA (by have:=rm.n;unfold Ar.len;omega) qI;exact⟨h',_,_,_,⟨r,trivial⟩,wp,j.RM rfl J l1⟩)
  obtain⟨g,e⟩:=lf (m:=m) (k:=6) (s:=s) ok rm (.inr rfl) qI hs;obtain⟨h',G',v,E,C⟩:=wJ (x:=b.a.len+1) (p:=p) (bf:=bf) H g e;refine⟨h',G',?_,E,(i.trans w.EF).trans (D.trans C)⟩;rw[Ag,vX,t62];rcases hstart with⟨hx,rfl,rfl,rfl⟩|⟨hx,f⟩
  .rcases hk with hk|hk|hk<;>simp only[abS,(Jp w0).Af,r2.Af,hk,CP,CG,(Az:¬(2:Int)=1),(Az:¬(4:Int)=1),(Az:¬(4:Int)=2),d.l0,y.Af,v.Af,hx]
  .rcases hk with hk|hk|hk<;>simp only[abS,(Jp w0).Af,r2.Af,hk,CP,CG,(Az:¬(2:Int)=1),(Az:¬(4:Int)=1),(Az:¬(4:Int)=2),d.l0,y.Af,v.Af,BI hx,f.Af]
 .rw[Aa hk];refine⟨_,G,?_,d,i.trans w.EF⟩;unfold MO at hk;have B:¬(b.a.nd p).kind=1:=Ac;have A:¬(b.a.nd p).kind=2:=Ac;have z:¬(b.a.nd p).kind=4:=Ac;rw[Ag,vX,t62];rcases hstart with⟨hx,rfl,rfl,rfl⟩|⟨hx,f⟩
  .simp only[abS,(Jp w0).Af,r2.Af,CP,B,A,z,hx]
  .simp only[abS,(Jp w0).Af,r2.Af,CP,B,A,z,BI hx,f.Af]
def aPG(w:BX h bi a o c t G b)(ok:EC b)(rm:CH b (m+1))(s:Ah)(hs:s.length<=100000)(x:Int):
  ∃h' G',CD cx 62 [Pt bi 0,.str s,I x] h (.tuple []) h'/\BX h' bi a o c t G' (b.DD s x)/\FC h (BU bi G) h' (BU bi G'):=by
 unfold BS.DD;by_cases h0:x=0;.rw[Ae h0];obtain⟨d,e⟩:=aBM w ok rm 0;exact Zj (p:=(b.place 0).1) (bf:=(b.place 0).2) (.inr ⟨h0,e⟩) w w.EF (w.L1 (u:=d)) ok rm hs
 .rw[Aa h0];exact Zj (p:=x) (bf:=0) (.inl ⟨h0,rfl,rfl,rfl⟩) w .refl w ok rm hs
def aPH(w:BX h bi a o c t G b)(ok:EC b)(rm:CH b (m+4))(hr:kK nm av r)(hv:BF l av)(hl:GQ l)(hn:nm.length<=1000)(st:Int):
  ∃h' o' G',CD cx 74 [Pt bi 0,.agg r,I st] h (.tuple []) h'/\BX h' bi a o' c t G' (b.Dj nm l st)/\FC h (BU bi G) h' (BU bi G'):=by
 obtain⟨h1,d,e,u,w1,i⟩:=aBO w ok rm hr hv hl hn;have s:=w1.st (k:=18) (v:= I st) rfl rfl;have g:BX (put h1 bi 18 (I st)) bi a d c t e {b.Co nm l 1 with sw:=st}:=w1.put rfl rfl w1.o w1.t;have q:=g.st (k:=5) (v:= I (b.Co nm l 1).mode) rfl rfl;have f:BX (put (put h1 bi 18 (I st)) bi 5 (I (b.Co nm l 1).mode)) bi a d c t e {b.Co nm l 1 with sw:=st,IV:=(b.Co nm l 1).mode}:=g.put rfl rfl w1.o w1.t;have n:=f.st (k:=4) (v:=I 8) rfl rfl;have j:BX (put (put (put h1 bi 18 (I st)) bi 5 (I (b.Co nm l 1).mode)) bi 4 (I 8)) bi a d c t e (b.Dj nm l st):=f.put rfl rfl w1.o w1.t;refine⟨_,d,e,?_,j,((i.trans Cz).trans Cz).trans Cz⟩;obtain⟨H,E,D,C,B,A,z,y,mT,zO,rfl⟩:=hr;rw[Ag,ù,t74];simp only[Cy,(Jp w).Af,u.Af,w1.l4,s,q,n]
def aPI(w:BX h bi a o c t G b)(rm:CH b m):
  ∃h' o',CD cx 202 [Pt bi 0] h (.tuple []) h'/\BX h' bi a o' c t G b.B7/\FC h (BU bi G) h' (BU bi G):=by
 have ho:=rm.Au;have d:=aKb w.sA (Ac:b.Au.length<=1000000000) 3 (v:= .sl 1 ([wP].map Cw)) (ws:=[wP]) Dl Az;have em:AE (.Cb 1) [S [112]]=some (.sl 1 ([wP].map Cw)):=Fp (ws:=[wP]) rfl Az;unfold BS.B7;by_cases hs:IC (AH [wP]) (Im 3) b.Au.reverse=true;.rw[Ae hs];rw[hs] at d;obtain⟨g,r2,gD⟩:=aG0 w.sO Ac wP;have w1:=w.PX gD;have E0:=iH (b:=CL wP) (a:=Dm) (l:=b.Au);obtain⟨e,f,TM⟩:=f66 w1.sO FY (w:= .sl 1 ([wP].map Cw)) (ws:=[wP]) Dl Az;refine⟨_,e,?_,w1.PX TM,Cz.trans Cz⟩;rw[Ag,jP,aBq];simp only[Cy,(Jp w).Af,em,d.Af,r2.Af,f.Af]
 .rw[Aa hs];rw[show IC (AH [wP]) (Im 3) b.Au.reverse=false by simpa using hs] at d;refine⟨h,o,?_,w,.refl⟩;rw[Ag,jP,aBq];simp only[Cy,(Jp w).Af,em,d.Af]
end
def kM{n:Nat}(d:Nat)(hd:0<d)(h:n<2147483648)(e:AE (.int .quo) [I (n:Int),I (d:Int)]=some (I (IntKind.i64.wrap ((n:Int).tdiv (d:Int))))):AE (.int .quo) [I (n:Int),I (d:Int)]=some (I ((n/d:Nat):Int)):=by
 have h2:(n:Int).tdiv (d:Int)=((n/d:Nat):Int):=by rw[Int.tdiv_eq_ediv_of_nonneg Ac];rfl
 have h3:n/d<=n:=Nat.div_le_self n d;rw[e,h2];generalize n/d=k at*;rw[wrap_i64 Ac Ac]
def aBR{n:Nat}(d:Nat)(hd:0<d)(h:n<2147483648)(e:AE (.int .rem) [I (n:Int),I (d:Int)]=some (I ((n:Int).tmod (d:Int)))):AE (.int .rem) [I (n:Int),I (d:Int)]=some (I ((n%d:Nat):Int)):=by
 have h2:(n:Int).tmod (d:Int)=((n%d:Nat):Int):=by rw[Int.tmod_eq_emod_of_nonneg Ac];rfl
 have h3:n%d<=n:=Nat.mod_le n d;rw[e,h2]
def Zk{n:Nat}(h:n<2147483648):AE (.int .quo) [I (n:Int),I 64]=some (I ((n/64:Nat):Int)):=kM 64 Az h rfl
def Zl{n:Nat}(h:n<2147483648):AE (.int .quo) [I (n:Int),I 4096]=some (I ((n/4096:Nat):Int)):=kM 4096 Az h rfl
def kN{n:Nat}(h:n<2147483648):AE (.int .quo) [I (n:Int),I 262144]=some (I ((n/262144:Nat):Int)):=kM 262144 Az h rfl
def O1{n:Nat}(h:n<2147483648):AE (.int .rem) [I (n:Int),I 64]=some (I ((n%64:Nat):Int)):=aBR 64 Az h rfl
def Uc{n:Nat}(c:Nat)(h:c+n<2147483648):AE (.int .add) [I (c:Int),I (n:Int)]=some (I ((c+n:Nat):Int)):=by rw[RE Ac Ac];congr 2
def M3{n:Nat}(h:n<64):AE (.int .add) [I 128,I (n:Int)]=some (I ((128+n:Nat):Int)):=Uc 128 Ac
def ug{n:Nat}(h:n<64):AE (.int .add) [I 192,I (n:Int)]=some (I ((192+n:Nat):Int)):=Uc 192 Ac
def uh{n:Nat}(h:n<64):AE (.int .add) [I 224,I (n:Int)]=some (I ((224+n:Nat):Int)):=Uc 224 Ac
def ui{n:Nat}(h:n<64):AE (.int .add) [I 240,I (n:Int)]=some (I ((240+n:Nat):Int)):=Uc 240 Ac
def Sl{n:Nat}(h:n<256):AE (.conv .u8) [I (n:Int)]=some (.int .u8 (n:Int)):=by rw[Vh];congr 3;omega
def MY(r:Int):Prop:=(0<=r/\r<=55295)\/(57344<=r/\r<=1114111)
instance(r:Int):Decidable (MY r):=by unfold MY;infer_instance
def aK0(r:Int):NL cx 11 [.int .i32 r] (.bool (decide (MY r))):=by rw[RU,aE1,t11];by_cases h1:0<=r<;>by_cases h2:r<=55295<;>by_cases h3:57344<=r<;>by_cases a:r<=1114111<;>simp[h1,h2,h3,a,MY]
def aK1(r:Int)(hr:MY r)(h:Ai):CD cx 27 [.int .i32 r] h (.sl 1 (CN (Ga r))) h:=by
 have one:∀{a:Nat} (h1:a<256),AE (.Cb 1) [.int .u8 (a:Int)]=some (.sl 1 (CN [UInt8.ofNat a])):=by intro a h1;simp only[CN,AV,CM,eD h1];rfl
 have Kj:∀{a b:Nat} (h1:a<256) (h2:b<256),AE (.Cb 1) [.int .u8 (a:Int),.int .u8 (b:Int)]=some (.sl 1 (CN [UInt8.ofNat a,UInt8.ofNat b])):=by intro a b h1 h2;simp only[CN,AV,CM,eD h1,eD h2];rfl
 have Vz:∀{a b c:Nat} (h1:a<256) (h2:b<256) (h3:c<256),AE (.Cb 1) [.int .u8 (a:Int),.int .u8 (b:Int),.int .u8 (c:Int)]=some (.sl 1 (CN [UInt8.ofNat a,UInt8.ofNat b,UInt8.ofNat c])):=by intro a b c h1 h2 h3;simp only[CN,AV,CM,eD h1,eD h2,eD h3];rfl
 have four:∀{a b c d:Nat} (h1:a<256) (h2:b<256) (h3:c<256) (f:d<256),AE (.Cb 1) [.int .u8 (a:Int),.int .u8 (b:Int),.int .u8 (c:Int),.int .u8 (d:Int)]=some (.sl 1 (CN [UInt8.ofNat a,UInt8.ofNat b,UInt8.ofNat c,UInt8.ofNat d])):=by intro a b c d h1 h2 h3 f;simp only[CN,AV,CM,eD h1,eD h2,eD h3,eD f];rfl
 have Ib:=hr;unfold MY at hr;obtain⟨n,rfl⟩:=MQ (Ac:0<=r);have hn:n<=1114111:=Ac;have cv:AE (.conv .i64) [.int .i32 (n:Int)]=some (I (n:Int)):=by rw[Rz,wrap_i64 Ac Ac]
 rw[Ag,aE6,t27];by_cases j:n<128
 .have e:Ga (n:Int)=[UInt8.ofNat n]:=by unfold Ga;rw[Ae Ac];rfl
  rw[e];simp only[abS,cv,(Ac:(n:Int)<128),Sl (Ac:n<256),one (Ac:n<256)]
 by_cases i:n<2048
 .have e:Ga (n:Int)=[UInt8.ofNat (192+n/64),UInt8.ofNat (128+n%64)]:=by unfold Ga;rw[Aa Ac,Ae Ac];rfl
  rw[e];simp only[abS,cv,(Ac:¬(n:Int)<128),(Ac:(n:Int)<2048),Zk (Ac:n<2147483648),ug (Ac:n/64<64),Sl (Ac:192+n/64<256),O1 (Ac:n<2147483648),M3 (Ac:n%64<64),Sl (Ac:128+n%64<256),Kj (Ac:192+n/64<256) (Ac:128+n%64<256)]
 by_cases g:n<65536
 .have e:Ga (n:Int)=[UInt8.ofNat (224+n/4096),UInt8.ofNat (128+n/64%64),UInt8.ofNat (128+n%64)]:=by unfold Ga;rw[Aa Ac,Aa Ac,Ae Ac];rfl
  rw[e];simp only[abS,cv,(Ac:¬(n:Int)<128),(Ac:¬(n:Int)<2048),(Ac:(n:Int)<65536),Zl (Ac:n<2147483648),uh (Ac:n/4096<64),Sl (Ac:224+n/4096<256),Zk (Ac:n<2147483648),O1 (Ac:n/64<2147483648),M3 (Ac:n/64%64<64),Sl (Ac:128+n/64%64<256),O1 (Ac:n<2147483648),M3 (Ac:n%64<64),Sl (Ac:128+n%64<256),Vz (Ac:224+n/4096<256) (Ac:128+n/64%64<256) (Ac:128+n%64<256)]
 .have e:Ga (n:Int)=[UInt8.ofNat (240+n/262144),UInt8.ofNat (128+n/4096%64),UInt8.ofNat (128+n/64%64),UInt8.ofNat (128+n%64)]:=by unfold Ga;rw[Aa Ac,Aa Ac,Aa Ac,Ae Ac];rfl
  rw[e];simp only[abS,cv,(Ac:¬(n:Int)<128),(Ac:¬(n:Int)<2048),(Ac:¬(n:Int)<65536),kN (Ac:n<2147483648),ui (Ac:n/262144<64),Sl (Ac:240+n/262144<256),Zl (Ac:n<2147483648),O1 (Ac:n/4096<2147483648),M3 (Ac:n/4096%64<64),Sl (Ac:128+n/4096%64<256),Zk (Ac:n<2147483648),O1 (Ac:n/64<2147483648),M3 (Ac:n/64%64<64),Sl (Ac:128+n/64%64<256),O1 (Ac:n<2147483648),M3 (Ac:n%64<64),Sl (Ac:128+n%64<256),four (Ac:240+n/262144<256) (Ac:128+n/4096%64<256) (Ac:128+n/64%64<256) (Ac:128+n%64<256)]
def uj(r:Int):Ga (if MY r then r else 65533)=Ga r:=by
 by_cases h:MY r;.rw[Ae h]
 .rw[Aa h];unfold MY at h;have:Ga r=[239,191,189]:=by unfold Ga;rw[Aa Ac,Aa Ac,Aa Ac,Aa Ac]
  have h2:Ga 65533=[239,191,189]:=by unfold Ga;rw[Aa Ac,Aa Ac,Ae Ac];decide+kernel
  rw[this,h2]
def ī(r:Int):MY (if MY r then r else 65533):=by
 by_cases h:MY r;.rw[Ae h];exact h
 .rw[Aa h];decide
section
variable{h h':Ai}{bi a:Nat}{o c t:Ab}{G G' F:Nat->Prop}{b:BS}{x:Int}{m:Nat}
variable{nm:Ah}{av:Ab}{l:List Bj}{r:List Ab}{sp p:Int}
def Ud{U:Type}{l:List U}{n:Nat}(hn:n<l.length):(l.take (n+1)).reverse=l[n]::(l.take n).reverse:=by rw[Bb hn,ET];rfl
def aK2(w:BX h bi a o c t G b)(rm:CH b m)(nm:Ah):
  ∃h' o',CD cx 86 [Pt bi 0,.str nm] h (.tuple []) h'/\BX h' bi a o' c t G (b.C1 nm)/\FC h (BU bi G) h' (BU bi G):=by
 have ho:=rm.Au;have Ql:Ev cx 86 [Pt bi 0,.str nm] h λr h'=>r= .tuple []/\∃o',BX h' bi a o' c t G (b.C1 nm)/\FC h (BU bi G) h' (BU bi G):=by
  unfold Ev;rw[ā,t86];simp only[abS,(Jp w).Af,(Vg w.sA).Af,Ek (Ac: -9223372036854775808<=(b.Au.length:Int)-1) (Ac:(b.Au.length:Int)-1<9223372036854775808)];refine Cv (λn:Nat=>[I ((n:Int)-1)]) (λn h1=>n<=b.Au.length/\(b.Au.reverse.find? λi=>AH [nm] i||AS i)=((b.Au.take n).reverse.find? λi=>AH [nm] i||AS i)/\h1=h) (λn=>n) b.Au.length rfl ⟨Ad _,by rw[Bl],rfl⟩ ?_;rintro n h1 ⟨hn,ha,rfl⟩;cases n with
  |zero=>
   have e:b.C1 nm=b:=by unfold BS.C1;rw[ha];rfl
   simp only[abS,(Ac:¬(0:Int)<=((0:Nat):Int)-1)];exact⟨_,rfl,rfl,o,by rw[e];exact w,.refl⟩
  |succ n=>
   have hlt:n<b.Au.length:=Ac;have i1:((n+1:Nat):Int)-1=(n:Int):=Ac;have g:=WD w.sA (n:Int);rw[IK hlt] at g;have em:AE (.Cb 1) [.str nm]=some (.sl 1 ([nm].map Cw)):=Fp (ws:=[nm]) rfl AB;have r2:=ue (ws:=[nm]) Dl AB b.Au[n] h1;rw[Ud hlt,Iv] at ha;generalize hi:b.Au[n]=i at*;rw[Item.row] at r2;simp only[abS,Ly,i1,(Ac:(0:Int)<=(n:Int)),g.Af,em];have f:CD cx 164 [.agg i.row,.sl 1 ([nm].map Cw)] h1 (.bool (AH [nm] i)) h1:=r2;rw[f.Af,ON,DE];refine⟨λh2=>?_,λh2=>?_⟩
   .obtain⟨s,q,gD⟩:=aG0 w.sO Ac nm;have w1:=w.PX gD;have E0:=iH (b:=CL nm) (a:=Dm) (l:=b.Au);obtain⟨j,k,TM⟩:=aKf w1.sO FY i.node;simp only[Cy,q.Af,k.Af];refine⟨_,rfl,rfl,j,?_,Cz.trans Cz⟩;have e:b.C1 nm={b with Au:=Hq i.node (D6 (CL nm) Dm b.Au)}:=by unfold BS.C1;rw[ha];simp only[h2,Qp,BN]
    rw[e];exact w1.PX TM
   .simp only[h2,Kg] at ha;simp only[(aBD i.Bd i.name).Bz rfl rfl];rw[ON,DE];refine⟨λh3=>?_,λh3=>?_⟩
    .have d:AS i=true:=h3;rw[d] at ha;have e:b.C1 nm=b:=by unfold BS.C1;rw[ha];simp only[h2,B5,DK]
     simp only[Cy];exact⟨_,rfl,rfl,o,by rw[e];exact w,.refl⟩
    .have d:AS i=false:=h3;rw[d] at ha;simp only[Cy,Ek (Ac: -9223372036854775808<=(n:Int)-1) (Ac:(n:Int)-1<9223372036854775808)];exact By.next n rfl ⟨Ac,ha,rfl⟩ Ac
 obtain⟨r,h',hr,rfl,o',w',x'⟩:=Ql.ret;exact⟨h',o',hr,w',x'⟩
def aK3(w:BX h bi a o c t G b)(rm:CH b m){k:Nat}(hk:k<=b.Au.length):CD cx 224 [Pt bi 0,I (k:Int)] h (I (BS.RG (b.Au.take k))) h:=by
 have ho:=rm.Au;rw[Ag,gy,aGk];simp only[Cy,Ek (Ac: -9223372036854775808<=(k:Int)-1) (Ac:(k:Int)-1<9223372036854775808)];refine Cv (λn:Nat=>[I 0,I ((n:Int)-1)]) (λn h1=>n<=k/\((b.Au.take k).reverse.find? λi=>AH [AW] i||AH [JS] i)=((b.Au.take n).reverse.find? λi=>AH [AW] i||AH [JS] i)/\h1=h) (λn=>n) k rfl ⟨Ad _,rfl,rfl⟩ ?_;rintro n h1 ⟨hn,ha,rfl⟩;cases n with
 |zero=>simp only[abS,(Ac:¬(0:Int)<=((0:Nat):Int)-1)];unfold BS.RG;rw[ha];rfl
 |succ n=>
  have hlt:n<b.Au.length:=Ac;have i1:((n+1:Nat):Int)-1=(n:Int):=Ac;have f:=WD w.sA (n:Int);rw[IK hlt] at f;have e:AE (.Cb 1) [S AW]=some (.sl 1 ([AW].map Cw)):=Fp (ws:=[AW]) rfl Az;have d:AE (.Cb 1) [S JS]=some (.sl 1 ([JS].map Cw)):=Fp (ws:=[JS]) rfl Az;have r2:=ue (ws:=[AW]) Dl Az b.Au[n] h1;have g:=ue (ws:=[JS]) Dl Az b.Au[n] h1;rw[Ud hlt,Iv] at ha;simp only[abS,i1,(Ac:(0:Int)<=(n:Int)),f.Af,e,r2.Af,d,g.Af,Ek (Ac: -9223372036854775808<=(n:Int)-1) (Ac:(n:Int)-1<9223372036854775808)];rw[DE];refine⟨λh2=>?_,λh2=>?_⟩;.simp only[h2,Qp] at ha;unfold BS.RG;rw[ha];simp only[h2,BN]
  .simp only[h2,Kg] at ha;rw[DE];refine⟨λh3=>?_,λh3=>?_⟩;.rw[h3] at ha;unfold BS.RG;rw[ha];simp only[h2,B5,DK]
   .rw[h3] at ha;exact By.next n rfl ⟨Ac,ha,rfl⟩ Ac
def wM(r:Ah×Int):List Ab:=[.str r.1,I r.2]
def kP{z:Nat}{Ay:List (List Ab)}{args:List Ab}(e:args=Ay.map Ab.agg)(hz:∀r∈Ay,r.length=z)(hl:Ay.length*z<=16777216):AE (.Cb z) args=some (.sl z Ay):=by
 subst e;have f:(Ay.map Ab.agg).all (λa=>a.cells.length==z)=true:=by simp[Ab.cells];exact hz
 have d:(Ay.map Ab.agg).map (·.cells)=Ay:=by rw[List.map_map];exact List.map_id _
 rw[zS,f,d];simp[hl]
def Ĭ{args:List Ab}(e:args=(IE.map wM).map Ab.agg):AE (.Cb 2) args=some (.sl 2 (IE.map wM)):=kP e (λr hr=>by obtain⟨x,_,rfl⟩:=A5.1 hr;rfl) Az
def aK4:CD cx 223 [] h (.sl 2 (IE.map wM)) h:=by rw[Ag,gx,aGj];simp only[abS,Nat.reduceLeDiff,↓reduceIte,Cl];exact(B6 (λz=>dC z λv=>[v]=[Ab.sl 2 (IE.map wM)]) (Ĭ rfl)).mpr (by rw[Nk])
def eF{s:Ah}{i:Item}:AH [s] i=decide (i.Bd=1/\i.name=s):=by unfold AH;simp
def uk{i:Item}{k:Nat}:b.HF i k=match IE.find? λr=>AH [r.1] i with
  |some r=>some r.2
  |none=>if AH [KU] i then some (BS.RG (b.Au.take k)) else if AH [xq,xr] i&&decide (0<k) then some 15 else if AH [AW] i then some (b.tm.getLast?.getD 7) else if AH [I2] i&&decide (0<k) then some 4 else if AH [IW] i then some (if b.head=0 then 3 else 6) else if k=0 then some 7 else none:=by
 unfold BS.HF;by_cases hs:i.Bd=1
 .rw[Ae hs];have e:(λr:Ah×Int=>AH [r.1] i)=λr=>decide (r.1=i.name):=by funext r;rw[eF,Fy];exact⟨λh=>h.2.symm,λh=>⟨hs,h.symm⟩⟩
  rw[e];cases hf:IE.find? λr=>decide (r.1=i.name) with
  |some r=>rfl
  |none=>simp only[AH,hs,GV,AF,Ej,Mv,Bg,CF]
 .rw[Aa hs];have e:(λr:Ah×Int=>AH [r.1] i)=λ_=>false:=by funext r;rw[eF,Ap (λh=>hs h.1)]
  rw[e];have d:IE.find? (λ_=>false)=none:=Az;rw[d];simp only[AH,hs,aD,Fg,B5,DK,Bool.false_and]
def aK5(w:BX h bi a o c t G b)(rm:CH b m)(i:Item){k:Nat}(hk:k<=b.Au.length):CD cx 173 [Pt bi 0,.agg i.row,I (k:Int)] h (.tuple [I ((b.HF i k).getD 7),.bool (b.HF i k).isSome]) h:=by
 have ho:=rm.Au;have R:=rm.tm;have y7:Bx 2 (IE.map wM) (.sl 2 (IE.map wM)):= .mk;have C:=λws hw=>ue (ws:=ws) Dl hw i h;rw[uk,Ag,dk,aFL];have hlen:IE.length=9:=rfl;have Q:=y7.GN;rw[hlen] at Q;simp only[Cy,↓reduceIte,Ly,aK4.Af,Q];refine Cv (λn:Nat=>[I 0,ff,I (n:Int)]) (λn h1=>n<=9/\(IE.find? λr=>AH [r.1] i)=((IE.drop n).find? λr=>AH [r.1] i)/\h1=h) (λn=>9 -n) 0 rfl ⟨Bn _,rfl,rfl⟩ ?_;rintro n h1 ⟨hn,ha,rfl⟩;rcases Bm n 9 with hlt|JA
 .have t_:n<IE.length:=hlt;have em:AE (.Cb 1) [.str IE[n].1]=some (.sl 1 ([IE[n].1].map Cw)):=Fp (ws:=[IE[n].1]) rfl AB;rw[AA t_,Iv] at ha;simp only[Cy,Nat.reduceLeDiff,↓reduceIte,hZ,(Ac:(n:Int)<((9:Nat):Int)),y7.DN t_,wM,em,(C [IE[n].1] AB).Af,DB (Ac:n<9223372036854775807)];rw[DE];refine⟨λh2=>?_,λh2=>?_⟩;.rw[h2] at ha;rw[ha];simp
  .rw[h2] at ha;exact By.next (n+1) rfl ⟨hlt,ha,rfl⟩ Ac
 .have T:n=9:=by omega
  subst T;have ha:(IE.find? λr=>AH [r.1] i)=none:=ha;rw[ha];have q:AE (.Cb 1) [S aYp]=some (.sl 1 ([KU].map Cw)):=Fp (ws:=[KU]) rfl Az;have s:AE (.Cb 1) [S [116,100],S [116,104]]=some (.sl 1 ([xq,xr].map Cw)):=Fp (ws:=[xq,xr]) rfl Az;have u:AE (.Cb 1) [S aXP]=some (.sl 1 ([AW].map Cw)):=Fp (ws:=[AW]) rfl Az;have J:AE (.Cb 1) [S aXR]=some (.sl 1 ([I2].map Cw)):=Fp (ws:=[I2]) rfl Az;have L:AE (.Cb 1) [S aXM]=some (.sl 1 ([IW].map Cw)):=Fp (ws:=[IW]) rfl Az;have f:=C [KU] Az;have d:=C [xq,xr] Az;have g:=C [AW] Az;have y:=C [I2] Az;have B:=C [IW] Az;have rs:=aK3 w rm hk;have lt:=(IY.qE (h:=h1) w.t);have j:¬((9:Nat):Int)<((9:Nat):Int):=Az;have l6:=w.l6;have H:b.tm≠[]->∃p,AE (.int .sub) [I (b.tm.length:Int),I 1]=some (I ((b.tm.length-1:Nat):Int))/\AE (.Hj 1) [t,I ((b.tm.length-1:Nat):Int)]=some p/\Bp h1 none p=some (I (b.tm.getLast?.getD 7)):=by intro hne;have hpos:=CB.2 hne;obtain⟨p,E,D⟩:=lt.at_ (b.tm.length-1) Ac;refine⟨p,Ol hpos Ac,E,?_⟩;rw[D,RY,Av Ac];rfl
  by_cases g1:AH [KU] i=true;.rw[g1] at f;simp only[abS,↓reduceIte,j,q,f.Af,rs.Af,g1,Fx,aRA]
  .have g1:AH [KU] i=false:=by simpa using g1
   rw[g1] at f;by_cases A:0<k
   .have N:¬k=0:=by omega
    have z:¬(k:Int)=0:=Ac;have v:(0:Int)<(k:Int):=Ac;cases g2:AH [xq,xr] i<;>rw[g2] at d;rotate_left;.simp only[Cy,↓reduceIte,j,q,f.Af,s,d.Af,A,v,g1,dJ]
    cases g3:AH [AW] i<;>rw[g3] at g;rotate_left
    .by_cases ht:b.tm=[];.simp only[Cy,↓reduceIte,j,q,f.Af,s,d.Af,u,g.Af,A,v,g1,dJ,l6,lt.len,ht,Int.natCast_zero,aCx,aTe]
     .obtain⟨p,E,D,M⟩:=H ht;have J0:¬b.tm.length=0:=λe=>ht (Fz.1 e);simp only[Cy,↓reduceIte,j,q,f.Af,s,d.Af,u,g.Af,A,v,g1,dJ,l6,lt.len,(Ac:(0:Int)<(b.tm.length:Int)),E,D,M]
    cases P:AH [I2] i<;>rw[P] at y;rotate_left;.simp only[Cy,↓reduceIte,j,q,f.Af,s,d.Af,u,g.Af,J,y.Af,A,v,g1,dJ]
    all_goals cases O:AH [IW] i<;>rw[O] at B
    all_goals first
     |simp only[Cy,↓reduceIte,j,q,f.Af,s,d.Af,u,g.Af,J,y.Af,L,B.Af,A,N,z,v,g1,dJ];done
     |by_cases K:b.head=0
      .simp only[Cy,↓reduceIte,j,q,f.Af,s,d.Af,u,g.Af,J,y.Af,L,B.Af,A,z,v,g1,dJ,w.l7,K]
      .simp only[Cy,↓reduceIte,j,q,f.Af,s,d.Af,u,g.Af,J,y.Af,L,B.Af,A,z,v,g1,dJ,w.l7,K]
   .have N:k=0:=by omega
    subst N;have v:¬(0:Int)<((0:Nat):Int):=Az;have z:((0:Nat):Int)=0:=rfl;by_cases g3:AH [AW] i=true
    .rw[g3] at g;cases g2:AH [xq,xr] i<;>rw[g2] at d<;>by_cases ht:b.tm=[];all_goals first
      |simp only[Cy,↓reduceIte,j,q,f.Af,s,d.Af,u,g.Af,z,g1,g3,dJ,l6,lt.len,ht,aCx,aTe,DI];done
      |obtain⟨p,E,D,M⟩:=H ht
       have J0:¬b.tm.length=0:=λe=>ht (Fz.1 e);simp only[Cy,↓reduceIte,j,q,f.Af,s,d.Af,u,g.Af,z,g1,g3,dJ,l6,lt.len,(Ac:(0:Int)<(b.tm.length:Int)),E,D,M,DI]
    .have g3:AH [AW] i=false:=by simpa using g3
     rw[g3] at g;cases g2:AH [xq,xr] i<;>rw[g2] at d<;>cases P:AH [I2] i<;>rw[P] at y<;>cases O:AH [IW] i<;>rw[O] at B<;>by_cases K:b.head=0;all_goals simp only[Cy,↓reduceIte,j,q,f.Af,s,d.Af,u,g.Af,J,y.Af,L,B.Af,z,g1,g3,dJ,w.l7,K,DI]
end
section
variable{h h':Ai}{bi a:Nat}{o c t:Ab}{G G' F:Nat->Prop}{b:BS}{x:Int}{m:Nat}
variable{nm:Ah}{av:Ab}{l:List Bj}{r:List Ab}{sp p:Int}
def BX.aPK(w:BX h bi a o c t G b):Bp h (some 4) (Pt bi 10)=some (.agg b.ctx.row):=by simp only[Bp,w.hb];rfl
def BX.aK6(w:BX h bi a o c t G b)(v:Int):BX (Am.put h bi 4 (I v)) bi a o c t G {b with mode:=v}:=w.put rfl rfl w.o w.t
def CH.mode{v:Int}(rm:CH b m):CH {b with mode:=v} m:=⟨rm.n,rm.at_,rm.data,rm.Au,rm.A3,rm.tm,rm.Es,rm.vO⟩
def aHc(w:BX h bi a o c t G b)(rm:CH b m):
  ∃h',CD cx 92 [Pt bi 0] h (.tuple []) h'/\BX h' bi a o c t G b.JR/\FC h (BU bi G) h' (BU bi G):=by
 have ho:=rm.Au;have Ql:Ev cx 92 [Pt bi 0] h λr h'=>r= .tuple []/\BX h' bi a o c t G b.JR/\FC h (BU bi G) h' (BU bi G):=by
  unfold Ev;have w1:=w.aK6 7;rw[Ć,t92];simp only[abS,(Jp w).Af,w.st (k:=4) (v:=I 7) rfl rfl,(Vg w1.sA).Af,Ek (Ac: -9223372036854775808<=(b.Au.length:Int)-1) (Ac:(b.Au.length:Int)-1<9223372036854775808)];refine Cv (λn:Nat=>[I ((n:Int)-1)]) (λn h1=>n<=b.Au.length/\b.Io b.Au.length=b.Io n/\h1=Am.put h bi 4 (I 7)) (λn=>n) b.Au.length rfl ⟨Ad _,rfl,rfl⟩ ?_;rintro n h1 ⟨hn,ha,rfl⟩;cases n with
  |zero=>
   have e:b.JR={b with mode:=7}:=by unfold BS.JR;rw[ha];rfl
   simp only[abS,(Ac:¬(0:Int)<=((0:Nat):Int)-1)];exact⟨_,rfl,rfl,by rw[e];exact w1,Cz⟩
  |succ n=>
   have hlt:n<b.Au.length:=Ac;have i1:((n+1:Nat):Int)-1=(n:Int):=Ac;have g:=WD w1.sA (n:Int);rw[show El ({b with mode:=7}:BS).Au (n:Int)=b.Au[n] from IK hlt] at g;have r2:∀i:Item,CD cx 173 [Pt bi 0,.agg i.row,I (n:Int)] (Am.put h bi 4 (I 7)) (.tuple [I ((b.HF i n).getD 7),.bool (b.HF i n).isSome]) (Am.put h bi 4 (I 7)):=λi=>aK5 w1 rm.mode i (k:=n) FY;have d:=r2 (b.D7 n);have JZ:∀v,Dd (Am.put h bi 4 (I 7)) 1 (Pt bi 4) (I v)=some (Am.put (Am.put h bi 4 (I 7)) bi 4 (I v)):=λv=>w1.st (k:=4) rfl rfl;have e:b.Io (n+1)=match b.HF (b.D7 n) n with|some m=>m|none=>b.Io n:=rfl
   rw[e] at ha;have mW:=w1.l9;have hlc:=w1.aPK;have Yl:=Ek (Ac: -9223372036854775808<=(n:Int)-1) (Ac:(n:Int)-1<9223372036854775808);cases hm:b.HF (b.D7 n) n with
   |none=>
    rw[hm] at d ha;by_cases h0:n=0
    .have qj:((n:Int)=0)=True:=BI Ac;cases hf:b.Lh with
     |true=>
      have f:b.D7 n=b.ctx:=by unfold BS.D7;rw[Ae ⟨h0,hf⟩]
      rw[f] at d;rw[show({b with mode:=7}:BS).Lh=true from hf] at mW;simp only[Cy,Ly,i1,g.Af,mW,hlc,d.Af,JZ,dJ,(Ac:(0:Int)<=(n:Int)),qj,Yl];exact By.next n rfl ⟨Ac,ha,rfl⟩ Ac
     |false=>
      have f:b.D7 n=b.Au[n]:=by unfold BS.D7;rw[Aa (by simp[hf]),AL,Av hlt];rfl
      rw[f] at d;rw[show({b with mode:=7}:BS).Lh=false from hf] at mW;simp only[Cy,Ly,i1,g.Af,mW,hlc,d.Af,JZ,dJ,(Ac:(0:Int)<=(n:Int)),qj,Yl];exact By.next n rfl ⟨Ac,ha,rfl⟩ Ac
    .have f:b.D7 n=b.Au[n]:=by unfold BS.D7;rw[Aa (by simp[h0]),AL,Av hlt];rfl
     rw[f] at d;have qj:¬(n:Int)=0:=Ac;simp only[Cy,Ly,i1,g.Af,d.Af,JZ,dJ,(Ac:(0:Int)<=(n:Int)),qj,Yl];exact By.next n rfl ⟨Ac,ha,rfl⟩ Ac
   |some v=>
    rw[hm] at d ha;have e:b.JR={b with mode:=v}:=by unfold BS.JR;rw[ha]
    have j:BX (Am.put (Am.put h bi 4 (I 7)) bi 4 (I v)) bi a o c t G b.JR:=by rw[e];exact w1.aK6 v
    by_cases h0:n=0
    .have qj:((n:Int)=0)=True:=BI Ac;cases hf:b.Lh with
     |true=>
      have f:b.D7 n=b.ctx:=by unfold BS.D7;rw[Ae ⟨h0,hf⟩]
      rw[f] at d;rw[show({b with mode:=7}:BS).Lh=true from hf] at mW;simp only[Cy,Ly,i1,g.Af,mW,hlc,d.Af,JZ,dJ,(Ac:(0:Int)<=(n:Int)),qj];exact⟨_,rfl,rfl,j,Cz.trans Cz⟩
     |false=>
      have f:b.D7 n=b.Au[n]:=by unfold BS.D7;rw[Aa (by simp[hf]),AL,Av hlt];rfl
      rw[f] at d;rw[show({b with mode:=7}:BS).Lh=false from hf] at mW;simp only[Cy,Ly,i1,g.Af,mW,hlc,d.Af,JZ,dJ,(Ac:(0:Int)<=(n:Int)),qj];exact⟨_,rfl,rfl,j,Cz.trans Cz⟩
    .have f:b.D7 n=b.Au[n]:=by unfold BS.D7;rw[Aa (by simp[h0]),AL,Av hlt];rfl
     rw[f] at d;have qj:¬(n:Int)=0:=Ac;simp only[Cy,Ly,i1,g.Af,d.Af,JZ,dJ,(Ac:(0:Int)<=(n:Int)),qj];exact⟨_,rfl,rfl,j,Cz.trans Cz⟩
 obtain⟨r,h',hr,rfl,w',x'⟩:=Ql.ret;exact⟨h',hr,w',x'⟩
def um{h0 u:Ai}{V:Ab}{L:List Bj}{N:Nat}(j:N=h0.length)(g:L2 (h0++u) V L)(i:Up N V)(hb:L.length<=1000000000)(y:Bj):
  ∃f d,Hk (h0++u) 3 40 V (.sl 3 [y.row])=some (h0++f,d)/\L2 (h0++f) d (L++[y])/\Up N d:=by
 subst j;have Ŵ:AY=140737488355328:=rfl;rcases g with⟨rfl,rfl⟩|⟨id,rfl,hc,hl⟩
 .refine⟨u++[.cells (([y]:List Bj).map Bj.row).flatten],.Du (h0++u).length 0 1 3,by rw[<-A7];rfl,.inr ⟨(h0++u).length,rfl,AB,AB⟩,λid k e=>by injection e with e;rw[<-e,An];omega⟩
 .have JB:h0.length<=id:=i id _ rfl;have hg:=SH (b:=40) (Ay:=L.map Bj.row) (r2:=[y.row]) (v:= .sl 3 [y.row]) (aG2 L) Az hc .mk AB (by rw[Aw];simp;omega);rw[Aw] at hg;have e:(h0++u).set id .Ef++[.cells (L.map Bj.row++[y.row]).flatten]=h0++(u.set (id-h0.length) .Ef++[.cells ((L++[y]).map Bj.row).flatten]):=by rw[Ce _ _ JB,A7,B3];rfl
  rw[e] at hg;have uB:(h0++(u.set (id-h0.length) GX.Ef++[.cells ((L++[y]).map Bj.row).flatten]))=(h0++u.set (id-h0.length) GX.Ef)++[.cells ((L++[y]).map Bj.row).flatten]:=by rw[A7]
  have xm:(h0++u.set (id-h0.length) GX.Ef).length=(h0++u).length:=AB;refine⟨_,_,hg,.inr ⟨(h0++u).length,AB,?_,?_⟩,λid k e=>by injection e with e;rw[<-e,An];omega⟩;.rw[uB,<-xm,Bu (Ad _),Fh];rfl
  .rw[uB];simp only[An,Ci,AJ,AZ];omega
def aK7(y c:Bj)(h:Ai):CD cx 248 [.agg c.row,.Cd y.row] h (.bool (decide (F0 ⟨0,y.name,y.value⟩=F0 c))) h:=by
 rw[Ag,iy,aGu,Bj.row,Bj.row];simp only[Cy];refine⟨λh1=>?_,λh1=>?_⟩;.congr 2;rw[Fy];simp[F0,h1];exact yc
 .rw[Ap (λe=>h1 (by simp[F0] at e;exact e.1.symm))]
def Bj.uo{y:Bj}:(⟨0,y.name,y.value⟩:Bj).row=[I 0,.str y.name,.str y.value]:=rfl
def Vi(k:Int×Ah):∀{l out:List Bj},(GP out l).any (λz=>decide (k=F0 z))=(out++l).any λz=>decide (k=F0 z)
 |[],out=>by simp[GP]
 |y::l,out=>by
  rw[GP];split
  .rename_i h;rw[Vi k,List.any_append,List.any_append,Tc];by_cases hk:k=F0 y;.subst hk;rw[h];rfl
   .simp[hk]
  .rw[Vi k,A7];rfl
def ĭ(k:Int×Ah)(l:List Bj):(Dx l).any (λz=>decide (k=F0 z))=l.any λz=>decide (k=F0 z):=Vi k
def Vj{l:List Bj}{y:Bj}:Dx (l++[y])=if(Dx l).any (λz=>decide (F0 y=F0 z)) then Dx l else Dx l++[y]:=Zf
def aPL(w:BX h bi a o c t G b)(ok:EC b)(rm:CH b (m+1000))(hr:kK nm av r)(hv:BF l av)(hl:GQ l)(x:Int):
  ∃h' G',CD cx 209 [Pt bi 0,.agg r,I x] h (.tuple []) h'/\BX h' bi a o c t G' (b.FJ l x)/\FC h (BU bi G) h' (BU bi G'):=by
 obtain⟨K1,V1,d,B,_,_⟩:=WI w ok rm x;have w1:=w.L1 (u:=d);obtain⟨X,W,U,T,S,Q,P,O,mT,zO,rfl⟩:=hr;have v:FC h (BU bi G) (h++d) (BU bi G):=w.EF;by_cases hk:(b.a.nd x).kind=4;rotate_left;.refine⟨h++d,G,?_,by unfold BS.FJ;rw[Aa hk];exact w1,v⟩;rw[Ag,jQ,aBr];simp only[abS,↓reduceIte,(Jp w).Af,B.Af,CP,hk]
 obtain⟨K2,Y,A,r2,_,f,g⟩:=WI w1 ok rm x;have w2:=w1.L1 (u:=A);have x2:FC h (BU bi G) (h++d++A) (BU bi G):=v.trans w1.EF;have hx:b.a.has x:=by
  by_cases hp:b.a.has x;.exact hp
  .rw[OV hp] at hk;simp at hk
 have WV:=rm.at_ x;have yZ:=hl.1;have Ql:Ev cx 209 [Pt bi 0,.agg [X,.str nm,W,U,T,S,Q,P,av,O,mT,zO],I x] h λr h'=>r= .tuple []/\∃G',BX h' bi a o c t G' (b.FJ l x)/\FC h (BU bi G) h' (BU bi G'):=by
  unfold Ev;rw[jQ,aBr];have hvl:=Bx.GN hv;simp only[abS,↓reduceIte,(Jp w).Af,B.Af,r2.Af,CP,hk,hvl];refine Cv (λs:Ab×Nat=>[s.1,I (s.2:Int)]) (λs h1=>∃u L,h1=h++d++u/\s.2<=l.length/\L2 h1 s.1 L/\Up (h++d).length s.1/\Dx L=Dx ((b.a.nd x).As++BS.plain (l.take s.2))/\(∀y∈L,BS.LD y.Bd)/\L.length<=(b.a.nd x).As.length+s.2) (λs=>l.length-s.2) (Y,0) rfl ⟨A,(b.a.nd x).As,rfl,Bn _,f,g,?_,?_,AB⟩ ?_;.simp[BS.plain]
  .exact λy hy=>(ok.ok.Tg x hx).Ô y hy
  rintro⟨V,n⟩ h1 ⟨u,L,rfl,hn,f,g,j,hs,E0⟩;simp only at hn f g j E0;rcases Bm n l.length with hlt|JA
  .have D:=Bx.DN (k:= .i64) hv hlt;rw[Bj.row] at D;have i:=aDn f.in_ Ac (F:= .func (.func 248) [] [.Cd l[n].row]) (q:=λc=>decide (F0 ⟨0,l[n].name,l[n].value⟩=F0 c)) ⟨_,_,rfl,Az,λc=>aK7 l[n] c _⟩;rw[Bj.row] at i;obtain⟨M,Z,g1,g2,g3⟩:=um (N:=(h++d).length) rfl f g Ac ⟨0,l[n].name,l[n].value⟩;rw[Bj.uo] at g1;have em:AE (.Cb 3) [.agg [I 0,.str l[n].name,.str l[n].value]]=some (.sl 3 [[I 0,.str l[n].name,.str l[n].value]]):=rfl;have E:Dx ((b.a.nd x).As++BS.plain (l.take (n+1)))=Dx (L++[⟨0,l[n].name,l[n].value⟩]):=by rw[Bb hlt,BS.plain,B3,<-A7,aRD,Vj,Vj,j];rfl
   have C:Dx (L++[⟨0,l[n].name,l[n].value⟩])=if L.any (λz=>decide (F0 ⟨0,l[n].name,l[n].value⟩=F0 z)) then Dx L else Dx L++[⟨0,l[n].name,l[n].value⟩]:=by rw[Vj,ĭ]
   simp only[abS,Nat.reduceLeDiff,↓reduceIte,Cl,(Ac:(n:Int)<(l.length:Int)),D,i.Af,em,g1,DB (Ac:n<9223372036854775807)];rw[DE];refine⟨λh2=>?_,λh2=>?_⟩
   .refine By.next (Z,n+1) rfl ⟨M,_,rfl,hlt,g2,g3,E.symm,?_,EE⟩ FY;intro y hy;rcases Ao.1 hy with hy|hy
    .exact hs y hy
    .simp at hy;subst hy;exact⟨FY,FY⟩
   .have h2:(L.any λz=>decide (F0 ⟨0,l[n].name,l[n].value⟩=F0 z))=true:=by simpa using h2
    rw[Ae h2] at C;exact By.next (V,n+1) rfl ⟨u,L,rfl,hlt,f,g,by rw[E,C],hs,FY⟩ FY
  .have RS:n=l.length:=by omega
   subst RS;rw[Bl] at j;simp only[abS,↓reduceIte,(Ac:¬(l.length:Int)<(l.length:Int)),(w1.L1 (u:=u)).l0];obtain⟨h3,G3,i,K,H⟩:=(w1.L1 (u:=u)).step (A':=b.a.No x L) (R:=λh3=>CD cx 249 [Pt a 0,I x,V] (h++d++u) (I 0) h3) λn m ps J=>by obtain⟨h',PV,f1,f2,f3⟩:=aKq J rm.WA hx hk f.in_ Ac hs;exact⟨h',n,m,PV,f1,f2,f3⟩
   have e:b.FJ l x={b with a:=b.a.No x L}:=by unfold BS.FJ;rw[Ae hk];unfold Ar.No;rw[j]
   simp only[Cy,i.Af];refine⟨_,rfl,rfl,G3,?_,?_⟩;.rw[e];exact K
   .exact(v.trans w1.EF).trans H
 obtain⟨r,h',hr,rfl,G',w',x'⟩:=Ql.ret;exact⟨h',G',hr,w',x'⟩
end
section
variable{h h':Ai}{bi a:Nat}{o c t:Ab}{G G' F:Nat->Prop}{b b':BS}{x:Int}{m:Nat}
variable{nm:Ah}{av:Ab}{l:List Bj}{r:List Ab}{sp p:Int}
def CH.sub(rm:CH b m)(ha:b'.a=b.a)(ho:b'.Au.Sublist b.Au)(hc:b'.A3.Sublist b.A3)(ht:b'.tm.length<=b.tm.length):CH b' m:=
 ⟨by rw[ha];exact rm.n,by rw[ha];exact rm.at_,by rw[ha];exact rm.data,by have:=rm.Au;have:=ho.length_le;omega,by have:=rm.A3;have:=hc.length_le;omega,by have:=rm.tm;omega,λe he=>rm.Es e (hc.subset he),λi hi=>rm.vO i (ho.subset hi)⟩
def aHd{v:Ab}{l:List Int}(hv:IY l v)(hb:l.length<=1000000000)(h:Ai):∃u,CD cx 78 [v] h u h/\IY l u:=by
 have Lm:Bx 1 (l.map Di) v:=hv;have hm:AY=140737488355328:=rfl;obtain⟨u,e,hu⟩:=Bx.Wy (l:=([]:List Int)) (f:=Di) (v:= .sl 1 []) (b:=8) .mk Lm EE;rcases Lm with rfl|⟨rfl,h0⟩
 .refine⟨u,?_,hu⟩;rw[Ag,vZ,t78];simp only[Cy,show AE (.Gs false .sl) [.sl 1 (l.map Di),.slnil]=some (.bool false) from rfl,show AE (.Cb 1) []=some (.sl 1 []) from rfl,e]
 .refine⟨.slnil,?_,.inr ⟨rfl,h0⟩⟩;rw[Ag,vZ,t78];simp only[Cy,show AE (.Gs false .sl) [.slnil,.slnil]=some (.bool true) from rfl]
def BX.aHe{u:Ab}{l:List Int}(w:BX h bi a o c t G b)(hu:IY l u):BX (Am.put h bi 6 u) bi a o c u G {b with tm:=l}:=w.put rfl rfl w.o hu
def Į:AE (.Cb 1) [S aXP]=some (.sl 1 ([AW].map Cw)):=Fp (ws:=[AW]) rfl Az
def aPM(w:BX h bi a o c t G b)(hc:EH b.A3 c)(rm:CH b m):
  ∃h' o' c' t',CD cx 79 [Pt bi 0] h (.tuple []) h'/\BX h' bi a o' c' t' G b.Dn/\EH b.Dn.A3 c'/\FC h (BU bi G) h' (BU bi G):=by
 have ho:=rm.Au;have pR:=rm.A3;have P:=rm.tm;have A:=aBF w.sA Ac AW;by_cases KI:AD (AH [AW]) b.Au<0;.refine⟨h,o,c,t,?_,by unfold BS.Dn;rw[Ae KI];exact w,by unfold BS.Dn;rw[Ae KI];exact hc,.refl⟩;rw[Ag,iS,t79];simp only[abS,(Jp w).Af,A.Af,KI]
 obtain⟨y,r2,gD⟩:=aO8 w.sO Ac;have w1:=w.PX gD;have l1:(D6 EG Dm b.Au).length<=b.Au.length:=iH;obtain⟨f,J,TM⟩:=f66 w1.sO FY (Dl (ws:=[AW])) Az;have E:=w1.PX TM;obtain⟨fs,MM,hcs⟩:=hc;have Jz:fs.length=b.A3.length:=by rw[<-MM,Aw]
 obtain⟨d,H,C⟩:=f65 (show U5 _ bi 3 fs from⟨c,E.ud,hcs⟩) Ac;have j:=E.Ub (u:=d) (l:=FF b.A3);have cY:EH (FF b.A3) d:=⟨_,by rw[ky,MM],C⟩;have lt:=Bx.GN w.t;have l6:=j.l6;have e:b.Dn=BS.JR {b with Au:=D6 Dm (AH [AW]) (D6 EG Dm b.Au),A3:=FF b.A3,tm:=b.tm.dropLast}:=by unfold BS.Dn;rw[Aa KI]
 have sO:(D6 Dm (AH [AW]) (D6 EG Dm b.Au)).Sublist b.Au:=(Dh (p:=Dm) (q:=AH [AW]) (l:=D6 EG Dm b.Au)).trans Dh;have D:FC h (BU bi G) (put (put (put h bi 2 y) bi 2 f) bi 3 d) (BU bi G):=(Cz.trans Cz).trans Cz;by_cases h0:b.tm=[]
 .have v:BX (put (put (put h bi 2 y) bi 2 f) bi 3 d) bi a f d t G {b with Au:=D6 Dm (AH [AW]) (D6 EG Dm b.Au),A3:=FF b.A3,tm:=b.tm.dropLast}:=by
   have:b.tm.dropLast=b.tm:=by rw[h0];rfl
   rw[this];exact j
  obtain⟨R,z,s,L⟩:=aHc v (rm.sub (b':={b with Au:=D6 Dm (AH [AW]) (D6 EG Dm b.Au),A3:=FF b.A3,tm:=b.tm.dropLast}) rfl sO (Ch _ _) AB);refine⟨R,f,d,t,?_,by rw[e];exact s,by rw[e];exact cY,D.trans L⟩;have B:AE (.len false) [t]=some (I 0):=by rw[lt,h0];rfl
  rw[Ag,iS,t79];simp only[abS,(Jp w).Af,A.Af,KI,r2.Af,Į,J.Af,H.Af,l6,B,z.Af,dJ]
 .have hpos:=CB.2 h0;obtain⟨T,S,i⟩:=Bx.TS w.t (k:= .i64) (n:=b.tm.length-1) Ac;rw[<-WM] at i;obtain⟨N,z,g⟩:=aHd i EE (put (put (put h bi 2 y) bi 2 f) bi 3 d);have s:=j.aHe g;obtain⟨Q,O,M,K⟩:=aHc s (rm.sub (b':={b with Au:=D6 Dm (AH [AW]) (D6 EG Dm b.Au),A3:=FF b.A3,tm:=b.tm.dropLast}) rfl sO (Ch _ _) AB);refine⟨Q,f,d,N,?_,by rw[e];exact M,by rw[e];exact cY,(D.trans Cz).trans K⟩;rw[Ag,iS,t79];simp only[abS,(Jp w).Af,A.Af,KI,r2.Af,Į,J.Af,H.Af,l6,lt,(Ac:(0:Int)<(b.tm.length:Int)),Ol hpos (Ac:b.tm.length<9223372036854775807),S,z.Af,j.st (k:=6) (v0:=t) rfl (Bx.cells g),O.Af,dJ]
def aPP(w:BX h bi a o c t G b):∃h',CD cx 82 [Pt bi 0] h (.tuple []) h'/\BX h' bi a o c t G {b with stop:=true}/\FC h (BU bi G) h' (BU bi G):=by refine⟨_,?_,w.put (k:=19) (v:= .bool true) rfl rfl w.o w.t,Cz⟩;rw[Ag,ý,t82];simp only[Cy,(Jp w).Af,w.st (k:=19) (v:=tt) rfl rfl]
def aLa(w:BX h bi a o c t G b)(rm:CH b m):∃h' o',CD cx 76 [Pt bi 2] h (.agg b.aEX.row) h'/\BX h' bi a o' c t G b.FB/\FC h (BU bi G) h' (BU bi G):=by
 have ho:=rm.Au;have ld:Bp h none (Pt bi 2)=some o:=w.ld 2;have lo:=Bx.GN w.o;unfold BS.FB BS.aEX;by_cases h2:b.Au.length<2;.refine⟨h,o,?_,by rw[Ae h2];exact w,.refl⟩;rw[Ae h2,Ag,iR,t76];simp only[abS,↓reduceIte,Cl,(Vg w.sA).Af,(Ac:(b.Au.length:Int)<2)];rfl
 .obtain⟨u,e,hu⟩:=Bx.TS w.o (k:= .i64) (n:=b.Au.length-1) Ac;refine⟨_,u,?_,by rw[Aa h2];exact w.PX hu,Cz⟩;rw[Aa h2,Ag,iR,t76];simp only[abS,↓reduceIte,Cl,Ly,(Vg w.sA).Af,(Ac:¬(b.Au.length:Int)<2),(f39 w.sA Ac).Af,ld,lo,Ol (Ac:0<b.Au.length) (Ac:b.Au.length<9223372036854775807),e,w.st (k:=2) (v0:=o) rfl (Bx.cells hu)]
end
def Ue{U:Type}(enc:U->List Ab)(Ee:U->Ai->Prop)(Z:U->Nat)(i:Nat)(If:U->Ai->Prop)(s:U):Lt:=
 λx vs h1=>(x= .normal/\∃s',vs=enc s'/\Ee s' h1/\Z s'<Z s)\/(x= .exit i/\∃s',vs=enc s'/\If s' h1)
def Ue.next{U:Type}{enc:U->List Ab}{Ee If:U->Ai->Prop}{Z:U->Nat}{i:Nat}{s:U}{vs:List Ab}{h:Ai}(s':U)(e:vs=enc s')(hi:Ee s' h)(hl:Z s'<Z s):Ue enc Ee Z i If s .normal vs h:= .inl ⟨rfl,s',e,hi,hl⟩
def Ue.If{U:Type}{enc:U->List Ab}{Ee If:U->Ai->Prop}{Z:U->Nat}{i:Nat}{s:U}{vs:List Ab}{h:Ai}(s':U)(e:vs=enc s')(hi:If s' h):Ue enc Ee Z i If s (.exit i) vs h:= .inr ⟨rfl,s',e,hi⟩
def Gc{C:Gw}{Q:Lt}{h:Ai}{U:Type}{key i:Nat}{init:List Ab}{body:List Ab->IT}{k:GD->List Ab->IT}(enc:U->List Ab)(Ee:U->Ai->Prop)(Z:U->Nat)(If:U->Ai->Prop)(s0:U)(h0:init=enc s0)(hi:Ee s0 h)
  (round:∀s h,Ee s h->W C (body (enc s)) (Ue enc Ee Z i If s) h) (hk:∀s h,If s h->W C (k (.exit i) (enc s)) Q h):W C (.loop key init body k) Q h:=by
 refine Cv enc Ee Z s0 h0 hi λs h hs=>W.mono (round s h hs) ?_;rintro x vs h1 (hn|⟨rfl,s',rfl,hf⟩);.exact .inl hn
 .exact .inr ⟨AB,hk s' h1 hf⟩
def uq{h:Ai}{id z:Nat}{Ay:List (List Ab)}(hr:∀r∈Ay,r.length=z)(hc:h[id]?=some (.cells Ay.flatten)){i:Nat}(hi:i<Ay.length):Bp h (some z) (Pt id (i*z))=some (.agg Ay[i]):=by
 have hl:i*z+z<=Ay.flatten.length:=by rw[IB hr];have:=EA z (Ac:i+1<=Ay.length);rwa [BK,EW] at this
 simp only[Bp,hc,N3];rw[Ae hl,JG hr,AA hi,CS,Bk (by rw[hr _ (AG hi)];exact Ad _),Bf (by rw[hr _ (AG hi)];exact Ad _)]
section
variable{h h':Ai}{bi a:Nat}{o c t:Ab}{G G' F:Nat->Prop}{b b':BS}{x:Int}{m:Nat}
variable{nm:Ah}{av:Ab}{l:List Bj}{r:List Ab}{sp p:Int}
def į(e:DH)(h:Ai):∃r,CD cx 153 [.agg e.row] h (.agg r) h/\kK e.c.name e.v r:=by have hv:e.v.cells=[e.v]:=Bx.cells e.ok;refine⟨_,?_,I 2,ff,S [],ff,S [],ff,ff,ff,S [],.int .i32 0,rfl⟩;rw[Ag,cw,aFA,DH.row];simp only[abS,Nat.reduceLeDiff,↓reduceIte,Cl,hv]
def eH:∀{l:List Cn} {b:BS} {m:Nat},CH b (m+4*l.length)->(∀e∈l,e.name.length<=1000/\GQ e.As)->CH (BS.JJ l b).2 m
 |[],b,m,r,_=>by simpa[BS.JJ] using r
 |e::l,b,m,r,hl=>by have h1:=hl e AB;rw[BS.JJ];exact eH (Q0 (m:=m+4*l.length) (r.le EE) h1.2 h1.1) λx hx=>hl x (by simp[hx])
def kQ:b.NM<=b.A3.length:=by unfold BS.NM;rcases BZ (q:=b.settled) (l:=b.A3) with⟨h,_⟩|⟨n,h1,h2,_⟩<;>omega
structure kR(h:Ai)(bi a:Nat)(t:Ab)(G0:Nat->Prop)(b:BS)(fs:List DH)(id m k:Nat)(h1:Ai):Prop where
 le:k<=fs.length
 low:b.NM<=k
 ex:∃(o:Ab) (G:Nat->Prop) (b1:BS) (aA:List DH),BX h1 bi a o (.Du id 0 fs.length 3) t G b1/\EC b1/\CH b1 (m+4*(fs.length-k))/\h1[id]?=some (.cells (aA.map DH.row).flatten)/\aA.length=fs.length/\aA.drop k=fs.drop k/\
  BS.AM b={(BS.JJ (b.A3.drop k) b1).2 with A3:=(aA.take k).map (·.c)++(BS.JJ (b.A3.drop k) b1).1}/\¬BU bi G id/\FC h (BU bi G0) h1 (BU bi G)
def BX.kS(w:BX h bi a o c t G {b with A3:=b.A3}):BX h bi a o c t G b:=w
def Zm{h1:Ai}{id:Nat}{v v':Ab}(ha:At h id 3 v)(hf:L6 h v=some (h1,v'))(he:h1[id]?=h[id]?):Lq h 3 (Pt id 0)=some (Am.put h1 id 3 v'):=by obtain⟨cs,hc,e⟩:=ha;rw[hc] at he;unfold Lq;simp only[hc,BG,e,hf,Cx,he];rw[IQ he]
def aBS{v:Ab}{l:List DH}(hv:Fm l v):L6 h v=some (h,v):=by rcases hv with rfl|⟨rfl,_⟩<;>rfl
def aLb{v:Ab}(hv:Fm [] v)(h:Ai):∃u,CD cx 152 [v] h u h/\Fm [] u:=by
 have d:=pA (h:=h) (s:= .sl 3 []) (b:=48) (.inr rfl) hv;rcases hv with rfl|⟨rfl,h0⟩
 .refine⟨.sl 3 [],?_,.mk⟩;rw[Ag,Xc,ĉ];simp only[CM] at d;simp only[Cy,CM,show AE (.Gs false .sl) [.sl 3 [],.slnil]=some (.bool false) from rfl,show AE (.Cb 3) []=some (.sl 3 []) from rfl,d]
 .refine⟨.slnil,?_,.inr ⟨rfl,rfl⟩⟩;rw[Ag,Xc,ĉ];simp only[Cy,show AE (.Gs false .sl) [.slnil,.slnil]=some (.bool true) from rfl]
def kR.init(w:BX h bi a o c t G b)(ok:EC b)(rm:CH b (m+4*b.A3.length)){fs:List DH}(MM:fs.map (·.c)=b.A3):
  kR h bi a t G b fs h.length m b.NM (Am.put (h++[.cells (fs.map DH.row).flatten]) bi 3 (.Du h.length 0 fs.length 3)):=by
 have Jz:b.A3.length=fs.length:=by rw[<-MM,Aw]
 have hk:=kQ (b:=b);have hne:h.length≠bi:=Nat.ne_of_gt w.lt;refine⟨Ac,Ad _,o,G,b,fs,((w.L1 (u:=[.cells (fs.map DH.row).flatten])).Ub (l:=b.A3)).kS,ok,rm.le Ac,?_,rfl,rfl,?_,?_,w.EF.trans Cz⟩;.rw[Da hne];simp
 .unfold BS.AM;simp only;rw[HN,MM]
 .rintro(rfl|hg);.exact hne rfl
  .exact absurd (w.w.lt hg) (DI _)
def kR.step{fs:List DH}{id k:Nat}{h1:Ai}(MM:fs.map (·.c)=b.A3)(RI:∀e∈b.A3,e.name.length<=1000/\GQ e.As)(hi:h.length<=id)(hlt:k<fs.length)(i:kR h bi a t G b fs id m k h1):
  ∃(r:List Ab) (h2:Ai) (n:Int),Bp h1 none (Pt bi 3)=some (.Du id 0 fs.length 3)/\Bp h1 (some 3) (Pt id (k*3))=some (.agg fs[k].row)/\CD cx 153 [.agg fs[k].row] h1 (.agg r) h1/\CD cx 70 [Pt bi 0,.agg r] h1 (I n) h2/\Bp h2 none (Pt bi 3)=some (.Du id 0 fs.length 3)/\
   Dd h2 1 (Pt id (k*3)) (I n)=some (Am.put h2 id (k*3) (I n))/\kR h bi a t G b fs id m (k+1) (Am.put h2 id (k*3) (I n)):=by
 obtain⟨H,J,b1,aA,w1,RO,f,aL,qw,ŵ,s,Tx,q⟩:=i.ex;have ur:k<aA.length:=Ac;have Jz:b.A3.length=fs.length:=by rw[<-MM,Aw]
 have aLc:k<b.A3.length:=Ac;have u:aA[k]=fs[k]:=by have:=B6 (λl=>l[0]?) ŵ;simp only[CE,BB] at this;rw[Av ur,Av hlt] at this;exact Ff this
 have A:b.A3[k]=fs[k].c:=by simp only[<-MM,Ei]
 have g:=uq (iK aA) aL (i:=k) (by simpa using ur);rw[Ei,u] at g;have RI:=RI fs[k].c (by rw[<-A];exact AG aLc);obtain⟨r,C,hr⟩:=į fs[k] h1;obtain⟨h2,D,B,r2,z,d⟩:=aBO (m:=m+4*(fs.length-(k+1))) w1 RO (f.le Ac) hr fs[k].ok RI.2 RI.1;have aAs:id<h1.length:=(Aj.1 aL).1;have Mx:h2[id]?=some (.cells (aA.map DH.row).flatten):=by rw[d.old id aAs Tx];exact aL
 have mQ:¬BU bi B id:=λhg=>by
  rcases d.BU id hg with hg|hg
  .exact Tx hg
  .omega
 have y:At h2 id (k*3) (I fs[k].c.node):=⟨_,Mx,by have:=Zd (k:=0) (iK aA) Az (i:=k) (r:=fs[k].row) (by rw[Dt,Av ur,u];rfl);rw[BB] at this;rw[this];rfl⟩
 let w:DH:=⟨{fs[k].c with node:=b1.a.len+1},fs[k].v,fs[k].ok⟩
 have hrow:(aA.map DH.row).flatten.set (k*3) (I (b1.a.len+1))=((aA.set k w).map DH.row).flatten:=by have:=dZ (Ay:=aA.map DH.row) (i:=k) (k:=0) (v:= I (b1.a.len+1)) (iK aA) (by simpa using ur) Az;rw[BB] at this;rw[JW,Cc,Ae (by rw[IB (iK aA),Aw];omega)];rw[A7] at this;rw[show w.row=((aA.map DH.row)[k]'(by simpa using ur)).set 0 (I (b1.a.len+1)) by rw[Ei,u];rfl];exact this
 have E:id≠bi:=λe=>mQ (.inl e);refine⟨r,h2,b1.a.len+1,w1.l3,g,C,r2,z.l3,y.store rfl,⟨hlt,by have:=i.low;omega,D,B,_,aA.set k w,z.FV λj hj=>Da λe=>mQ (e▸hj),YZ RO,Q0 (m:=m+4*(fs.length-(k+1))) (f.le Ac) RI.2 RI.1,?_,by rw[Ci];exact qw,?_,?_,mQ,⟨by rw[MU];exact(q.trans d).len,λj hj hn=>(Da Ac).trans ((q.trans d).old j hj hn),(q.trans d).BU⟩⟩⟩;.rw[IQ Mx,AI (by have:=d.len;omega),hrow]
 .rw[aNb (Uw k)];have:=B6 (λl=>l.drop 1) ŵ;simpa[Ez] using this
 .rw[s,AA aLc,A,BS.JJ];simp only
  congr 1
  rw[Bb (by rw[Ci];exact ur),List.getElem_set_self,B3,bW (Ad k),A7];rfl
def aPR(w:BX h bi a o c t G b)(hc:EH b.A3 c)(ok:EC b)(rm:CH b (m+4*b.A3.length)):
  ∃h' o' c' G',CD cx 84 [Pt bi 0] h (.tuple []) h'/\BX h' bi a o' c' t G' b.AM/\EH b.AM.A3 c'/\FC h (BU bi G) h' (BU bi G'):=by
 have ho:=rm.Au;have pR:=rm.A3;obtain⟨fs,MM,hcs⟩:=hc;have Jz:b.A3.length=fs.length:=by rw[<-MM,Aw]
 have Ql:Ev cx 84 [Pt bi 0] h λr h'=>r= .tuple []/\∃o' c' G',BX h' bi a o' c' t G' b.AM/\EH b.AM.A3 c'/\FC h (BU bi G) h' (BU bi G'):=by
  unfold Ev;have l3:=w.l3;have lc:=Bx.GN hcs;rw[ÿ,t84];simp only[abS,(Jp w).Af,l3,lc];refine Gc (i:=0) (λn:Nat=>[I (n:Int)]) (λn h1=>n<=fs.length/\AD b.settled b.A3=AD b.settled (b.A3.take n)/\h1=h) (λn=>n) (λn h1=>n=b.NM/\h1=h) fs.length rfl ⟨Ad _,by rw[<-Jz,Bl],rfl⟩ ?_ ?_
  .rintro n h1 ⟨hn,ha,rfl⟩;cases n with
   |zero=>simp only[abS,(Az:¬(0:Int)<((0:Nat):Int))];refine .If 0 rfl ⟨?_,rfl⟩;unfold BS.NM;rw[ha];rfl
   |succ n=>
    have hlt:n<b.A3.length:=Ac;have t_:n<fs.length:=Ac;rw[PG hlt] at ha;have i1:=Ol (n:=n+1) (Ac:0<n+1) (Ac:n+1<9223372036854775807);rw[ML] at i1;have d:=Bx.DN (k:= .i64) hcs t_;have en:fs[n].c.node=b.A3[n].node:=by simp only[<-MM,Ei]
    have f:=aZ w.sA Ac b.A3[n].node;have g:b.settled b.A3[n]=true->n+1=b.NM:=by intro hs;rw[Ae hs] at ha;unfold BS.NM;rw[ha];omega
    rw[DH.row,en] at d;simp only[abS,(Ac:(0:Int)<((n+1:Nat):Int)),l3,i1,d,f.Af,CP];refine⟨λh1=>⟨λh2=>?_,λh2=>?_⟩,λh1=>?_⟩
    .have hs:b.settled b.A3[n]=false:=by unfold BS.settled;rw[Ap];omega
     rw[Aa (by rw[hs];decide)] at ha;exact .next n rfl ⟨Ac,ha,rfl⟩ Ac
    .exact .If (n+1) rfl ⟨g (by unfold BS.settled;rw[Ak];omega),rfl⟩
    .exact .If (n+1) rfl ⟨g (by unfold BS.settled;rw[Ak];omega),rfl⟩
  .rintro n h1 ⟨rfl,Q⟩;rw[Q];by_cases hne:fs=[]
   .subst hne;have ha:b.A3=[]:=MM.symm;have g:b.NM=0:=by have:=kQ (b:=b);rw[ha] at this;exact Nat.le_zero.1 this
    have hb:b.AM=b:=by unfold BS.AM;rw[ha];simp only[aCv,BS.JJ,aCw,Bq];rw[<-ha]
    obtain⟨u,f,hu⟩:=aLb hcs h;have w1:=(w.Ub (u:=u) (l:=b.A3)).kS;have d:=Zm w1.ud (aBS hu) rfl;have C:=Bx.GN hu;have y:=w1.l3;rw[AZ] at C;have hz:(b.NM:Int)=((0:Nat):Int):=by rw[g]
    simp only[abS,l3,f.Af,w.st (k:=3) (v0:=c) rfl (Bx.cells hu)];refine Gc (i:=2) (λn:Nat=>[I (n:Int)]) (λn h1=>n=0/\h1=Am.put h bi 3 u) (λn=>n) (λn h1=>n=0/\h1=Am.put h bi 3 u) 0 (by rw[hz]) ⟨rfl,rfl⟩ ?_ ?_;.rintro n h1 ⟨rfl,rfl⟩;simp only[abS,y,C,(Az:¬((0:Nat):Int)<((0:Nat):Int))];exact .If 0 rfl ⟨rfl,rfl⟩
    .rintro n h1 ⟨rfl,rfl⟩;simp only[Cy,d];refine⟨_,rfl,rfl,o,u,G,?_,⟨[],by rw[hb,ha];rfl,hu⟩,Cz.trans Cz⟩;rw[hb];exact(w1.Ub (l:=b.A3)).kS
   .have i0:=kR.init (m:=m) w ok rm MM;have f:=aG1 (h:=h) hcs hne Ac;have w0:=w.L1 (u:=[.cells (fs.map DH.row).flatten]);simp only[abS,l3,f.Af,w0.st (k:=3) (v:= .Du h.length 0 fs.length 3) (v0:=c) rfl rfl];refine Gc (i:=2) (λn:Nat=>[I (n:Int)]) (λk h1=>kR h bi a t G b fs h.length m k h1) (λk=>fs.length-k) (λk h1=>k=fs.length/\kR h bi a t G b fs h.length m k h1) b.NM rfl i0 ?_ ?_
    .intro k h1 i;have E0:=i.le;have D:AE (.len false) [.Du h.length 0 fs.length 3]=some (I (fs.length:Int)):=rfl;rcases Bm k fs.length with hlt|JA
     .obtain⟨r,h2,n,O,N,M,L,K,J,H⟩:=kR.step MM rm.Es (Ad _) hlt i;have d:AE (.Hj 3) [.Du h.length 0 fs.length 3,I (k:Int)]=some (Pt h.length (k*3)):=JH hlt;simp only[abS,O,D,(Ac:(k:Int)<(fs.length:Int)),d,N,M.Af,DJ,L.Af,K,J,DB (Ac:k<9223372036854775807)];exact .next (k+1) rfl H Ac
     .obtain⟨s,B,b1,aA,w1,_⟩:=i.ex;simp only[abS,w1.l3,D,(Ac:¬(k:Int)<(fs.length:Int))];exact .If k rfl ⟨Ac,i⟩
    .rintro k h1 ⟨rfl,i⟩;obtain⟨s,B,b1,aA,w1,RO,P,aL,qw,ŵ,A,Tx,q⟩:=i.ex;have hf:=OP (iK aA) aL;rw[Aw,qw] at hf;have z:h.length≠bi:=λe=>Tx (.inl e);have d:=Zm w1.ud hf (by rw[Aq z]);have E:BX (h1.set h.length .Ef) bi a s _ t B b1:=w1.FV λj hj=>Aq λe=>Tx (by rw[e];exact hj);simp only[Cy,d];have hb:b.AM={b1 with A3:=aA.map (·.c)}:=by rw[A,AX Ac,Bf Ac];simp only[BS.JJ,A8]
     refine⟨_,rfl,rfl,s,_,B,by rw[hb];exact E.Ub,⟨aA,by rw[hb],.mk⟩,?_⟩;refine FC.trans ⟨by rw[Ci];exact q.len,λj hj hn=>?_,q.BU⟩ Cz;rw[Aq Ac];exact q.old j hj hn
 obtain⟨r,h',hr,rfl,o',c',G',w',Wt,x'⟩:=Ql.ret;exact⟨h',o',c',G',hr,w',Wt,x'⟩
end
def aBT{id l k:Nat}(hl:0<l)(hk:k<=l):AE (.Ro 3 false false true) [.Du id 0 l 3,I (k:Int)]=some (.Du id 0 k 3):=by
 have d:EU (k:Int) l=some k:=by unfold EU;rw[Ae Ac];rfl
 simp[AE,JC,D1,d];omega
def aBU{id l k:Nat}(hk:k<=l):AE (.Ro 3 false true false) [.Du id 0 l 3,I (k:Int)]=some (if k<l then .Du id (k*3) (l-k) 3 else .sl 3 []):=by
 have d:EU (k:Int) l=some k:=by unfold EU;rw[Ae Ac];rfl
 simp[AE,JC,D1,d];split<;>rfl
def Kr{U:Type}{l:List U}{k:Nat}(hk:k<l.length):(BA l k).length=l.length-1:=by unfold BA;rw[An,Ax,A4];omega
def aLd{h:Ai}{id k:Nat}{Ay:List (List Ab)}(hr:∀r∈Ay,r.length=3)(hc:h[id]?=some (.cells Ay.flatten))(hk:k<Ay.length)(hb:Ay.length<=1000000000):
  ∃Hz,CD cx 283 [.Du id 0 Ay.length 3,I (k:Int),I ((k+1:Nat):Int)] h (.Du id 0 (Ay.length-1) 3) (h.set id (.cells ((BA Ay k).flatten++Hz))):=by
 have JB:=(Aj.1 hc).1;have u:=Kr hk;have mW:=IB hr;have s:∀r∈BA Ay k,r.length=3:=λr hm=>hr r (by
  unfold BA at hm;rcases Ao.1 hm with hm|hm
  .exact A9 hm
  .exact A6 hm)
 have yX:=IB s;rw[u] at yX;have VF:(Ay.take k).flatten=Ay.flatten.take (k*3):=(dK hr).symm;have d:(Ay.drop (k+1)).flatten=Ay.flatten.drop ((k+1)*3):=(JG hr).symm;obtain⟨TE,w,hcl⟩:∃TE,Hk h 3 48 (.Du id 0 k 3) (if k+1<Ay.length then .Du id ((k+1)*3) (Ay.length-(k+1)) 3 else .sl 3 [])=some (h.set id (.cells ((BA Ay k).flatten++TE)),.Du id 0 (Ay.length-1) 3)/\TE.length=3:=by
  have g:Ij h 3 (if k+1<Ay.length then .Du id ((k+1)*3) (Ay.length-(k+1)) 3 else .sl 3 [])=some (Ay.drop (k+1)):=by
   by_cases XX:k+1<Ay.length;.rw[Ae XX];have q:=dL hr (n:=Ay.length-(k+1)) (off:=k+1) Ac;rw[Bf (by rw[A4];exact Ad _)] at q;simp only[Ij,BN,hc,q];rw[Ae (by rw[mW];omega)]
   .rw[Aa XX,AX Ac];rfl
  by_cases aKB:k+1=Ay.length
  .refine⟨Ay.flatten.drop (k*3),?_,by rw[A4,mW];omega⟩;have j:Ay.drop (k+1)=[]:=AX Ac;rw[j] at g;have v:(BA Ay k).flatten++Ay.flatten.drop (k*3)=Ay.flatten:=by unfold BA;rw[j,A8,VF,Br]
   have B:h.set id (.cells ((BA Ay k).flatten++Ay.flatten.drop (k*3)))=h:=by rw[v];obtain⟨uB,A⟩:=Aj.1 hc;rw[<-A,Oc]
   simp only[Hk,g,BN];rw[B,(Ac:Ay.length-1=k)]
  .obtain⟨y,l2,hd⟩:∃y l2,Ay.drop (k+1)=y::l2:=⟨_,_,AA (Ac:k+1<Ay.length)⟩;have qD:(y::l2).length=Ay.length-(k+1):=by rw[<-hd,A4]
   refine⟨Ay.flatten.drop ((Ay.length-1)*3),?_,by rw[A4,mW];omega⟩;rw[hd] at g;simp only[Hk,g,hc,BN];rw[qD,Ae (by rw[mW];omega)];rw[<-hd,d,BG,BG,(Ac:k+(Ay.length-(k+1))=Ay.length-1)];unfold BA;rw[Qj,VF,d]
 generalize uc:h.set id (.cells ((BA Ay k).flatten++TE))=h2 at w;have Mx:h2[id]?=some (.cells ((BA Ay k).flatten++TE)):=by rw[<-uc];exact AI JB
 have wH:((BA Ay k).flatten++TE).length=Ay.length*3:=by rw[An,yX,hcl];omega
 have j:Ey (.ou 3 true true) h2 [.Du id 0 (Ay.length-1) 3,I ((Ay.length-1:Nat):Int),I (Ay.length:Int)]=some (h2,.Du id ((Ay.length-1)*3) 1 3):=by
  simp only[Ey,nB,Mx];have C:EU (Ay.length:Int) ((((BA Ay k).flatten++TE).length-0)/3)=some Ay.length:=by unfold EU;rw[Ae (by rw[wH];omega)];rfl
  have q:EU ((Ay.length-1:Nat):Int) Ay.length=some (Ay.length-1):=by unfold EU;rw[Ae Ac];rfl
  rw[Ae ⟨trivial,trivial,Bn _⟩];simp only[D1,C,q,Cx,BW];rw[Ae (by rw[wH];omega)];congr 3
  .omega
  .omega
 have z:Ey (.clear 3 [I 0,S [],.slnil]) h2 [.Du id ((Ay.length-1)*3) 1 3]=some (h.set id (.cells ((BA Ay k).flatten++[I 0,S [],.slnil])),.bool true):=by
  simp only[Ey,XH,Mx];rw[Ae ⟨trivial,rfl,by rw[wH];omega⟩];congr 2
  rw[<-uc,ND];congr 2
  rw[Kc yX,AX (by rw[wH];omega)];simp
 refine⟨[I 0,S [],.slnil],?_⟩;have f:∀i n,AE (.len false) [.Du i 0 n 3]=some (I (n:Int)):=λ_ _=>rfl;have v:Ey (.sN 3) h [.Du id 0 Ay.length 3,I (k:Int),I ((k+1:Nat):Int),I (Ay.length:Int)]=some (h,.bool true):=by simp only[Ey,XI];simp;omega
 rw[Ag,jr,aGN];simp only[abS,f,v,(Ac:¬(k:Int)=((k+1:Nat):Int)),aBT (id:=id) (Ac:0<Ay.length) (Ac:k<=Ay.length),aBU (id:=id) (Ac:k+1<=Ay.length),w,j,z]
def Uf{z:Nat}:∀{Ay:List (List Ab)} {cs J4:List Ab},(∀r∈Ay,r.length=z)->CI (J4++(Ay.flatten++cs)) z J4.length Ay.length=Ay
 |[],_,_,_=>rfl
 |x::Ay,cs,J4,h=>by have hx:=h x AB;have:=Uf (Ay:=Ay) (cs:=cs) (J4:=J4++x) (λr hr=>h r (by simp[hr]));simp only[A7,An,hx] at this;simp only[CS,AJ,CI,A7];rw[My rfl,Kc hx,this]
def wN{h:Ai}{id z:Nat}{Ay:List (List Ab)}{cs:List Ab}(hr:∀r∈Ay,r.length=z)(hc:h[id]?=some (.cells (Ay.flatten++cs))):L6 h (.Du id 0 Ay.length z)=some (h.set id .Ef,.sl z Ay):=by unfold L6;simp only[hc,BG];have:=Uf (cs:=cs) (J4:=[]) hr;simp only[Bq,AZ] at this;rw[Ae (by rw[An,IB hr];omega),this]
def Gd(e:DH)(at_ mk:Int)(anc far:Item)(last:Int):List Ab:=
 [I e.c.node,.str e.c.name,e.v,I at_,I mk,I anc.node,I anc.Bd,.str anc.name,.bool anc.QT,I far.node,I far.Bd,.str far.name,.bool far.QT,I last]
def NO(ai bi:Nat)(G:Nat->Prop):Nat->Prop:=λi=>i=ai\/BU bi G i
section
variable{h h':Ai}{bi a ai:Nat}{o c t:Ab}{G G' F:Nat->Prop}{b b':BS}{x:Int}{m:Nat}
variable{nm:Ah}{av:Ab}{l:List Bj}{r:List Ab}{sp p:Int}{e:DH}{at_ mk last:Int}{anc far:Item}
def E7(x:FC h (BU bi G) h' (BU bi G'))(ai:Nat):FC h (NO ai bi G) h' (NO ai bi G'):=
 ⟨x.len,λi hi hn=>x.old i hi λhg=>hn (.inr hg),λi hi=>by
  rcases hi with hi|hi
  .exact .inl (.inl hi)
  .rcases x.BU i hi with h|h
   .exact .inl (.inr h)
   .exact .inr h⟩
def Q3{k:Nat}{v:Ab}:FC h (Am.NO ai bi G) (put h ai k v) (Am.NO ai bi G):=⟨by rw[MU];exact Ad _,λi _ hn=>Da λe=>hn (.inl e),λ_ h=> .inl h⟩
def KC{id k:Nat}{v:Ab}{cs:List Ab}(hc:h[id]?=some (.cells cs)):(put h id k v)[id]?=some (.cells (cs.set k v)):=by rw[IQ hc,AI (Aj.1 hc).1]
def down(k:Nat)(x:Int):Int:=if(k:Int)<x then x-1 else x
def lg(w:BX h bi a o c t G b)(hc:EH b.A3 c)(rm:CH b m)(ha:h[ai]?=some (.cells (Gd e at_ mk anc far last)))(hn:¬BU bi G ai){k:Nat}(hk:k<b.A3.length)(h1:0<=at_/\at_<=1000000000)(h2:0<=mk/\mk<=1000000000):
  ∃h' c',CD cx 251 [Pt ai 0,Pt bi 0,I (k:Int)] h (.tuple []) h'/\BX h' bi a o c' t G {b with A3:=BA b.A3 k}/\EH (BA b.A3 k) c'/\h'[ai]?=some (.cells (Gd e (down k at_) (down k mk) anc far last))/\FC h (NO ai bi G) h' (NO ai bi G):=by
 obtain⟨fs,MM,hcs⟩:=hc;have pR:=rm.A3;have Jz:b.A3.length=fs.length:=by rw[<-MM,Aw]
 have hne:fs≠[]:=by intro e;rw[Jz,e] at hk;exact absurd hk (Nat.not_lt_zero _)
 have Ê:ai≠bi:=λe=>hn (.inl e);have Ÿ:ai<h.length:=(Aj.1 ha).1;have B:=aG1 (h:=h) hcs hne Ac;have hX:(h++[GX.cells (fs.map DH.row).flatten])[h.length]?=some (.cells (fs.map DH.row).flatten):=AB;obtain⟨Hz,r2⟩:=aLd (iK fs) hX (k:=k) EE EE;rw[Aw] at r2;have e2:(h++[GX.cells (fs.map DH.row).flatten]).set h.length (.cells ((BA (fs.map DH.row) k).flatten++Hz))=h++[.cells ((BA (fs.map DH.row) k).flatten++Hz)]:=by rw[Ce _ _ (Ad _),Fh];rfl
 rw[e2] at r2;generalize z:h++[GX.cells ((BA (fs.map DH.row) k).flatten++Hz)]=H at r2;have w1:BX H bi a o c t G b:=by rw[<-z];exact w.L1
 have U_:H[ai]?=some (.cells (Gd e at_ mk anc far last)):=by rw[<-z,Al Ÿ];exact ha
 have P:H[h.length]?=some (.cells ((BA (fs.map DH.row) k).flatten++Hz)):=by rw[<-z];simp
 have hL:H.length=h.length+1:=by rw[<-z];simp
 have Y:FC h (NO ai bi G) H (NO ai bi G):=by rw[<-z];exact E7 w.EF ai
 have q:bi≠h.length:=Qo w.lt;have WV:ai≠h.length:=Qo Ÿ;have A:=w1.st (k:=3) (v:= .Du h.length 0 (fs.length-1) 3) (v0:=c) rfl rfl;have w2:=w1.Ub (u:= .Du h.length 0 (fs.length-1) 3) (l:=b.A3);have UR:(put H bi 3 (.Du h.length 0 (fs.length-1) 3))[ai]?=some (.cells (Gd e at_ mk anc far last)):=by rw[Da Ê];exact U_
 have O:(put H bi 3 (.Du h.length 0 (fs.length-1) 3))[h.length]?=some (.cells ((BA (fs.map DH.row) k).flatten++Hz)):=by rw[Da (C3 q)];exact P
 have X:FC h (NO ai bi G) (put H bi 3 (.Du h.length 0 (fs.length-1) 3)) (NO ai bi G):=Y.trans (E7 Cz ai);generalize Q:put H bi 3 (.Du h.length 0 (fs.length-1) 3)=H2 at*;have hL2:H2.length=h.length+1:=by rw[<-Q,MU,hL]
 have t3:At H2 ai 3 (I at_):=⟨_,UR,rfl⟩;have y:=KC (k:=3) (v:= I (down k at_)) UR;have D:put H2 ai 3 (I (down k at_))=if(k:Int)<at_ then put H2 ai 3 (I (at_-1)) else H2:=by
  unfold down;split;.rfl
  .exact t3.same
 have w3:BX (put H2 ai 3 (I (down k at_))) bi a o _ t G _:=w2.FV λj hj=>Da λe=>hn (e▸hj);have N:(put H2 ai 3 (I (down k at_)))[h.length]?=_:=(Da (C3 WV)).trans O;have W:=X.trans (Q3 (k:=3) (v:= I (down k at_)));generalize hH3:put H2 ai 3 (I (down k at_))=d at*;have t4:At d ai 4 (I mk):=⟨_,y,rfl⟩;have L:=KC (k:=4) (v:= I (down k mk)) y;have n:put d ai 4 (I (down k mk))=if(k:Int)<mk then put d ai 4 (I (mk-1)) else d:=by
  unfold down;split;.rfl
  .exact t4.same
 have S:BX (put d ai 4 (I (down k mk))) bi a o _ t G _:=w3.FV λj hj=>Da λe=>hn (e▸hj);have M:(put d ai 4 (I (down k mk)))[h.length]?=_:=(Da (C3 WV)).trans N;have E:=W.trans (Q3 (k:=4) (v:= I (down k mk)));generalize hH4:put d ai 4 (I (down k mk))=R at*;have K:∀r∈BA (fs.map DH.row) k,r.length=3:=λr hm=>iK fs r (by
  unfold BA at hm;rcases Ao.1 hm with hm|hm
  .exact A9 hm
  .exact A6 hm)
 have f4:=wN K M;rw[Kr EE,Aw] at f4;have C:=Zm S.ud f4 (by rw[Aq (C3 q)]);have Z:BX (R.set h.length .Ef) bi a o _ t G {b with A3:=b.A3}:=S.FV λj hj=>Aq λe=>by
  subst e;rcases hj with hj|hj
  .exact q hj.symm
  .exact absurd (w.w.lt hj) (DI _)
 have ed:BA (fs.map DH.row) k=(BA fs k).map DH.row:=by unfold BA;rw[B3,HN,Mu]
 have ec:(BA fs k).map (·.c)=BA b.A3 k:=by unfold BA;rw[B3,HN,Mu,MM]
 refine⟨_,.sl 3 (BA (fs.map DH.row) k),?_,Z.Ub (l:=BA b.A3 k),⟨BA fs k,ec,by rw[ed];exact .mk⟩,?_,?_⟩
 .have g:Bp H2 none (Pt ai 3)=some (I at_):=t3.load;have f:Bp d none (Pt ai 4)=some (I mk):=t4.load;have inc:=DB (Ac:k<9223372036854775807);have V:=Ek (Ac: -9223372036854775808<=at_-1) (Ac:at_-1<9223372036854775808);have U:=Ek (Ac: -9223372036854775808<=mk-1) (Ac:mk-1<9223372036854775808);rw[Ag,ja,aGx];by_cases s:(k:Int)<at_
  .rw[Ae s] at D;have T:Dd H2 1 (Pt ai 3) (I (at_-1))=some d:=by rw[D];exact t3.store rfl
   by_cases i:(k:Int)<mk
   .rw[Ae i] at n;have J:Dd d 1 (Pt ai 4) (I (mk-1))=some R:=by rw[n];exact t4.store rfl
    simp only[abS,w.l3,B.Af,inc,r2.Af,A,g,s,V,T,f,i,U,J,C]
   .rw[Aa i] at n;subst n;simp only[abS,w.l3,B.Af,inc,r2.Af,A,g,s,V,T,f,i,C]
  .rw[Aa s] at D;subst D;by_cases i:(k:Int)<mk
   .rw[Ae i] at n;have J:Dd d 1 (Pt ai 4) (I (mk-1))=some R:=by rw[n];exact t4.store rfl
    simp only[abS,w.l3,B.Af,inc,r2.Af,A,g,s,f,i,U,J,C]
   .rw[Aa i] at n;subst n;simp only[abS,w.l3,B.Af,inc,r2.Af,A,g,s,f,i,C]
 .rw[Da Ê,Aq (C3 WV),L];rfl
 .refine FC.trans ⟨by rw[Ci];exact E.len,λj hj hn=>?_,E.BU⟩ (E7 Cz ai);rw[Aq Ac];exact E.old j hj hn
end
section
variable{U:Type}{q:U->Bool}{l:List U}
def Nt{p:Nat}(hp:p<l.length)(h1:q l[p]=true)(h2:∀j (hj:j<l.length),p<j->q l[j]=false):AD q l=(p:Int):=by
 rcases BZ (q:=q) (l:=l) with⟨e,h⟩|⟨n,hn,e,h3,d⟩
 .rw[h _ (AG hp)] at h1;exact absurd h1 Az
 .rcases aTf n p with h|h|h
  .have:=d p hp h;rw[this] at h1;exact absurd h1 Az
  .rw[e,h]
  .have:=h2 n hn h;rw[this] at h3;exact absurd h3 Az
def Mk{p:Nat}(e:AD q l=(p:Int)):∃hp:p<l.length,q l[p]=true/\∀j (hj:j<l.length),p<j->q l[j]=false:=by
 rcases BZ (q:=q) (l:=l) with⟨f,h⟩|⟨n,hn,f,h3,d⟩
 .omega
 .have:n=p:=by omega
  subst this;exact⟨hn,h3,λj hj h=>d j hj h⟩
def qJ{k j:Nat}(hk:k<l.length):(BA l k)[j]?=if j<k then l[j]? else l[j+1]?:=by
 unfold BA;by_cases h:j<k;.rw[Ae h,Al (by rw[Ax];omega),CA,Ae h]
 .rw[Aa h,Bu (by rw[Ax];omega),CE];congr 1
  rw[Ax];omega
def PY{k j:Nat}(hk:k<l.length)(hj:j<(BA l k).length):(BA l k)[j]=if h:j<k then l[j]'(by omega) else l[j+1]'(by rw[Kr hk] at hj;omega):=by
 have hl:=Kr hk;have:=qJ (j:=j) hk;rw[Av hj] at this;by_cases h:j<k;.rw[rZ h];rw[Ae h,Av Ac] at this;exact Ff this
 .rw[dif_neg h];rw[Aa h,Av Ac] at this;exact Ff this
def kT{p k:Nat}(e:AD q l=(p:Int))(hk:k<l.length)(hne:k≠p):AD q (BA l k)=down k p:=by
 obtain⟨hp,h1,h2⟩:=Mk e;have hl:=Kr hk;unfold down;by_cases d:k<p
 .rw[Ae Ac,(Ac:(p:Int)-1=((p-1:Nat):Int))];refine Nt Ac ?_ ?_;.rw[PY hk,dif_neg Ac];have:p-1+1=p:=Ac;simp only[this,h1]
  .intro j hj h;rw[PY hk,dif_neg Ac];exact h2 _ _ Ac
 .rw[Aa Ac];refine Nt Ac ?_ ?_;.rw[PY hk,rZ Ac];exact h1
  .intro j hj h;rw[PY hk];split;.exact h2 _ _ h
   .exact h2 _ _ Ac
def qK{p k:Nat}{x:U}(e:AD q l=(p:Int))(hne:k≠p)(hx:q x=false):AD q (l.set k x)=(p:Int):=by
 obtain⟨hp,h1,h2⟩:=Mk e;refine Nt (by rw[Ci];exact hp) ?_ ?_;.rw[List.getElem_set_ne hne];exact h1
 .intro j hj h;rw[List.getElem_set];split;.exact hx
  .rw[Ci] at hj;exact h2 j hj h
end
def kU{l:List Item}(hn:(l.map Item.node).Nodup){i:Nat}(hi:i<l.length):AD (Bt l[i].node) l=(i:Int):=by
 refine Nt hi (by simp[Bt]) λj hj h=>?_;by_cases he:l[i].node=l[j].node
 .have h2:(l.map Item.node)[i]'(by simpa using hi)=(l.map Item.node)[j]'(by simpa using hj):=by simpa using he
  exact absurd h2 (List.pairwise_iff_getElem.1 hn i j (by simpa using hi) (by simpa using hj) h)
 .unfold Bt;simpa using λe=>he e.symm
def KW{n:Int}{l:List Cn}(h:0<=FU n l):∃p:Nat,∃hp:p<l.length,FU n l=(p:Int)/\n≠0/\l[p].node=n/\AD (VZ n) l=(p:Int):=by
 unfold FU at h⊢;split at h;.omega
 .rename_i h0;rw[Aa h0];obtain⟨p,hp⟩:∃p:Nat,AD (VZ n) l=(p:Int):=⟨_,(I7 h).symm⟩;obtain⟨h1,h2,_⟩:=Mk hp;exact⟨p,h1,hp,h0,by simpa[VZ] using h2,hp⟩
def uv{n:Int}{l:List Cn}{k:Nat}(h:0<=FU n l)(hk:k<l.length)(hne:l[k].node≠n):FU n (BA l k)=down k (FU n l):=by obtain⟨p,hp,e,h0,h1,h2⟩:=KW h;rw[e,<-kT h2 hk (by rintro rfl;exact hne h1)];unfold FU;rw[Aa h0]
def İ{n:Int}{l:List Cn}{k:Nat}{x:Cn}(h:0<=FU n l)(hk:k<l.length)(hne:l[k].node≠n)(hx:x.node≠n):FU n (l.set k x)=FU n l:=by obtain⟨p,hp,e,h0,h1,h2⟩:=KW h;rw[e,<-qK (x:=x) (k:=k) h2 (by rintro rfl;exact hne h1) (by simp[VZ];exact hx)];unfold FU;rw[Aa h0]
def uw{n:Int}{l:List Cn}(hn:((l.map Cn.node).filter λn=>decide (n≠0)).Nodup)(h:0<=FU n l):FU n (BA l (FU n l).toNat)<0:=by
 obtain⟨p,hp,e,h0,h1,h2⟩:=KW h;rw[e,BH];refine Int.not_le.1 λh3=>?_;obtain⟨g,f,i,_,d,_⟩:=KW h3;have:l=l.take p++l[p]::l.drop (p+1):=by rw[<-AA hp,Br]
 rw[this,B3,AV,Be,HQ,Ae (by simpa[h1] using h0),BY,Ca] at hn;have hm:=AG f;generalize(BA l p)[g]=y at hm d;unfold BA at hm;rcases Ao.1 hm with hm|hm
 .exact hn.2.2 y.node (BE.2 ⟨cA hm,by simpa[d] using h0⟩) l[p].node AB (by rw[d,h1])
 .exact hn.2.1.1 (BE.2 ⟨by rw[h1,<-d];exact cA hm,by simpa[h1] using h0⟩)
section
variable{h h':Ai}{bi a ai:Nat}{o c t:Ab}{G G' F:Nat->Prop}{b b':BS}{x:Int}{m:Nat}
variable{nm:Ah}{av:Ab}{l:List Bj}{r:List Ab}{sp p:Int}{e:DH}{at_ mk last:Int}{anc far:Item}
def Zn{blk anc:Int}{far i:Nat}{l:Int}{mk m:Nat}(r:CH b (m+4)):CH (BS.Gu blk anc far i b l mk).1 m:=by
 unfold BS.Gu;simp only
 split;.exact(r.le Ac).sub rfl CO (BR _) (Ad _)
 .split;.exact(r.le Ac).sub rfl CO CO (Ad _)
  .rename_i he _;obtain⟨p,hp,f,_,_,_⟩:=KW (Vu.1 he);rw[f,BH,AL,Av hp,Fx];have RI:=r.Es _ (AG hp);have d:=RJ (m:=m+1) (nm:=b.A3[p].name) (l:=b.A3[p].As) (sp:=1) (p:=anc) (r.le Ac) RI.2;have r2:=(d.le (m':=m) Ac).I5 (LH (p:=(b.HA b.A3[p].name b.A3[p].As 1).node) (x:=l) (bf:=0));refine⟨r2.n,r2.at_,r2.data,by simp only[Ci];exact r2.Au,by simp only[Ci];exact r2.A3,r2.tm,λe he=>?_,λi hi=>?_⟩
   .rcases DC he with he|rfl
    .exact r2.Es e he
    .exact RI
   .rcases DC hi with hi|rfl
    .exact r2.vO i hi
    .exact T2 RI.1
end
def Vk{A:Ar}{x p bf:Int}(h:(A.nd p).kind=4):A.Et x p bf=A.F9 p x bf:=by unfold Ar.Et;rw[Aa (by rw[h];intro h;exact absurd h.1 Az)]
section
variable{h h':Ai}{bi a ai:Nat}{o c t:Ab}{G G' F:Nat->Prop}{b b':BS}{x:Int}{m:Nat}
variable{nm:Ah}{av:Ab}{l:List Bj}{r:List Ab}{sp p:Int}{e:DH}{at_ mk last:Int}{anc far:Item}
def EH.at(hc:EH b.A3 c)(w:BX h bi a o c t G b)(rm:CH b m)(n:Int):CD cx 215 [Pt bi 3,I n] h (I (FU n b.A3)) h:=by obtain⟨fs,MM,hv⟩:=hc;have ha:=rm.A3;have:=f41 w.ud hv (by rw[<-MM,Aw] at ha;omega) n;rwa [Zh,MM] at this
structure qL(h:Ai)(bi a ai:Nat)(t:Ab)(G0:Nat->Prop)(fe:DH)(anc far:Item)(k N m:Nat)(s0:BS×Int×Nat)(n:Nat)(h1:Ai)(o c:Ab)(G:Nat->Prop)(s:BS×Int×Nat):Prop where
 le:n<=N
 w:BX h1 bi a o c t G s.1
 hc:EH s.1.A3 c
 ok:EC s.1
 rm:CH s.1 (m+4*n)
 last:s.1.a.has s.2.1
 st:h1[ai]?=some (.cells (Gd fe (FU fe.c.node s.1.A3) (s.2.2:Int) anc far s.2.1))
 hn:¬BU bi G ai
 x:FC h (NO ai bi G0) h1 (NO ai bi G)
 xl:0<=FU fe.c.node s.1.A3
 mkb:s.2.2<=1000000000
 Au:s.1.Au.take (k+n+1)=s0.1.Au.take (k+n+1)
 len:k+n+1<=s.1.Au.length
 eq:BS.Np far.node anc.node (k+1+N) k N s0=BS.Np far.node anc.node (k+1+N) k n s
 fe:s.1.a.has fe.c.node
def ux{blk anc:Int}{far i:Nat}{l:Int}{mk:Nat}(hi:i<b.Au.length):(BS.Gu blk anc far i b l mk).1.Au.take i=b.Au.take i/\i<=(BS.Gu blk anc far i b l mk).1.Au.length:=by
 have h1:(BA b.Au i).take i=b.Au.take i/\i<=(BA b.Au i).length:=by refine⟨?_,by rw[Kr hi];omega⟩;unfold BA;rw[Bk (by rw[Ax];omega),CK,Nat.min_self]
 unfold BS.Gu;simp only
 split;.exact h1
 .split;.exact h1
  .have NV:∀nm l p,(b.Gf nm l 1 p).Au=b.Au:=λnm l p=>by unfold BS.Gf;rw[Ae KG]
   simp only[NV];exact⟨bW (Ad i),by rw[Ci];omega⟩
def qL.step{h1 h2:Ai}{C D A z:Ab}{B u:Nat->Prop}{fe:DH}{k N n:Nat}{s0 s s':BS×Int×Nat}(i:qL h bi a ai t G fe anc far k N m s0 (n+1) h1 C D B s)(e:s'=BS.Gu far.node anc.node (k+1+N) (k+(n+1)) s.1 s.2.1 s.2.2)
  (w:BX h2 bi a A z t u s'.1) (hc:EH s'.1.A3 z) (st:h2[ai]?=some (.cells (Gd fe (FU fe.c.node s'.1.A3) (s'.2.2:Int) anc far s'.2.1))) (hn:¬BU bi u ai) (x:FC h1 (NO ai bi B) h2 (NO ai bi u)) (xl:0<=FU fe.c.node s'.1.A3) (mk:s'.2.2<=1000000000):
  qL h bi a ai t G fe anc far k N m s0 n h2 A z u s':=by
 obtain⟨g,last',j⟩:=OZ (blk:=far.node) (anc:=anc.node) (far:=k+1+N) (i:=k+(n+1)) (m:=s.2.2) i.ok i.last;have hl:=i.len;obtain⟨f,v⟩:=ux (blk:=far.node) (anc:=anc.node) (far:=k+1+N) (i:=k+(n+1)) (l:=s.2.1) (mk:=s.2.2) (b:=s.1) Ac;have d:=Zn (blk:=far.node) (anc:=anc.node) (far:=k+1+N) (i:=k+(n+1)) (l:=s.2.1) (mk:=s.2.2) (m:=m+4*n) (i.rm.le Ac);have NV:=i.Au;have y:BS.Np far.node anc.node (k+1+N) k (n+1) s=BS.Np far.node anc.node (k+1+N) k n (BS.Gu far.node anc.node (k+1+N) (k+(n+1)) s.1 s.2.1 s.2.2):=rfl;have q:=i.eq.trans y;rw[<-e] at g last' j f v d q;refine⟨by have:=i.le;omega,w,hc,g,d,last',st,hn,i.x.trans x,xl,mk,?_,Ac,q,j.has _ i.fe⟩;have:=B6 (λl=>l.take (k+(n+1))) NV;simp only[CK] at this;rw[(Ac:k+n+1=k+(n+1)),f];rwa [BP Ac] at this
def aLf{fe:DH}{k N:Nat}{s0:BS×Int×Nat}(i0:qL h bi a ai t G fe anc far k N m s0 N h o c G s0)(sX:1<=k)(XX:AD (Bt fe.c.node) s0.1.Au=(k:Int))(hN:k+1+N<s0.1.Au.length):
  ∃h' o' c' G' s',CD cx 253 [Pt bi 0,Pt ai 0,I (k:Int),I ((k+1+N:Nat):Int)] h (.tuple []) h'/\s'=BS.Np far.node anc.node (k+1+N) k N s0/\qL h bi a ai t G fe anc far k N m s0 0 h' o' c' G' s':=by
 have ho:=i0.rm.Au;have Ql:Ev cx 253 [Pt bi 0,Pt ai 0,I (k:Int),I ((k+1+N:Nat):Int)] h λr h'=>r= .tuple []/\∃o' c' G' s',s'=BS.Np far.node anc.node (k+1+N) k N s0/\qL h bi a ai t G fe anc far k N m s0 0 h' o' c' G' s':=by
  unfold Ev;rw[jc,aGz];have i1:=Ek (a:=((k+1+N:Nat):Int)) (b:=1) Ac Ac;rw[(Ac:((k+1+N:Nat):Int)-1=((k+N:Nat):Int))] at i1;simp only[Cy,i1];refine Cv (λn:Nat=>[I ((N-n:Nat):Int),I ((k+n:Nat):Int)]) (λn h1=>∃o c G1 s,qL h bi a ai t G fe anc far k N m s0 n h1 o c G1 s) (λn=>n) N (by rw[Fh];rfl) ⟨o,c,_,s0,i0⟩ ?_;rintro n h1 ⟨o1,c1,G1,s,i⟩;cases n with
  |zero=>simp only[abS,↓reduceIte,(Ac:¬(k:Int)<(k:Int))];exact⟨_,rfl,rfl,o1,c1,G1,s,i.eq.symm,i⟩
  |succ n=>
   have hnN:=i.le;have hlen:=i.len;have B:k+(n+1)<s.1.Au.length:=Ac;have hwo:=i.rm.Au;have hwa:=i.rm.A3;have Ê:ai≠bi:=λe=>i.hn (.inl e);have Ÿ:ai<h1.length:=(Aj.1 i.st).1;have L:=WD i.w.sA ((k+(n+1):Nat):Int);rw[IK B] at L;have U:=kU i.ok.mU B;have hxf:s.1.Au[k+(n+1)].node≠fe.c.node:=by have h2:=B6 (λl=>l[k+(n+1)]?) i.Au;simp only[CA] at h2;rw[Ae Ac,Ae Ac,Av B,Av Ac] at h2;obtain⟨_,_,h3⟩:=Mk XX;have g:=h3 (k+(n+1)) Ac Ac;rw[Ff h2];intro h5;unfold Bt at g;rw[h5] at g;simp at g
   have ı:s.1.Au.getD (k+(n+1)) Item.zero=s.1.Au[k+(n+1)]:=by rw[AL,Av B];rfl
   generalize s.1.Au[k+(n+1)]=x at*;have r2:=i.hc.at i.w i.rm x.node;obtain⟨q,hq,Ĥ,hq0,hq2,hq3⟩:=KW i.xl;have inc:AE (.int .add) [I ((N-(n+1):Nat):Int),I 1]=some (I ((N-n:Nat):Int)):=by have:=DB (n:=N-(n+1)) Ac;rwa [(Ac:N-(n+1)+1=N-n)] at this
   have dec:AE (.int .sub) [I ((k+(n+1):Nat):Int),I 1]=some (I ((k+n:Nat):Int)):=by have:=Ol (n:=k+(n+1)) Ac Ac;rwa [(Ac:k+(n+1)-1=k+n)] at this
   have y:(k:Int)<((k+(n+1):Nat):Int):=Ac;have W:∀l:List Item,l=s.1.Au->Cg x.node l=BA l (k+(n+1)):=by intro l e;subst e;unfold Cg;rw[U,Aa Ac,BH]
   by_cases he:FU x.node s.1.A3<0
   .obtain⟨u,D,hu⟩:=aBH i.w.sO Ac x.node;rw[W _ rfl] at hu;have z:=i.w.PX hu;have es:({s.1 with Au:=BA s.1.Au (k+(n+1))},s.2.1,s.2.2)=BS.Gu far.node anc.node (k+1+N) (k+(n+1)) s.1 s.2.1 s.2.2:=by unfold BS.Gu;simp only[ı];rw[Ae he]
    have E:=i.step es z i.hc ((Da Ê).trans i.st) i.hn (E7 Cz ai) i.xl i.mkb;by_cases cY:(3:Int)<((N-n:Nat):Int);.simp only[abS,↓reduceIte,Ly,y,L.Af,inc,r2.Af,cY,he,(Ac:¬(0:Int)<=FU x.node s.1.A3),D.Af,dec];exact By.next n rfl ⟨_,_,_,_,E⟩ Ac
    .simp only[abS,↓reduceIte,Ly,y,L.Af,inc,r2.Af,cY,he,D.Af,dec];exact By.next n rfl ⟨_,_,_,_,E⟩ Ac
   .obtain⟨p,hp,ep,hx0,xz,hp3⟩:=KW (Vu.1 he);have JA:(0:Int)<=(p:Int):=Ac;rw[ep] at r2;have X:s.1.A3[p].node≠fe.c.node:=by rw[xz];exact hxf
    have H:(FU x.node s.1.A3).toNat=p:=by rw[ep,BH]
    by_cases cY:(3:Int)<((N-n:Nat):Int)
    .obtain⟨h2,c2,D,z,Mx,Ĳ,J⟩:=lg i.w i.hc i.rm i.st i.hn hp ⟨i.xl,Ac⟩ ⟨Ac,by have:=i.mkb;omega⟩;have wK:CH {s.1 with A3:=BA s.1.A3 p} (m+4*(n+1)):=i.rm.sub rfl (BR _) CO (Ad _);have r4:=EH.at (b:={s.1 with A3:=BA s.1.A3 p}) Mx z wK x.node;have zB:FU x.node (BA s.1.A3 p)<0:=by have:=uw (n:=x.node) i.ok.xt (Vu.1 he);rwa [H] at this
     obtain⟨u,r5,hu⟩:=aBH z.sO FY x.node;rw[W _ rfl] at hu;have M:=z.PX hu;have ĳ:(((if p<s.2.2 then s.2.2 -1 else s.2.2:Nat)):Int)=down p (s.2.2:Int):=by unfold down;split<;>split<;>omega
     have es:({s.1 with A3:=BA s.1.A3 p,Au:=BA s.1.Au (k+(n+1))},s.2.1,if p<s.2.2 then s.2.2 -1 else s.2.2)=BS.Gu far.node anc.node (k+1+N) (k+(n+1)) s.1 s.2.1 s.2.2:=by unfold BS.Gu;simp only[ı];rw[Aa he,Ae (Ac:k+(n+1)+3<k+1+N),H]
     have aLh:=uv i.xl hp X;have hd0:0<=down p (FU fe.c.node s.1.A3):=by unfold down;split<;>omega
     have E:=i.step es M Mx (by rw[Da Ê,Ĳ];simp only;rw[aLh,ĳ]) i.hn (J.trans (E7 Cz ai)) (by simp only;rw[aLh];exact hd0) (by have:=i.mkb;simp only;split<;>omega);simp only[abS,↓reduceIte,Ly,y,L.Af,inc,r2.Af,cY,JA,D.Af,r4.Af,zB,r5.Af,dec];exact By.next n rfl ⟨_,_,_,_,E⟩ Ac
    .obtain⟨fs,MM,hv⟩:=i.hc;have Jz:s.1.A3.length=fs.length:=by rw[<-MM,Aw]
     have aPT:p<fs.length:=Ac;have efp:fs[p].c=s.1.A3[p]:=by simp only[<-MM,Ei]
     have l3:=i.w.l3;have e1:=Bx.DN (k:= .i64) hv aPT;have l5:Bp h1 none (Pt ai 5)=some (I anc.node):=At.load ⟨_,i.st,rfl⟩;obtain⟨r,D,hr⟩:=į fs[p] h1;have RI:=i.rm.Es _ (AG hp);rw[<-efp] at RI;obtain⟨h2,G2,r4,z,J⟩:=aG9 (m:=m+4*n) i.w i.ok (i.rm.le Ac) hr fs[p].ok RI.2 RI.1 anc.node 1;obtain⟨ok2,f,le2⟩:=Qf (nm:=fs[p].c.name) (at_:=fs[p].c.As) (p:=anc.node) i.ok KG;have wK:=RJ (m:=m+4*n+1) (nm:=fs[p].c.name) (l:=fs[p].c.As) (sp:=1) (p:=anc.node) (i.rm.le Ac) RI.2;have NV:(s.1.Gf fs[p].c.name fs[p].c.As 1 anc.node).Au=s.1.Au:=by unfold BS.Gf;rw[Ae KG]
     have pR:(s.1.Gf fs[p].c.name fs[p].c.As 1 anc.node).A3=s.1.A3:=by unfold BS.Gf;rw[Ae KG]
     have Z:BS.Gu far.node anc.node (k+1+N) (k+(n+1)) s.1 s.2.1 s.2.2=({s.1.Gf fs[p].c.name fs[p].c.As 1 anc.node with a:=(s.1.Gf fs[p].c.name fs[p].c.As 1 anc.node).a.F9 (s.1.HA fs[p].c.name fs[p].c.As 1).node s.2.1 0,Au:=(s.1.Gf fs[p].c.name fs[p].c.As 1 anc.node).Au.set (k+(n+1)) (s.1.HA fs[p].c.name fs[p].c.As 1),A3:=(s.1.Gf fs[p].c.name fs[p].c.As 1 anc.node).A3.set p {fs[p].c with node:=(s.1.HA fs[p].c.name fs[p].c.As 1).node}},(s.1.HA fs[p].c.name fs[p].c.As 1).node,if s.2.1=far.node then p+1 else s.2.2):=by unfold BS.Gu;simp only[ı];rw[Aa he,Aa Ac,H,AL,Av hp,Fx,<-efp]
     have yW:=RH i.ok f;have hna:=U9 i.ok f;have hnf:(s.1.HA fs[p].c.name fs[p].c.As 1).node≠fe.c.node:=λe2=>f.new (by rw[e2];exact i.fe);have aPV:=le2.has _ i.last;have aPW:(s.1.HA fs[p].c.name fs[p].c.As 1).name.length<=1000:=T2 RI.1;generalize s.1.HA fs[p].c.name fs[p].c.As 1=d at*;generalize s.1.Gf fs[p].c.name fs[p].c.As 1 anc.node=b2 at*;have mQ:¬BU bi G2 ai:=λhg=>by
      rcases J.BU ai hg with hg|hg
      .exact i.hn hg
      .omega
     have Ĳ:h2[ai]?=_:=(J.old ai Ÿ i.hn).trans i.st;obtain⟨K,O,r5,gD⟩:=aPc z.sO (by have:=wK.Au;omega) x.node d;have aPX:QV x.node d b2.Au=b2.Au.set (k+(n+1)) d:=by unfold QV;rw[NV,U,Aa Ac,BH]
     rw[aPX] at gD;have M:=(z.PX gD).L1 (u:=O);have x3:FC h1 (NO ai bi G1) (put h2 bi 2 K++O) (NO ai bi G2):=(E7 J ai).trans (E7 (Cz.trans (z.PX gD).EF) ai);have ai2:ai<h2.length:=by have:=J.len;omega
     have st3:(put h2 bi 2 K++O)[ai]?=_:=(Al (by rw[MU];exact ai2)).trans ((Da Ê).trans Ĳ);have ai3:ai<(put h2 bi 2 K++O).length:=by rw[An,MU];omega
     generalize put h2 bi 2 K++O=h3 at*;have aPY:=(RI.2).1;obtain⟨C,t2,e2,he2,r6,TM⟩:=aPh (h:=h3) (id:=bi) (o:=3) (l:=fs) ⟨c1,M.ud,hv⟩ Ac x.node (e:=⟨{fs[p].c with node:=d.node},fs[p].v,fs[p].ok⟩) (by unfold xo;simp only;omega);have hei:LA x.node fs=(p:Int):=by rw[Zh,MM,ep]
     rw[hei,Aa Ac,BH] at TM;have w4:=(M.Ub (u:=C) (l:=b2.A3.set p {fs[p].c with node:=d.node})).L1 (u:=t2);have hc4:EH (b2.A3.set p {fs[p].c with node:=d.node}) C:=⟨_,by rw[JW,MM,he2,pR],TM⟩;have x4:=x3.trans (E7 ((Cz (k:=3) (v:=C)).trans (BX.EF (u:=t2) (M.Ub (u:=C) (l:=b2.A3.set p {fs[p].c with node:=d.node})))) ai);have A:(put h3 bi 3 C++t2)[ai]?=_:=(Al (by rw[MU];exact ai3)).trans ((Da Ê).trans st3);generalize put h3 bi 3 C++t2=g at*;have ok3:=ok2.Þ (i:=d) (k:=k+(n+1)) ⟨f.has,f.kind,f.Bd,f.name⟩ (by rw[NV];exact yW);have ok4:=ok3.á (e:={fs[p].c with node:=d.node}) (k:=p) ⟨f.has,f.kind⟩ (by simp only[pR];exact hna);have rm4:CH {b2 with Au:=b2.Au.set (k+(n+1)) d,A3:=b2.A3.set p {fs[p].c with node:=d.node}} (m+4*n+1):=by
      refine⟨wK.n,wK.at_,wK.data,by simp only[Ci];exact wK.Au,by simp only[Ci];exact wK.A3,wK.tm,λe he=>?_,λi hi=>?_⟩
      .rcases DC he with he|rfl
       .exact wK.Es e he
       .exact RI
      .rcases DC hi with hi|rfl
       .exact wK.vO i hi
       .exact aPW
     have S:Bp g none (Pt ai 13)=some (I s.2.1):=At.load ⟨_,A,rfl⟩;have l9:Bp g none (Pt ai 9)=some (I far.node):=At.load ⟨_,A,rfl⟩;have t4:At g ai 4 (I (s.2.2:Int)):=⟨_,A,rfl⟩;obtain⟨kW,uy⟩:∃kW:Nat,kW=if s.2.1=far.node then p+1 else s.2.2:=⟨_,rfl⟩
     have e5:put g ai 4 (I (kW:Int))=if s.2.1=far.node then put g ai 4 (I ((p+1:Nat):Int)) else g:=by
      rw[uy];split;.rfl
      .exact t4.same
     have Q:=KC (k:=4) (v:= I (kW:Int)) A;have w5:BX (put g ai 4 (I (kW:Int))) bi a K C t G2 {b2 with Au:=b2.Au.set (k+(n+1)) d,A3:=b2.A3.set p {fs[p].c with node:=d.node}}:=w4.FV λj hj=>Da λe=>mQ (e▸hj);have x5:=x4.trans (Q3 (k:=4) (v:= I (kW:Int)));have ai5:ai<(put g ai 4 (I (kW:Int))).length:=by have:=x5.len;omega
     have t5:Bp (put g ai 4 (I (kW:Int))) none (Pt ai 13)=some (I s.2.1):=At.load ⟨_,Q,rfl⟩;generalize hh5:put g ai 4 (I (kW:Int))=h5 at*;obtain⟨h6,G6,r7,w6,x6⟩:=wJ (x:=s.2.1) (p:=d.node) (bf:=0) w5 ok4 rm4;rw[Vk (by exact f.kind)] at w6;have Y:¬BU bi G6 ai:=λhg=>by
      rcases x6.BU ai hg with hg|hg
      .exact mQ hg
      .omega
     have P:h6[ai]?=_:=(x6.old ai ai5 mQ).trans Q;have t6:At h6 ai 13 (I s.2.1):=⟨_,P,rfl⟩;have st7:=KC (k:=13) (v:= I d.node) P;have w7:BX (put h6 ai 13 (I d.node)) bi a K C t G6 _:=w6.FV λj hj=>Da λe=>Y (e▸hj);have x7:=(x5.trans (E7 x6 ai)).trans (Q3 (k:=13) (v:= I d.node));have uz:FU fe.c.node (b2.A3.set p {fs[p].c with node:=d.node})=FU fe.c.node s.1.A3:=by rw[pR];exact İ i.xl hp X hnf
     rw[<-uy] at Z;have E:=i.step Z.symm w7 hc4 (by simp only;rw[st7,uz];rfl) Y x7 (by simp only;rw[uz];exact i.xl) (by simp only;rw[uy];have:=i.mkb;split<;>omega);have V:fs[p].v.cells=[fs[p].v]:=Bx.cells fs[p].ok;have T:=DB (Ac:p<9223372036854775807);have R:CD cx 285 [Pt bi 3,I x.node,.agg [I d.node,.str fs[p].c.name,fs[p].v]] h3 (.bool (decide (0<=LA x.node fs))) g:=r6;rw[DH.row] at e1 D;by_cases mW:s.2.1=far.node
     .rw[Ae mW] at e5;have s5:Dd g 1 (Pt ai 4) (I ((p+1:Nat):Int))=some h5:=by rw[e5];exact t4.store rfl
      simp only[abS,Nat.reduceLeDiff,↓reduceIte,Cl,Ly,y,L.Af,inc,r2.Af,cY,JA,(Ac:¬(p:Int)<0),l3,e1,l5,D.Af,DJ,r4.Af,r5.Af,V,R.Af,S,l9,BI mW,T,s5,t5,r7.Af,t6.store (u:= I d.node) rfl,dec];exact By.next n rfl ⟨_,_,_,_,E⟩ Ac
     .rw[Aa mW] at e5;subst e5;simp only[abS,Nat.reduceLeDiff,↓reduceIte,Cl,Ly,y,L.Af,inc,r2.Af,cY,JA,(Ac:¬(p:Int)<0),l3,e1,l5,D.Af,DJ,r4.Af,r5.Af,V,R.Af,S,l9,mW,r7.Af,t6.store (u:= I d.node) rfl,dec];exact By.next n rfl ⟨_,_,_,_,E⟩ Ac
 obtain⟨r,h',hr,rfl,o',c',G',s',e',i'⟩:=Ql.ret;exact⟨h',o',c',G',s',hr,e',i'⟩
end
end Go.Am
end
