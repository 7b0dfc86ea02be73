/- Lemmas -/
import Derived.Test.YtjjnhgoknielgaaGreatDoorZ23
set_option linter.all false
set_option maxHeartbeats 0
set_option maxRecDepth 100000
section
namespace Go.Am
open Go
section
variable{h h':Ai}{a n:Nat}{m:Option Nat}{ps:List PN}{A:Ar}{x:Int}{F:Nat->Prop}
def oP{p:PN}(w:PA h a n m ps A)(hx:A.has x){i:Nat}(hi:i∈Gb a n m (ps.set (x.toNat-1) p)):i∈Gb a n m ps\/H9 p.kv=some i:=by
 obtain⟨c,b⟩:=YU w hx p;unfold Gb at hi⊢;rw[b,EV] at hi;simp only[AE,An,Cq] at hi⊢;rcases hi with h1|h1|h1|⟨q,h1,h2⟩|⟨q,h1,h2⟩
 .exact .inl (.inl h1)
 .exact .inl (.inr (.inl h1))
 .exact .inl (.inr (.inr (.inl h1)))
 .exact .inl (.inr (.inr (.inr ⟨q,AZ h1,h2⟩)))
 .rcases h1 with rfl|h1
  .exact .inr h2
  .exact .inl (.inr (.inr (.inr ⟨q,AY h1,h2⟩)))
def æ{kv:Aa}{l:List Int}{k:Nat}(hk:KO h kv l)(XF:k<=l.length)(hb:l.length<=1000000000)(y:Int):
  ∃h1,Eu .lg h [kv,I (k:Int),.sl 1 [[I y]]]=some (h1,.Dn h.length 0 (l.length+1) 1)/\h1[h.length]?=some (.cells ((l.take k++y::l.drop k).map (Aa.int .i64)))/\(∀i,i<h.length->H9 kv≠some i->h1[i]?=h[i]?)/\h1.length=h.length+1:=by
 rcases hk with⟨rfl,rfl⟩|⟨id,cs,rfl,hc⟩
 .have:k=0:=by simpa using XF
  subst this;exact⟨h++[.cells [I y]],rfl,AB,λi hi _=>Al hi,AB⟩
 .have Jk:=(Aj.1 hc).1;refine⟨h.set id .Ef++[.cells ((l.take k++y::l.drop k).map (Aa.int .i64))],?_,by rw[Bu AB];simp,λi hi hn=>?_,AB⟩
  .simp only[Eu,Rd,hc];rw[Af (by have:AV=140737488355328:=rfl;simp;omega)];simp only[BF];have c:(l.map (Aa.int .i64)++cs).take k=(l.take k).map (Aa.int .i64):=by rw[Bi (by simpa using XF),HA]
   have b:(l.map (Aa.int .i64)++cs).take l.length=l.map (Aa.int .i64):=JZ AB;rw[c,b];simp
  .rw[Al (by simpa using hi),Aq];intro e;exact hn (by rw[e];rfl)
def Rz{p b:Int}(hf:¬zo A p x b):A.GC p x b=A:=by unfold Ar.GC;rw[Ac hf]
def ç{l:List Int}{b y:Int}{k:Nat}(hb:b=0->k=l.length)(h2:b≠0->l.takeWhile (λy=>decide (y≠b))=l.take k/\l.dropWhile (λy=>decide (y≠b))=l.drop k):JC l b y=l.take k++y::l.drop k:=by
 unfold JC;by_cases h0:b=0;.rw[Af h0,hb h0];simp
 .rw[Ac h0,(h2 h0).1,(h2 h0).2]
open Classical in
def aCr{e p b:Int}(w:PA h a n m ps A)(d:NB A)(ok:EA A e):
  ∃er h' PI,Cy cx 66 [Pt a 0,I p,I x,I b] h (I er) h'/\PA h' a n m PI (A.GC p x b)/\Fo h (λi=>i∈Gb a n m ps) h' (λi=>i∈Gb a n m PI):=by
 by_cases uz:A.has p/\A.has x;rotate_left;.refine⟨3,h,ps,?_,by rw[Rz (λf=>uz ⟨f.hp,f.hn⟩)];exact w,.refl⟩;rw[Ag,QQ,t66];simp only[abS,FZ,(Mx (x:=p) (y:=x) w).Ae,Ac uz,CY,(AA:¬(3:Int)=0)]
 obtain⟨hp,hx⟩:=uz;by_cases hb:b≠0/\¬A.has b;.refine⟨3,h,ps,?_,by rw[Rz (λf=>hb.2 (f.hb hb.1).1)];exact w,.refl⟩;rw[Ag,QQ,t66];simp only[abS,FZ,(Mx (x:=p) (y:=x) w).Ae,Af (And.intro hp hx),CY,C4,hb.1,(Wq (x:=b) w).Ae,Ap hb.2,Fv]
 have Tf:b=0\/(b≠0/\A.has b):=by
  by_cases h0:b=0;.exact .inl h0
  .refine .inr ⟨h0,?_⟩;by_cases h1:A.has b;.exact h1
   .exact absurd ⟨h0,h1⟩ hb
 by_cases kp:NR (A.nd p).kind;rotate_left
 .refine⟨4,h,ps,?_,by rw[Rz (λf=>kp f.kp)];exact w,.refl⟩;unfold NR at kp;have c:¬(A.nd p).kind=1:=λe=>kp (.inl e);have t:¬(A.nd p).kind=2:=λe=>kp (.inr (.inl e));have H:¬(A.nd p).kind=4:=λe=>kp (.inr (.inr e));rw[Ag,QQ,t66];rcases Tf with h0|⟨h0,Qb⟩
  .simp only[abS,FZ,(Mx (x:=p) (y:=x) w).Ae,Af (And.intro hp hx),CY,C4,(I8 w d hp).Ae,(I8 w d hx).Ae,w.f0 hp,w.f0 hx,c,Fv,h0,t,H]
  .simp only[abS,FZ,(Mx (x:=p) (y:=x) w).Ae,Af (And.intro hp hx),CY,C4,(I8 w d hp).Ae,(I8 w d hx).Ae,w.f0 hp,w.f0 hx,c,Fv,h0,(Wq (x:=b) w).Ae,Ak Qb,t,H]
 by_cases kn:(A.nd x).kind=1\/(A.nd x).kind=2
 .refine⟨4,h,ps,?_,by rw[Rz (λf=>by have:=f.kn;omega)];exact w,.refl⟩;rw[Ag,QQ,t66];rcases kp with c|c|c<;>rcases kn with t|t<;>rcases Tf with h0|⟨h0,Qb⟩
  all_goals first|(simp only[abS,FZ,(Mx (x:=p) (y:=x) w).Ae,Af (And.intro hp hx),CY,C4,(I8 w d hp).Ae,(I8 w d hx).Ae,w.f0 hp,w.f0 hx,c,(AA:¬(2:Int)=1),(AA:¬(4:Int)=1),(AA:¬(4:Int)=2),Fv,h0,t];done)|simp only[abS,FZ,(Mx (x:=p) (y:=x) w).Ae,Af (And.intro hp hx),CY,C4,(I8 w d hp).Ae,(I8 w d hx).Ae,w.f0 hp,w.f0 hx,c,(AA:¬(2:Int)=1),(AA:¬(4:Int)=1),(AA:¬(4:Int)=2),Fv,h0,(Wq (x:=b) w).Ae,Ak Qb,t]
 have l:¬(A.nd x).kind=1:=λe=>kn (.inl e);have g:¬(A.nd x).kind=2:=λe=>kn (.inr e);have r:=aJn w ok hx hp;by_cases re:Reach A x p
 .refine⟨4,h,ps,?_,by rw[Rz (λf=>f.re re)];exact w,.refl⟩;rw[Ak re] at r;rw[Ag,QQ,t66];rcases kp with c|c|c<;>rcases Tf with h0|⟨h0,Qb⟩
  all_goals first|(simp only[abS,FZ,(Mx (x:=p) (y:=x) w).Ae,Af (And.intro hp hx),CY,C4,(I8 w d hp).Ae,(I8 w d hx).Ae,w.f0 hp,w.f0 hx,c,(AA:¬(2:Int)=1),(AA:¬(4:Int)=1),(AA:¬(4:Int)=2),Fv,h0,l,g,r.Ae];done)|simp only[abS,FZ,(Mx (x:=p) (y:=x) w).Ae,Af (And.intro hp hx),CY,C4,(I8 w d hp).Ae,(I8 w d hx).Ae,w.f0 hp,w.f0 hx,c,(AA:¬(2:Int)=1),(AA:¬(4:Int)=1),(AA:¬(4:Int)=2),Fv,h0,(Wq (x:=b) w).Ae,Ak Qb,l,g,r.Ae]
 rw[Ap re] at r;by_cases q:b≠0/\(b=x\/(A.nd b).GR≠p)
 .refine⟨5,h,ps,?_,by rw[Rz (λf=>by have:=f.hb q.1;rcases q.2 with h|h;exact this.2.1 h;exact h this.2.2)];exact w,.refl⟩;obtain⟨h0,q⟩:=q;have Qb:=(Tf.resolve_left h0).2;rw[Ag,QQ,t66];by_cases o:b=x;.have aTU:=o;rcases kp with c|c|c<;>simp only[abS,FZ,(Mx (x:=p) (y:=x) w).Ae,Af (And.intro hp hx),CY,C4,(I8 w d hp).Ae,(I8 w d hx).Ae,w.f0 hp,w.f0 hx,c,(AA:¬(2:Int)=1),(AA:¬(4:Int)=1),(AA:¬(4:Int)=2),Fv,l,g,r.Ae,o,show¬x=0 from o▸h0,Ak hx,(Wq (x:=x) w).Ae]
  .have q:=q.resolve_left o;rcases kp with c|c|c<;>simp only[abS,FZ,(Mx (x:=p) (y:=x) w).Ae,Af (And.intro hp hx),CY,C4,(I8 w d hp).Ae,(I8 w d hx).Ae,w.f0 hp,w.f0 hx,c,(AA:¬(2:Int)=1),(AA:¬(4:Int)=1),(AA:¬(4:Int)=2),Fv,h0,(Wq (x:=b) w).Ae,Ak Qb,l,g,r.Ae,o,(I8 w d Qb).Ae,w.f1 Qb,q]
 have fits:zo A p x b:=⟨hp,hx,λh0=>⟨(Tf.resolve_left h0).2,λe=>q ⟨h0,.inl e⟩,by
  by_cases h1:(A.nd b).GR=p;.exact h1
  .exact absurd ⟨h0,.inr h1⟩ q⟩,kp,⟨l,g⟩,re⟩
 have Z:A.GC p x b=(A.cut x).Mm p x b:=by unfold Ar.GC;rw[Af fits]
 obtain⟨h1,aD,Q,w1,U⟩:=aCp w d ok hx;have RA:=gL ok hx g;have K:=d.cut (x:=x);have uP:(A.cut x).has p:=KK.2 hp;have UE:(A.cut x).has x:=KK.2 hx;have L:x≠p:=by rintro rfl;exact re .refl
 have D:=K.Bm RA p;obtain⟨k,XF,C,ŗ⟩:∃k,k<=((A.cut x).nd p).Bm.length/\(b=0->k=((A.cut x).nd p).Bm.length)/\(b≠0->Cr (λy=>decide (b=y)) 0 ((A.cut x).nd p).Bm=(k:Int)/\((A.cut x).nd p).Bm.takeWhile (λy=>decide (y≠b))=((A.cut x).nd p).Bm.take k/\((A.cut x).nd p).Bm.dropWhile (λy=>decide (y≠b))=((A.cut x).nd p).Bm.drop k):=by
  by_cases h0:b=0;.exact⟨_,Ad _,λ_=>rfl,λh=>absurd h0 h⟩
  .have u:=fits.hb h0;have aJv:((A.cut x).nd b).GR=p:=by
    rw[QJ ok hx,Ac u.2.1];split;.exact u.2.2
    .exact u.2.2
   have uK:b∈((A.cut x).nd p).Bm:=by have:=(RA.GR b (KK.2 u.1) (by rw[aJv];have:=hp.1;omega)).2;rwa [aJv] at this
   obtain⟨k,c,t,_,H,X⟩:=jC uK;exact⟨k,Ab,λh=>absurd h h0,λ_=>⟨t,H,X⟩⟩
 have RH:=ç (y:=x) C λh=>(ŗ h).2;have N7:=w1.N7 uP;obtain⟨h2,N,Mn,mF,sB⟩:=æ N7 XF D x;have M:=(w1.pn uP).2.1;obtain⟨s,è⟩:∃s:PN,s=⟨{(A.cut x).nd p with Bm:=JC ((A.cut x).nd p).Bm b x},.Dn h1.length 0 (((A.cut x).nd p).Bm.length+1) 1,(pN aD p).av,w1.att uP⟩:=⟨_,rfl⟩;have B:s.x={(A.cut x).nd p with Bm:=JC ((A.cut x).nd p).Bm b x}:=by rw[è]
 have hrow:s.row=(pN aD p).row.set 2 (.Dn h1.length 0 (((A.cut x).nd p).Bm.length+1) 1):=by rw[è];simp only[PN.row];rw[M];rfl
 have aJw:n∈Gb a n m aD:=by simp[Gb]
 have rY:H9 (pN aD p).kv≠some n:=by intro G;have:=w1.nd;unfold Gb at this;simp only[B6,AE,PU] at this;exact this.2.1 (An.2 (.inr (Cq.2 ⟨_,(w1.pn uP).2.2,G⟩)))
 have J:=w1.sto uP (k:=2) AA (v:= .Dn h1.length 0 (((A.cut x).nd p).Bm.length+1) 1) rfl hrow (mF n (w1.lt n aJw) rY);have hlen:(JC ((A.cut x).nd p).Bm b x).length=((A.cut x).nd p).Bm.length+1:=by rw[RH,Ao,AK,Ay,AX];omega
 have z:=w1.uc uP (p:=s) (h1:=h2) (λi hi hn=>mF i (w1.lt i hi) hn) (by rw[è];refine .inr ⟨h1.length,[],by simp only[hlen],?_⟩;simp only[RH,Bg];exact Mn) (.inr λj hj=>by rw[è] at hj;cases hj;exact Ad _)
 have X3:∀i,i∈Gb a n m (aD.set (p.toNat-1) s)->i∈Gb a n m aD\/i=h1.length:=by
  intro i hi;rcases oP w1 uP hi with h|h
  .exact .inl h
  .rw[è] at h;cases h;exact .inr rfl
 generalize E:h2.set n (.cells ((aD.set (p.toNat-1) s).map PN.row).flatten)=h3 at J z;generalize aTX:aD.set (p.toNat-1) s=ã at z X3;rw[B] at z;have ZI:((A.cut x).set p {(A.cut x).nd p with Bm:=JC ((A.cut x).nd p).Bm b x}).has x:=J1.2 UE;have lD:((A.cut x).set p {(A.cut x).nd p with Bm:=JC ((A.cut x).nd p).Bm b x}).nd x=(A.cut x).nd x:=by rw[Ka,Ac (λh=>L h.1)]
 have uz:=(z.pn ZI).2.1;obtain⟨S,O,V,Y,W,l4⟩:=z.wr ZI (k:=1) AA (v:= I p) rfl (p:=⟨{(A.cut x).nd x with GR:=p},(pN ã x).kv,(pN ã x).av,by have:=(pN ã x).ok;rw[uz,lD] at this;exact this⟩) (by simp only[PN.row];rw[uz,lD];rfl) rfl (B3 HP.Bm lD).symm;have aJx:(A.cut x).Mm p x b=((A.cut x).set p {(A.cut x).nd p with Bm:=JC ((A.cut x).nd p).Bm b x}).set x {(A.cut x).nd x with GR:=p}:=by unfold Ar.Mm;simp only;rw[lD]
 refine⟨0,S,_,?_,by rw[Z,aJx];exact V,?_⟩
 .rw[Ag,QQ,t66];by_cases h0:b=0;.rw[C h0] at N;have kl:=N7.len;rcases kp with c|c|c<;>simp only[abS,FZ,(Mx (x:=p) (y:=x) w).Ae,Af (And.intro hp hx),CY,C4,(I8 w d hp).Ae,(I8 w d hx).Ae,w.f0 hp,w.f0 hx,c,(AA:¬(2:Int)=1),(AA:¬(4:Int)=1),(AA:¬(4:Int)=2),Fv,h0,l,g,r.Ae,Q.Ae,w1.f2 uP,kl,GW,N,J,O]
  .have u:=fits.hb h0;have Qb:=u.1;have P:=aFY N7.oO D b;rw[(ŗ h0).1] at P;have kl:=N7.len;rcases kp with c|c|c<;>simp only[abS,FZ,(Mx (x:=p) (y:=x) w).Ae,Af (And.intro hp hx),CY,C4,(I8 w d hp).Ae,(I8 w d hx).Ae,w.f0 hp,w.f0 hx,c,(AA:¬(2:Int)=1),(AA:¬(4:Int)=1),(AA:¬(4:Int)=2),Fv,h0,(Wq (x:=b) w).Ae,Ak Qb,l,g,r.Ae,u.2.1,(I8 w d Qb).Ae,w.f1 Qb,u.2.2,Q.Ae,w1.f2 uP,kl,P.Ae,GW,N,J,O]
 .have um:h3.length=h1.length+1:=by rw[<-E,Ch,sB]
  have T:Fo h1 (λi=>i∈Gb a n m aD) S (λi=>i∈Gb a n m (ã.set (x.toNat-1) ⟨{(A.cut x).nd x with GR:=p},(pN ã x).kv,(pN ã x).av,by have:=(pN ã x).ok;rw[uz,lD] at this;exact this⟩)):=by
   refine⟨Ab,λi hi ZH=>?_,λi hi=>?_⟩;.have R:i≠n:=λG=>ZH (G▸aJw);rw[W i R,<-E,Aq (CZ R)];exact mF i hi λG=>ZH (L8 (w1.pn uP).2.2 G)
   .rw[Y] at hi;rcases X3 i hi with h|h
    .exact .inl h
    .exact .inr Ab
  exact U.trans T
end
def SE(a:Nat)(b:BS)(o c t:Aa):List Aa:=[Pt a 0,I b.BM,o,c,I b.mode,I b.IE,t,I b.head,I b.GO,.bool b.K8,I b.ctx.node,I b.ctx.A9,.str b.ctx.name,.bool b.ctx.QG,.bool b.fs,.bool b.Ec,.str b.aII,.bool b.skip,I b.sw,.bool b.stop]
structure BX(h:Ai)(bi a:Nat)(o c t:Aa)(G:Nat->Prop)(b:BS):Prop where
 hb:h[bi]?=some (.cells (SE a b o c t))
 o:D0 b.Au o
 t:IH b.tm t
 w:PW h G a b.a
 nb:¬G bi
section
variable{h:Ai}{bi a:Nat}{o c t:Aa}{G F:Nat->Prop}{b:BS}{x:Int}{m:Nat}
def BX.lt(w:BX h bi a o c t G b):bi<h.length:=(Aj.1 w.hb).1
def BX.FM{h':Ai}(w:BX h bi a o c t G b)(hf:∀i,i=bi\/G i->h'[i]?=h[i]?):BX h' bi a o c t G b:=
 ⟨by rw[hf bi (.inl rfl)];exact w.hb,w.o,w.t,w.w.FM λi hi=>hf i (.inr hi),w.nb⟩
def BX.Mo(w:BX h bi a o c t G b){u:Ai}:BX (h++u) bi a o c t G b:=w.FM λi hi=>Al (by rcases hi with rfl|hi;exact w.lt;exact w.w.lt hi)
def BX.ld(w:BX h bi a o c t G b)(k:Nat):Bn h none (Pt bi k)=(SE a b o c t)[k]?:=by simp only[Bn,w.hb,I4]
def BX.l0(w:BX h bi a o c t G b):Bn h none (Pt bi 0)=some (Pt a 0):=w.ld 0
def BX.l1(w:BX h bi a o c t G b):Bn h none (Pt bi 1)=some (I b.BM):=w.ld 1
def BX.l4(w:BX h bi a o c t G b):Bn h none (Pt bi 4)=some (I b.mode):=w.ld 4
def BX.l7(w:BX h bi a o c t G b):Bn h none (Pt bi 7)=some (I b.head):=w.ld 7
def BX.l9(w:BX h bi a o c t G b):Bn h none (Pt bi 9)=some (.bool b.K8):=w.ld 9
def BX.l15(w:BX h bi a o c t G b):Bn h none (Pt bi 15)=some (.bool b.Ec):=w.ld 15
def BX.l3(w:BX h bi a o c t G b):Bn h none (Pt bi 3)=some c:=w.ld 3
def BX.l6(w:BX h bi a o c t G b):Bn h none (Pt bi 6)=some t:=w.ld 6
def BX.atO(w:BX h bi a o c t G b):At h bi 2 o:=⟨_,w.hb,rfl⟩
def BX.qi(w:BX h bi a o c t G b):At h bi 3 c:=⟨_,w.hb,rfl⟩
def BX.sO(w:BX h bi a o c t G b):ML h bi 2 b.Au:=⟨o,w.atO,w.o⟩
def BX.sA(w:BX h bi a o c t G b):og h (Pt bi 2) b.Au:=w.sO.at
def I9(w:BX h bi a o c t G b):Cy cx 102 [Pt bi 0] h (.bool true) h:=by rw[Ag,yQ,aD3];simp only[abS,w.l0]
def PW.pa{A:Ar}(w:PW h G a A):∃n m ps,PA h a n m ps A:=let⟨n,m,ps,w,_⟩:=w;⟨n,m,ps,w⟩
def Ws(w:BX h bi a o c t G b)(ok:Ey b)(rm:CK b m)(x:Int):∃K V u,Cy cx 104 [Pt bi 0,I x] h (.agg [I (b.a.nd x).kind,I (b.a.nd x).GR,K,I (b.a.nd x).BM,I (b.a.nd x).A9,.str (b.a.nd x).name,V,.str (b.a.nd x).data,.str (b.a.nd x).KB,.str (b.a.nd x).sys,.bool (b.a.nd x).DW,I (b.a.nd x).cont,I (b.a.nd x).Fm]) (h++u)/\IH (b.a.nd x).Bm K/\LS (h++u) V (b.a.nd x).As/\Up h.length V:=by obtain⟨n,m',ps,d⟩:=w.w.pa;obtain⟨r,u,e,K,V,rfl,g,f⟩:=aAO (x:=x) d rm.Wk (rm.Wk.Bm ok.ok x);refine⟨K,V,u,?_,g,f⟩;rw[Ag,yR,aD4];simp only[abS,w.l0,e.Ae]
def aF3(w:BX h bi a o c t G b)(rm:CK b m):Cy cx 180 [Pt bi 0] h (.agg (D1 b.Au).row) h:=by have:=rm.Au;rw[Ag,ak,aEH];simp only[abS,Lo,(I9 w).Ae,(f39 w.sA Ab).Ae]
def aJy(w:BX h bi a o c t G b)(ok:Ey b)(rm:CK b m):Cy cx 181 [Pt bi 0] h (.tuple [I b.N9.1,I b.N9.2]) h:=by
 have hl:=rm.Au;obtain⟨n,m',ps,f⟩:=w.w.pa;have e:=aAL w.sA (Ab:b.Au.length<=1000000000) JF;have r2:=aAL w.sA (Ab:b.Au.length<=1000000000) AT;have b1:=Lu (q:=AG [JF]) (l:=b.Au);have b2:=Lu (q:=AG [AT]) (l:=b.Au);unfold BS.N9;simp only
 generalize AD (AG [JF]) b.Au=d at e b1⊢;generalize AD (AG [AT]) b.Au=g at r2 b2⊢;rw[Ag,al,aEI];simp only[Cx,e.Ae,r2.Ae];refine⟨λh1=>?_,λh1=>⟨λh2=>?_,λh2=>?_⟩⟩;.rw[Af h1];simp only[Cx,Lo,(Wn w.sA g).Ae]
 .rw[Ac h1,Af h2];simp only[Cx,Lo,(Wn w.sA 0).Ae]
 .rw[Ac h1,Ac h2];simp only[abS,Lo,(Wn w.sA d).Ae,w.l0,(aJb (x:=(El b.Au d).node) f rm.Wk).Ae];refine⟨λh3=>?_,λh3=>?_⟩;.rw[Af h3]
  .rw[Ac h3];have i:(if d-1<0 then 0 else d-1)=max (d-1) 0:=Ab;simp only[Cx,Lo,Ek (Ab: -9223372036854775808<=d-1) (Ab:d-1<9223372036854775808),fV,i,(Wn w.sA (max (d-1) 0)).Ae]
def dB:AH (.CC 1) [S JF,S tL,S tM,S tN,S wTr]=some (.sl 1 (Kc.map Cv)):=Fh (ws:=Kc) rfl AA
def qj{v:Aa}{ws:List Ah}(hv:IB ws v)(hn:ws.length<=1000000000)(a:Item)(h:Ai):Cy cx 164 [.agg a.row,v] h (.bool (AG ws a)) h:=by rw[Ag,zW,t164];simp only[Cx,Lo,(aAK hv hn _ h).Ae,AG];refine⟨λh1=>by simp[h1],λh1=>by simp[h1]⟩
def é{A:Ar}{x:Int}(hk:(A.nd x).kind=4)(ws:List Ah):AG ws ⟨0,(A.nd x).A9,(A.nd x).name,false⟩=decide (qL ws A x):=by
 by_cases h:qL ws A x;.rw[Ak h];unfold AG;rw[Ak];exact⟨h.2.1,h.2.2⟩
 .rw[Ap h];unfold AG;rw[Ap];exact λh2=>h ⟨hk,h2.1,h2.2⟩
def aAS(w:BX h bi a o c t G b)(ok:Ey b)(rm:CK b m)(x:Int):∃u,Cy cx 103 [Pt bi 0,I x] h (.tuple [I (b.place x).1,I (b.place x).2]) (h++u):=by
 have hl:=rm.Au;by_cases A:x=0/\b.Au=[]
 .refine⟨[],?_⟩;have B:b.place x=(b.BM,0):=by unfold BS.place;rw[Af A]
  rw[B,Bg,Ag,gU,aAf];simp only[abS,(I9 w).Ae,A.1,A.2,C4,(UW w.sA).Ae,Int.natCast_zero,w.l1]
 .obtain⟨t',ht⟩:∃t',t'=if x=0 then(D1 b.Au).node else x:=⟨_,rfl⟩
  obtain⟨X,U,q,R,_,_⟩:=Ws w ok rm t';have w1:=w.Mo (u:=q);have B:b.place x=if(b.a.nd (if b.Ec=true/\qL Kc b.a t' then b.N9 else(t',0)).1).cont≠0 then((b.a.nd (if b.Ec=true/\qL Kc b.a t' then b.N9 else(t',0)).1).cont,0) else if b.Ec=true/\qL Kc b.a t' then b.N9 else(t',0):=by unfold BS.place;rw[Ac A,<-ht]
  obtain⟨pb,ux⟩:∃pb,pb=if b.Ec=true/\qL Kc b.a t' then b.N9 else(t',0):=⟨_,rfl⟩
  rw[<-ux] at B;obtain⟨V,T,N,r2,_,_⟩:=Ws w1 ok rm pb.1;have Q:=aJy w1 ok rm;have v:=qj (ws:=Kc) Dg AA ⟨0,(b.a.nd t').A9,(b.a.nd t').name,false⟩ (h++q);have em:∀s n,AH (.C7 [I 0,I 0,S [],ff] [(1,1),(2,1)]) [I s,.str n]=some (.agg (Item.row ⟨0,s,n,false⟩)):=λ_ _=>rfl;refine⟨q++N,?_⟩;rw[<-A6];have last:∀(y:Int×Int),y=pb->W cx (.call 104 [Pt bi 0,I y.1] λl=> .cells 13 l λd=> .op (.int .neq) [g d 11,I 0] λk=> .A3 k (.ret .ret [.tuple [g d 11,I 0]]) (.ret .ret [.tuple [I y.1,I y.2]])) (λj vs h1=>j=Gs.ret/\vs=[.tuple [I (b.place x).1,I (b.place x).2]]/\h1=h++q++N) (h++q):=by
   rintro _ rfl;rw[B];simp only[Cx,r2.Ae];refine⟨λh1=>?_,λh1=>?_⟩;.rw[Af h1]
   .rw[Ac h1]
  rw[Ag,gU,aAf];have l15:=w1.l15;have mid:W cx (.call 104 [Pt bi 0,I t'] λM=> .cells 13 M λp=> .GK 200009 (.op .MW [Pt bi 0] λL=> .op (.Gr 15) [L] λv16=> .load none v16 λK=> .A3 K (.op (.int .eql) [g p 0,I 4] λJ=> .A3 J (.op (.C7 [I 0,I 0,S [],ff] [(1,1),(2,1)]) [g p 4,g p 5] λH=> .op (.CC 1) [S aWL,S aXi,S aXf,S aXj,S [116,114]] λv20=> .call 164 [H,v20] λE=> .ret .normal [E]) (.ret .normal [ff])) (.ret .normal [ff])) (λx P=>match x with
    | .normal=> .GK 100046 (.A3 (g P 0) (.call 181 [Pt bi 0] λr=> .op (.ext 0) [r] λD=> .op (.ext 1) [r] λC=> .ret .normal [D,C]) (.ret .normal [I t',I 0])) (λx f=>match x with
     | .normal=> .call 104 [Pt bi 0,g f 0] λl=> .cells 13 l λd=> .op (.int .neq) [g d 11,I 0] λk=> .A3 k (.ret .ret [.tuple [g d 11,I 0]]) (.ret .ret [.tuple [g f 0,g f 1]])
     | .exit i=> .fail
     | .ret=> .ret .ret [.tuple [g f 0,g f 1]])
    | .exit i=> .fail
    | .ret=> .ret .ret [.tuple [I t',I 0]])) (λj vs h1=>j=Gs.ret/\vs=[.tuple [I (b.place x).1,I (b.place x).2]]/\h1=h++q++N) h:=by
   rw[R.Ae];by_cases hf:b.Ec=true
   .rw[hf] at l15;by_cases z:(b.a.nd t').kind=4
    .rw[é z] at v;by_cases hw:qL Kc b.a t';.rw[Ak hw] at v;rw[Af ⟨hf,hw⟩] at ux;have:=last b.N9 ux.symm;simp only[abS,l15,z,em,dB,v.Ae,Q.Ae];simpa only[Cx,fX,AK,AW] using this
     .rw[Ap hw] at v;rw[Ac (λh=>hw h.2)] at ux;have:=last (t',0) ux.symm;simp only[abS,l15,z,em,dB,v.Ae];simpa only[Cx,fX,AK,AW] using this
    .rw[Ac (λh=>z h.2.1)] at ux;have:=last (t',0) ux.symm;simp only[abS,l15,z];simpa only[Cx,fX,AK,AW] using this
   .rw[Ac (λh=>hf h.1)] at ux;have:=last (t',0) ux.symm;rw[show b.Ec=false by simpa using hf] at l15;simp only[Cx,l15];simpa only[Cx,fX,AK,AW] using this
  by_cases h0:x=0
  .have hne:b.Au≠[]:=λe=>A ⟨h0,e⟩;have O:¬((b.Au.length:Nat):Int)=0:=by have:=CB.2 hne;omega
   rw[Af h0] at ht;rw[ht] at mid;simp only[abS,(I9 w).Ae];rw[h0] at mid⊢;simp only[abS,Lo,(UW w.sA).Ae,O,(aF3 w rm).Ae] at mid⊢;exact mid
  .rw[Ac h0] at ht;rw[ht] at mid;simp only[abS,(I9 w).Ae,h0,Ir] at mid⊢;exact mid
end
section
def ql{Q:Lj}{h:Ai}{k:Aa->IT}:W cx (.Og k) Q h↔W cx (k (.map (some h.length))) Q (h++[.map (ft 0)]):=Sp
section
variable{v:Aa}{l:List Be}{h:Ai}
def aOk(hv:Bw l v)(hb:l.length<=1000)(sp:Int):∃u,Cy cx 241 [I sp,v] h u (h++[.map (ft 11)])/\Bw (l.map (D2 sp)) u:=by
 have K5:BB 3 (l.map Be.row) v:=hv;have Qa:Ev cx 241 [I sp,v] h λr h'=>h'=h++[.map (ft 11)]/\Bw (l.map (D2 sp)) r:=by
  unfold Ev;rw[de,aFl];rw[ql];simp only[Cx,Nat.reduceLeDiff,↓reduceIte,Cl,FW,tD,aIx,aIy,aIz,aIA,aIB,aIC,aID,aIE,aIF,aIG,aDN,K5.GN];refine Co (λp:Nat×Aa=>[p.2,I (p.1:Int)]) (λp h1=>p.1<=l.length/\Bw ((l.take p.1).map (D2 sp)) p.2/\h1=h++[.map (ft 11)]) (λp=>l.length-p.1) (0,.slnil) rfl ⟨Bp _,.nil,rfl⟩ ?_;rintro⟨n,u⟩ h1 ⟨hn,hu,rfl⟩;simp only at hn hu;rcases Bl n l.length with hlt|IS
  .have i1:(n:Int)<(l.length:Int):=by omega
   have JQ:∀{q:List Aa},q=(D2 sp l[n]).row->∃w,AH (.append 3 40) [u,.sl 3 [q]]=some w/\Bw ((l.take (n+1)).map (D2 sp)) w:=by
    rintro _ rfl;refine⟨_,BB.nO (f:=Be.row) (a:=D2 sp l[n]) (b:=40) hu ?_,?_⟩;.simp[AV];omega
    .rw[Bd hlt,Cg];exact .mk
   have inc:=Dw (Ab:n<9223372036854775807);by_cases e:sp=2
   .subst e;cases c:Ko (Ea l[n].name OE) with
    |some x=>obtain⟨w,d,hw⟩:=JQ (q:=[I x.1,.str x.2,.str l[n].value]) (by simp only[D2,NQ,true_or,BN,c,Be.row]);simp only[Cx,Nat.reduceLeDiff,↓reduceIte,Cl,i1,K5.DN hlt,FW,Be.row,(aIW _).BH rfl rfl,A0,AU,AN,Na,c,Nb,d,inc];exact BC.next (n+1,w) rfl ⟨hlt,hw,rfl⟩ HC
    |none=>obtain⟨w,d,hw⟩:=JQ (q:=[I 0,.str (Ea l[n].name OE),.str l[n].value]) (by simp only[D2,NQ,true_or,BN,c,Be.row]);simp only[Cx,Nat.reduceLeDiff,↓reduceIte,Cl,i1,K5.DN hlt,FW,Be.row,(aIW _).BH rfl rfl,A0,AU,AN,Na,c,Nb,d,inc];exact BC.next (n+1,w) rfl ⟨hlt,hw,rfl⟩ HC
   by_cases g:sp=3
   .subst g;by_cases hd:l[n].name=aIH
    .have c:Ko aDO=none:=by decide
     obtain⟨w,d,hw⟩:=JQ (q:=[I 0,.str aDO,.str l[n].value]) (by simp only[D2,NQ,hd,or_true,BN,DP,c,Be.row,p9,e]);simp only[Cx,Nat.reduceLeDiff,↓reduceIte,Cl,i1,K5.DN hlt,FW,Be.row,hd,(AA:¬(3:Int)=2),A0,A5,AU,AN,Na,c,Nb,d,inc];exact BC.next (n+1,w) rfl ⟨hlt,hw,rfl⟩ HC
    .cases c:Ko l[n].name with
     |some x=>obtain⟨w,d,hw⟩:=JQ (q:=[I x.1,.str x.2,.str l[n].value]) (by simp only[D2,NQ,hd,or_true,BN,DP,c,Be.row,and_false,e]);simp only[Cx,Nat.reduceLeDiff,↓reduceIte,Cl,i1,K5.DN hlt,FW,Be.row,hd,(AA:¬(3:Int)=2),A0,A5,AU,AN,Na,c,Nb,d,inc];exact BC.next (n+1,w) rfl ⟨hlt,hw,rfl⟩ HC
     |none=>obtain⟨w,d,hw⟩:=JQ (q:=[I 0,.str l[n].name,.str l[n].value]) (by simp only[D2,NQ,hd,or_true,BN,DP,c,Be.row,and_false,e]);simp only[Cx,Nat.reduceLeDiff,↓reduceIte,Cl,i1,K5.DN hlt,FW,Be.row,hd,(AA:¬(3:Int)=2),A0,A5,AU,AN,Na,c,Nb,d,inc];exact BC.next (n+1,w) rfl ⟨hlt,hw,rfl⟩ HC
   .obtain⟨w,d,hw⟩:=JQ (q:=[I 0,.str l[n].name,.str l[n].value]) (by simp only[D2,e,g,or_self,DP,Be.row]);cases c:Ko l[n].name with
    |some x=>simp only[Cx,Nat.reduceLeDiff,↓reduceIte,Cl,i1,K5.DN hlt,FW,Be.row,e,g,A0,A5,AU,AN,Na,c,Nb,d,inc];exact BC.next (n+1,w) rfl ⟨hlt,hw,rfl⟩ HC
    |none=>simp only[Cx,Nat.reduceLeDiff,↓reduceIte,Cl,i1,K5.DN hlt,FW,Be.row,e,g,A0,A5,AU,AN,Na,c,Nb,d,inc];exact BC.next (n+1,w) rfl ⟨hlt,hw,rfl⟩ HC
  .have i1:¬(n:Int)<(l.length:Int):=by omega
   rw[Bf IS] at hu;simp only[Cx,Nat.reduceLeDiff,↓reduceIte,Cl,i1,A5,AU,AN];exact⟨_,rfl,hu⟩
 obtain⟨r,h',hr,rfl,hu⟩:=Qa.ret;exact⟨r,hr,hu⟩
end
end
def BT(bi:Nat)(G:Nat->Prop):Nat->Prop:=λi=>i=bi\/G i
section
variable{h h':Ai}{bi a:Nat}{o c t:Aa}{G G' F:Nat->Prop}{b:BS}{x:Int}{m:Nat}
def Fo.aJB(x:Fo h G h' G'):Fo h (Am.BT bi G) h' (Am.BT bi G'):=⟨x.len,λi hi hn=>x.old i hi λhg=>hn (.inr hg),λi hi=>by
 rcases hi with rfl|hi
 .exact .inl (.inl rfl)
 .rcases x.BT i hi with h|h
  .exact .inl (.inr h)
  .exact .inr h⟩
def BX.aJC{A':Ar}(w:BX h bi a o c t G b)(hp:PW h' G' a A')(x:Fo h G h' G'):BX h' bi a o c t G' {b with a:=A'}/\Fo h (BT bi G) h' (BT bi G'):=
 ⟨⟨by rw[x.old bi w.lt w.nb];exact w.hb,w.o,w.t,hp,λhg=>by rcases x.BT bi hg with h|h;exact w.nb h;have:=w.lt;omega⟩,x.aJB⟩
def BX.step{A':Ar}{R:Ai->Prop}(w:BX h bi a o c t G b)(d:∀n m ps,PA h a n m ps b.a->∃h' n' m' PI,R h'/\PA h' a n' m' PI A'/\Fo h (λi=>i∈Gb a n m ps) h' (λi=>i∈Gb a n' m' PI)):
  ∃h' G',R h'/\BX h' bi a o c t G' {b with a:=A'}/\Fo h (BT bi G) h' (BT bi G'):=by
 obtain⟨n,m,ps,g,e⟩:=w.w;obtain⟨h',n',m',PI,r,w',x⟩:=d n m ps g;have k:G=λi=>i∈Gb a n m ps:=funext λi=>propext (e i);obtain⟨j,f⟩:=w.aJC w'.pw (by rw[k];exact x);exact⟨h',_,r,j,f⟩
def BX.EB(w:BX h bi a o c t G b){u:Ai}:Fo h (BT bi G) (h++u) (BT bi G):= .Mo
def aJD{v:Aa}{l:List Int}{f:FuncId}{caps:List Aa}{q:Int->Bool}(hv:IH l v)(hb:l.length<=1000000000)(hf:f<=99999)(hq:∀k∈l,∀u,∃d,Cy cx f (I k::caps) (h++u) (.bool (q k)) (h++u++d)):
  ∃u,Cy cx 235 [v,.func (.func f) [] caps] h (I (Cr q 0 l)) (h++u):=by
 have K5:BB 1 (l.map Dj) v:=hv;have Qa:Ev cx 235 [v,.func (.func f) [] caps] h λr h'=>r= I (Cr q 0 l)/\∃u,h'=h++u:=by
  unfold Ev;rw[cz,aFh];simp only[Cx,K5.GN];refine Co (λk:Nat=>[I 0,I (k:Int)]) (λk h1=>k<=l.length/\Cr q 0 l=Cr q k (l.drop k)/\∃u,h1=h++u) (λk=>l.length-k) 0 rfl ⟨Bp _,rfl,[],AB⟩ ?_;rintro k h1 ⟨hk,ha,u,rfl⟩;rcases Bl k l.length with hlt|IS
  .have i1:(k:Int)<(l.length:Int):=by omega
   have g:Bn (h++u) none (.B9 (Dj l[k]))=some (I l[k]):=rfl;obtain⟨d,e⟩:=hq _ (AF hlt) u;rw[Az hlt,Cr] at ha;simp only[abS,↓reduceIte,CN,i1,K5.DN hlt,g,hf,e.Ae,Dw (Ab:k<9223372036854775807)];rw[DC];refine⟨λh2=>?_,λh2=>?_⟩;.exact⟨_,rfl,by rw[ha,Af h2],u++d,AB⟩
   .rw[Ac (by simp[h2])] at ha;exact BC.next (k+1) rfl ⟨hlt,ha,u++d,AB⟩ Ab
  .have i1:¬(k:Int)<(l.length:Int):=by omega
   rw[AR IS,Cr] at ha;simp only[abS,↓reduceIte,CN,i1];exact⟨_,rfl,by rw[ha],u,rfl⟩
 obtain⟨r,h',hr,rfl,u,rfl⟩:=Qa.ret;exact⟨u,hr⟩
def aAT{l:List Int}{q:Int->Bool}:decide (0<=Cr q 0 l)=l.any q:=by
 rcases He (p:=q) (l:=l) (k:=0) with⟨h1,h2⟩|⟨n,y,h1,h2,h3⟩
 .rw[h1,vf];have:=MC.1 h2;simpa using this
 .rw[h1,vf];have e:=VW h3;have d:=RL h3;rw[Ak Ab,Od];exact⟨y,d,e⟩
def BX.self(w:BX h bi a o c t G b){A':Ar}(e:A'=b.a):BX h bi a o c t G {b with a:=A'}:=by subst e;exact w
open Classical in
def uQ{p bf:Int}(w:BX h bi a o c t G b)(ok:Ey b)(rm:CK b m):∃h' G',Cy cx 106 [Pt bi 0,I x,I p,I bf] h (.tuple []) h'/\BX h' bi a o c t G' {b with a:=b.a.E1 x p bf}/\Fo h (BT bi G) h' (BT bi G'):=by
 obtain⟨K1,V1,d,J,_,_⟩:=Ws w ok rm p;have w1:=w.Mo (u:=d);have X:∀v,Aa.cells (.ptr v)=[.ptr v]:=λ_=>rfl;have Jz:∀h2,(∃u,h2=h++u)->∃h' G',(∃s,Cy cx 66 [Pt a 0,I p,I x,I bf] h2 (I s) h')/\BX h' bi a o c t G' {b with a:=b.a.GC p x bf}/\Fo h (BT bi G) h' (BT bi G'):=by
  rintro _ ⟨u,rfl⟩;have g:=w.Mo (u:=u);obtain⟨h',G',r,w',x'⟩:=g.step (A':=b.a.GC p x bf) (R:=λh'=>∃s,Cy cx 66 [Pt a 0,I p,I x,I bf] (h++u) (I s) h') (λn m ps Q=>by obtain⟨s,h',PI,r,wp,P⟩:=aCr Q rm.Wk ok.ok (p:=p) (x:=x) (b:=bf);exact⟨h',n,m,PI,⟨s,r⟩,wp,P⟩)
  exact⟨h',G',r,w',w.EB.trans x'⟩
 by_cases A:(b.a.nd p).kind=1
 .obtain⟨K2,Z,j,r2,_,_⟩:=Ws w1 ok rm x;have g:=w1.Mo (u:=j);by_cases D:(b.a.nd x).kind=4
  .obtain⟨V,W,ã,M⟩:=g.w.pa;obtain⟨K,O,U⟩:=Þ (x:=p) M rm.Wk (rm.Wk.Bm ok.ok p);obtain⟨H,T⟩:=aJD (h:=h++d++j) (f:=183) (caps:=[.B9 [Pt bi 0]]) (q:=λk=>decide ((b.a.nd k).kind=4)) U (rm.Wk.Bm ok.ok p) AA (λk _ u=>by have E:=g.Mo (u:=u);obtain⟨K3,Y,S,y,_,_⟩:=Ws E ok rm k;refine⟨S,?_⟩;rw[Ag,aq,aEK];simp only[Cx,y.Ae])
   have i:Cy cx 182 [K,.func (.func 183) [] [.B9 [Pt bi 0]]] (h++d++j) (.bool ((b.a.nd p).Bm.any λk=>decide ((b.a.nd k).kind=4))) (h++d++j++H):=by rw[Ag,ao,aEJ,<-aAT];simp only[Cx,T.Ae]
   have E:=g.Mo (u:=H);by_cases L:∃k∈(b.a.nd p).Bm,(b.a.nd k).kind=4
   .have N:((b.a.nd p).Bm.any λk=>decide ((b.a.nd k).kind=4))=true:=by simpa using L
    rw[N] at i;have z:b.a.E1 x p bf=b.a:=by unfold Ar.E1;rw[Af ⟨A,D,L⟩]
    refine⟨_,G,?_,E.self z,(w.EB.trans w1.EB).trans g.EB⟩;rw[Ag,TO,pz];simp only[abS,J.Ae,A,r2.Ae,D,g.l0,O.Ae,i.Ae]
   .have N:((b.a.nd p).Bm.any λk=>decide ((b.a.nd k).kind=4))=false:=by rw[aRQ];intro k hk;simpa using λe=>L ⟨k,hk,e⟩
    rw[N] at i;have z:b.a.E1 x p bf=b.a.GC p x bf:=by unfold Ar.E1;rw[Ac (λh=>L h.2.2)]
    obtain⟨h',G',⟨s,y⟩,C,B⟩:=Jz (h++d++j++H) ⟨d++j++H,AB⟩;refine⟨h',G',?_,by rw[z];exact C,B⟩;rw[Ag,TO,pz];simp only[abS,J.Ae,A,r2.Ae,D,g.l0,O.Ae,i.Ae,E.l0,y.Ae]
  .have z:b.a.E1 x p bf=b.a.GC p x bf:=by unfold Ar.E1;rw[Ac (λh=>D h.2.1)]
   obtain⟨h',G',⟨s,y⟩,C,B⟩:=Jz (h++d++j) ⟨d++j,AB⟩;refine⟨h',G',?_,by rw[z];exact C,B⟩;rw[Ag,TO,pz];simp only[abS,J.Ae,A,r2.Ae,D,g.l0,y.Ae]
 .have z:b.a.E1 x p bf=b.a.GC p x bf:=by unfold Ar.E1;rw[Ac (λh=>A h.1)]
  obtain⟨h',G',⟨s,y⟩,C,B⟩:=Jz (h++d) ⟨d,rfl⟩;refine⟨h',G',?_,by rw[z];exact C,B⟩;rw[Ag,TO,pz];simp only[abS,J.Ae,A,w1.l0,y.Ae]
def aJE(w:BX h bi a o c t G b)(ok:Ey b)(rm:CK b m)(p:Int):∃u,Cy cx 244 [Pt bi 0,I p] h (I (b.KL p)) (h++u):=by
 obtain⟨n,j,d,f,_,_⟩:=Ws w ok rm p;have w1:=w.Mo (u:=d);unfold BS.KL;by_cases hc:(b.a.nd p).cont=0
 .refine⟨d,?_⟩;rw[Ac (by simp[hc]),Ag,iS,aAC];simp only[abS,f.Ae,hc,CY,C4,w1.l1];refine⟨λh1=>?_,λh1=>?_⟩;.rw[Af h1]
  .rw[Ac h1]
 .obtain⟨k,i,e,r2,_,_⟩:=Ws w1 ok rm (b.a.nd p).cont;have g:=w1.Mo (u:=e);refine⟨d++e,?_⟩;rw[Af hc,<-A6,Ag,iS,aAC];simp only[abS,f.Ae,r2.Ae,hc,CY,g.l1];refine⟨λh1=>?_,λh1=>?_⟩;.rw[Af h1]
  .rw[Ac h1]
def jD(nm:Ah)(av:Aa)(r:List Aa):Prop:=∃n k j i g f e d lG xT,r=[n,.str nm,k,j,i,g,f,e,av,d,lG,xT]
def R5:Aa.agg Item.zero.row= .agg [I 0,I 0,S [],ff]:=rfl
variable{nm:Ah}{av:Aa}{l:List Be}{r:List Aa}{sp p:Int}
def CK.len{k:Nat}(rm:CK b k)(hk:3<=k):b.a.len+3<=1000000000:=by have:=rm.n;unfold Ar.len;omega
def aF4(w:BX h bi a o c t G b)(ok:Ey b)(rm:CK b (m+3))(hr:jD nm av r)(hv:Bw l av)(hl:GD l)(hn:nm.length<=1000)(p sp:Int):
  ∃h' G',Cy cx 193 [Pt bi 0,.agg r,I sp,I p] h (.agg (b.HQ nm l sp).row) h'/\BX h' bi a o c t G' (b.Gm nm l sp p)/\Fo h (BT bi G) h' (BT bi G'):=by
 obtain⟨O,N,M,L,K,J,H,E,lG,xT,rfl⟩:=hr;by_cases hs:BS.L6 sp
 .obtain⟨D,s,hu⟩:=aOk (h:=h) hv hl.1 sp;have w1:=w.Mo (u:=[.map (ft 11)]);obtain⟨j,r2⟩:=aJE w1 ok rm p;have g:=w1.Mo (u:=j);have hd:=cS ok (p:=p);have i:∀y∈l.map (D2 sp),BS.L6 y.A9:=by intro y hy;obtain⟨z,_,rfl⟩:=A7.1 hy;exact zu
  obtain⟨h',G',⟨f,_⟩,C,A⟩:=g.step (A':=b.a.elem (b.KL p) sp (BS.MM sp nm) (l.map (D2 sp))) (R:=λh'=>Cy cx 243 [Pt a 0,I (b.KL p),I sp,.str (BS.MM sp nm),D] (h++[.map (ft 11)]++j) (.tuple [I (b.a.len+1),I 0]) h'/\True) (λn m ps B=>by obtain⟨h',n',m',PI,r,wp,v,_⟩:=aJm B rm.Wk (rm.len Ab) hd hs hu (by rw[Aw];have:=hl.1;omega) i (nm:=BS.MM sp nm);exact⟨h',n',m',PI,⟨r,trivial⟩,wp,v⟩)
  have d:=f96 (h:=h') hu (λy hy=>by obtain⟨z,hz,rfl⟩:=A7.1 hy;rw[pv];have:=(hl.2 z hz).2;have:AV=140737488355328:=rfl;omega) (by rw[Aw];have:=hl.1;omega) sp (BS.MM sp nm);have em:AH (.C7 [I 0,I 0,S [],ff] [(0,1),(1,1),(2,1),(3,1)]) [I (b.a.len+1),I sp,.str (BS.MM sp nm),.bool (Rp sp (BS.MM sp nm) (l.map (D2 sp)))]=some (.agg (b.HQ nm l sp).row):=by rw[oq];unfold BS.HQ;rw[Af hs]
  refine⟨h',G',?_,by unfold BS.Gm;rw[Af hs];exact C,(w.EB.trans w1.EB).trans A⟩;have q:¬sp<0:=by have:=hs.1;omega
  have k:¬7<sp:=by have:=hs.2;omega
  have hlen:=λ(y:Item)=>@Item.EL y;rw[Ag,iK,aAu];by_cases h2:sp=2
  .have e:BS.MM sp nm=Ea nm OD:=by unfold BS.MM;rw[Af h2]
   rw[e] at f d em;subst h2;simp only[abS,↓reduceIte,Cl,Lo,(I9 w).Ae,q,k,Ir,s.Ae,KZ,C4,(aNI nm).BH rfl rfl,w1.l0,r2.Ae,g.l0,DI,f.Ae,CY,d.Ae,em,hlen]
  .have e:BS.MM sp nm=nm:=by unfold BS.MM;rw[Ac h2]
   rw[e] at f d em;simp only[abS,↓reduceIte,Cl,Lo,(I9 w).Ae,q,k,Ir,s.Ae,h2,w1.l0,r2.Ae,g.l0,DI,f.Ae,CY,C4,d.Ae,em,hlen]
 .refine⟨h,G,?_,by unfold BS.Gm;rw[Ac hs];exact w,.refl⟩;have e:b.HQ nm l sp=Item.zero:=by unfold BS.HQ;rw[Ac hs]
  rw[e,R5,Ag,iK,aAu];unfold BS.L6 at hs;by_cases h1:sp<0;.simp only[abS,↓reduceIte,Cl,(I9 w).Ae,h1,KZ]
  .simp only[abS,↓reduceIte,Cl,(I9 w).Ae,h1,Ir,(Ab:7<sp),KZ]
def Cz{k:Nat}{v:Aa}:Fo h (BT bi G) (put h bi k v) (BT bi G):=⟨by rw[MK];exact Ad _,λi _ hn=>C5 λe=>hn (.inl e),λ_ h=> .inl h⟩
def BX.put{k:Nat}{v o' c' t':Aa}{b':BS}(w:BX h bi a o c t G b)(e:(SE a b o c t).set k v=SE a b' o' c' t')(ea:b'.a=b.a)(ho:D0 b'.Au o')(ht:IH b'.tm t'):BX (Am.put h bi k v) bi a o' c' t' G b':=
 ⟨by rw[IC w.hb,e];exact AI w.lt,ho,ht,by rw[ea];exact w.w.FM λi hi=>C5 λe=>w.nb (e▸hi),w.nb⟩
def BX.PJ{u:Aa}{l:List Item}(w:BX h bi a o c t G b)(hu:D0 l u):BX (Am.put h bi 2 u) bi a u c t G {b with Au:=l}:=w.put rfl rfl hu w.t
def BX.TW{u:Aa}{l:List Ck}(w:BX h bi a o c t G b):BX (Am.put h bi 3 u) bi a o u t G {b with A4:=l}:=w.put rfl rfl w.o w.t
def BX.st{k:Nat}{v v0:Aa}(w:BX h bi a o c t G b)(hk:(SE a b o c t)[k]?=some v0)(hv:v.cells=[v]):C9 h 1 (Pt bi k) v=some (Am.put h bi k v):=At.store (v:=v0) ⟨_,w.hb,hk⟩ hv
variable{nm:Ah}{av:Aa}{l:List Be}{r:List Aa}{sp p:Int}
def aOl(w:BX h bi a o c t G b)(ok:Ey b)(rm:CK b (m+4))(hr:jD nm av r)(hv:Bw l av)(hl:GD l)(hn:nm.length<=1000)(sp:Int):
  ∃h' o' G',Cy cx 192 [Pt bi 0,.func (.func 193) [Pt bi 0] [],.agg r,I sp] h (I (b.Mw sp)) h'/\BX h' bi a o' c t G' (b.Cu nm l sp)/\Fo h (BT bi G) h' (BT bi G'):=by
 obtain⟨v,q⟩:=aAS w ok rm 0;have w1:=w.Mo (u:=v);obtain⟨h2,A,r2,n,j⟩:=aF4 (m:=m+1) w1 ok (rm.le Ab) hr hv hl hn (b.place 0).1 sp;have HY:=hr;obtain⟨L,K,J,H,E,D,C,B,lG,xT,rfl⟩:=hr;have ho:=rm.Au;by_cases hs:BS.L6 sp
 .have f:=(P5 (nm:=nm) (at_:=l) (p:=(b.place 0).1) ok hs).1;have uR:=Rv (m:=m+1) (nm:=nm) (sp:=sp) (p:=(b.place 0).1) (rm.le Ab) hl;have aCu:(b.HQ nm l sp).node=b.a.len+1:=by unfold BS.HQ;rw[Af hs]
  have xE:¬(b.a.len+1=0):=by unfold Ar.len;omega
  have NH:(b.Gm nm l sp (b.place 0).1).Au=b.Au:=by unfold BS.Gm;rw[Af hs]
  obtain⟨h3,z,y,k,s⟩:=uQ (x:=b.a.len+1) (p:=(b.place 0).1) (bf:=(b.place 0).2) n f uR;obtain⟨v4,d,g⟩:=f95 k.sO (by simp only[NH];omega) (b.HQ nm l sp);refine⟨Am.put h3 bi 2 v4,v4,z,?_,?_,((w.EB.trans j).trans s).trans Cz⟩
  .have i:b.Mw sp=b.a.len+1:=by unfold BS.Mw;rw[Af hs]
   rw[Ag,iJ,aAt,i];simp only[abS,Nat.reduceAdd,↓reduceIte,CN,Lo,q.Ae,(AA:(193:Nat)<=99999),r2.Ae,aCu,xE,CY,y.Ae];have e:=@Item.Wj (b.HQ nm l sp);rw[aCu] at e;rw[<-e] at d;simp only[e] at d⊢;simp only[d.Ae,Cx]
  .have:=k.PJ g;unfold BS.Cu;rw[Af hs];exact this
 .refine⟨h2,o,A,?_,?_,w.EB.trans j⟩
  .have e:b.HQ nm l sp=Item.zero:=by unfold BS.HQ;rw[Ac hs]
   have i:b.Mw sp=0:=by unfold BS.Mw;rw[Ac hs]
   rw[e,R5] at r2;rw[Ag,iJ,aAt,i];simp only[abS,Nat.reduceAdd,↓reduceIte,CN,Lo,q.Ae,(AA:(193:Nat)<=99999),r2.Ae,CY,C4]
  .have:b.Cu nm l sp=b.Gm nm l sp (b.place 0).1:=by unfold BS.Cu BS.Gm;rw[Ac hs,Ac hs]
   rw[this];exact n
def aJG(w:BX h bi a o c t G b)(ok:Ey b)(rm:CK b (m+4))(hr:jD nm av r)(hv:Bw l av)(hl:GD l)(hn:nm.length<=1000)(sp:Int):
  ∃h' o' G',Cy cx 117 [Pt bi 0,.agg r,I sp] h (I (b.Mw sp)) h'/\BX h' bi a o' c t G' (b.Cu nm l sp)/\Fo h (BT bi G) h' (BT bi G'):=by
 obtain⟨h',o',G',d,w',x'⟩:=aOl w ok rm hr hv hl hn sp;refine⟨h',o',G',?_,w',x'⟩;obtain⟨q,n,k,j,i,g,f,e,lG,xT,rfl⟩:=hr;rw[Ag,yY,aEb];simp only[abS,(I9 w).Ae,d.Ae]
def aAU(w:BX h bi a o c t G b)(ok:Ey b)(rm:CK b (m+4))(hr:jD nm av r)(hv:Bw l av)(hl:GD l)(hn:nm.length<=1000):
  ∃h' o' G',Cy cx 70 [Pt bi 0,.agg r] h (I (b.a.len+1)) h'/\BX h' bi a o' c t G' (b.Cu nm l 1)/\Fo h (BT bi G) h' (BT bi G'):=by
 obtain⟨h',o',G',d,w',x'⟩:=aJG w ok rm hr hv hl hn 1;refine⟨h',o',G',?_,w',x'⟩;have e:b.Mw 1=b.a.len+1:=by unfold BS.Mw;rw[Af Kw]
 rw[e] at d;obtain⟨s,q,n,k,j,i,g,f,lG,xT,rfl⟩:=hr;rw[Ag,U_,t70];simp only[Cx,d.Ae]
end
def ED(l:List Ck)(v:Aa):Prop:=∃fs:List DG,fs.map (·.c)=l/\Ff fs v
def VL{U Z:Type}{f:U->Z}{q:Z->Bool}{l:List U}:AD q (l.map f)=AD (λx=>q (f x)) l:=by unfold AD;rw[<-Uj,List.findIdx?_map,Aw];rfl
def uS{U Z:Type}{f:U->Z}{l:List U}{k:Nat}:(Bx l k).map f=Bx (l.map f) k:=by unfold Bx;simp
def aAV{fs:List DG}:since fs=tK (fs.map (·.c)):=by unfold since tK;rw[VL];rfl
def YY{n:Int}{fs:List DG}:Lp n fs=FL n (fs.map (·.c)):=by unfold Lp FL;rw[VL];rfl
def gx{nm:Ah}{fs:List DG}:RY nm fs=DS nm (fs.map (·.c)):=by
 unfold RY DS;rw[<-Uj];generalize fs.reverse=r;induction r with
 |nil=>rfl
 |cons x r ih=>simp only[Bj,yE,Pw,ih,Aw]
def aJH{e:Ck}{fs:List DG}:Z8 e fs=yK e (fs.map (·.c)).reverse:=by
 unfold Z8;rw[<-Uj];generalize fs.reverse=r;induction r with
 |nil=>rfl
 |cons x r ih=>simp only[Bj,Ŷ,yK,ih]
def aJI{e:Ck}{fs:List DG}:Su e fs=n7 e (fs.map (·.c)).reverse:=by
 unfold Su;rw[<-Uj];generalize fs.reverse=r;induction r with
 |nil=>rfl
 |cons x r ih=>simp only[Bj,tH,n7,ih,Aw]
def ê{e:Ck}{d:DG}{fs:List DG}(he:d.c=e):(Sv e fs++[d]).map (·.c)=n8 e (fs.map (·.c)):=by
 unfold Sv n8;rw[aJH,aJI,Cg,aQn,he];split;.rw[uS]
 .rfl
def gy{fs:List DG}:(fs.take (Im fs)).map (·.c)=Fw (fs.map (·.c)):=by unfold Fw Im;rw[HA,aAV]
def aAW{l:List Ck}{fs:List DG}(e:fs.map (·.c)=l)(h:∀x∈l,x.As.length<=1000):∀x∈fs,uq x:=by intro x hx;have:=h x.c (by rw[<-e];exact A7.2 ⟨x,hx,rfl⟩);unfold uq;omega
section
variable{h h':Ai}{bi a:Nat}{o c t:Aa}{G G' F:Nat->Prop}{b:BS}{x:Int}{m:Nat}
variable{nm:Ah}{av:Aa}{l:List Be}{r:List Aa}{sp p:Int}
def aOm(w:BX h bi a o c t G b)(hc:ED b.A4 c)(ok:Ey b)(rm:CK b (m+5))(hr:jD nm av r)(hv:Bw l av)(hl:GD l)(hn:nm.length<=1000):
  ∃h' o' c' G',Cy cx 204 [Pt bi 0,.agg r] h (I (b.a.len+1)) h'/\BX h' bi a o' c' t G' (b.Er nm l)/\ED (b.Er nm l).A4 c'/\Fo h (BT bi G) h' (BT bi G'):=by
 obtain⟨h1,j,k,i,w1,g⟩:=aAU (m:=m+1) w ok (rm.le Ab) hr hv hl hn;obtain⟨fs,d,hf⟩:=hc;have ha:=rm.A4;have Jj:fs.length=b.A4.length:=by rw[<-d,Aw]
 obtain⟨u,n,mV,r2,hu⟩:=f30 (h:=h1) (id:=bi) (o:=3) (l:=fs) ⟨c,w1.qi,hf⟩ Ab (aAW d λx hx=>((rm.Ep x hx).2).1) (e:=⟨⟨b.a.len+1,nm,l⟩,av,hv⟩) (by unfold uq;have:=hl.1;simp only;omega);refine⟨_,j,u,k,?_,w1.TW (u:=u),?_,g.trans Cz⟩
 .obtain⟨C,B,A,z,y,v,s,q,lG,xT,rfl⟩:=hr;have xE:¬(b.a.len+1=0):=by unfold Ar.len;omega
  have f:Cy cx 246 [Pt bi 3,.agg [I (b.a.len+1),.str nm,av]] h1 (.tuple []) (put h1 bi 3 u):=r2;have hav:av.cells=[av]:=BB.cells hv;rw[Ag,bk,aEY];simp only[abS,Nat.reduceLeDiff,↓reduceIte,Cl,i.Ae,xE,CY,hav,f.Ae]
 .refine⟨_,?_,hu⟩;rw[ê mV,d];unfold BS.Er;simp only;rw[HS]
end
def aJJ:∀x:Fin 64,(BitVec.ofInt 8 192|||BitVec.ofInt 8 (x.val:Int)).toNat=192+x.val:=AA
def aJK:∀x:Fin 32,(BitVec.ofInt 8 224|||BitVec.ofInt 8 (x.val:Int)).toNat=224+x.val:=AA
def aJL:∀x:Fin 16,(BitVec.ofInt 8 240|||BitVec.ofInt 8 (x.val:Int)).toNat=240+x.val:=AA
def aJM:∀x:Fin 64,(BitVec.ofInt 8 128|||BitVec.ofInt 8 (x.val:Int)).toNat=128+x.val:=AA
def aJN:∀x:Fin 256,(BitVec.ofInt 8 (x.val:Int)&&& BitVec.ofInt 8 63).toNat=x.val%64:=AA
def g_{a b:Int}:AH (.int .or) [.int .u8 a,.int .u8 b]=some (.int .u8 (IntKind.u8.wrap (BitVec.ofInt 8 a|||BitVec.ofInt 8 b).toNat)):=rfl
def aF5{a b:Int}:AH (.int .and) [.int .u8 a,.int .u8 b]=some (.int .u8 (IntKind.u8.wrap (BitVec.ofInt 8 a&&& BitVec.ofInt 8 b).toNat)):=rfl
def ë{x:Nat}(h:x<64):AH (.int .or) [.int .u8 192,.int .u8 (x:Int)]=some (.int .u8 ((192+x:Nat):Int)):=by rw[g_,aJJ ⟨x,h⟩,IntKind.wrap_u8];congr 2;simp only;omega
def oQ{x:Nat}(h:x<32):AH (.int .or) [.int .u8 224,.int .u8 (x:Int)]=some (.int .u8 ((224+x:Nat):Int)):=by rw[g_,aJK ⟨x,h⟩,IntKind.wrap_u8];congr 2;simp only;omega
def ì{x:Nat}(h:x<16):AH (.int .or) [.int .u8 240,.int .u8 (x:Int)]=some (.int .u8 ((240+x:Nat):Int)):=by rw[g_,aJL ⟨x,h⟩,IntKind.wrap_u8];congr 2;simp only;omega
def L9{x:Nat}(h:x<64):AH (.int .or) [.int .u8 128,.int .u8 (x:Int)]=some (.int .u8 ((128+x:Nat):Int)):=by rw[g_,aJM ⟨x,h⟩,IntKind.wrap_u8];congr 2;simp only;omega
def Ma{x:Nat}(h:x<256):AH (.int .and) [.int .u8 (x:Int),.int .u8 63]=some (.int .u8 ((x%64:Nat):Int)):=by rw[aF5,aJN ⟨x,h⟩,IntKind.wrap_u8];congr 2;simp only;omega
def WZ{n:Nat}:AH (.int .shr) [.int .i32 (n:Int),.int .u64 6]=some (.int .i32 ((n/64:Nat):Int)):=by rw[show AH (.int .shr) [.int .i32 (n:Int),.int .u64 6]=some (.int .i32 ((n:Int).fdiv 64)) from rfl,Q9 _ Ab];rfl
def YZ{n:Nat}:AH (.int .shr) [.int .i32 (n:Int),.int .u64 12]=some (.int .i32 ((n/4096:Nat):Int)):=by rw[show AH (.int .shr) [.int .i32 (n:Int),.int .u64 12]=some (.int .i32 ((n:Int).fdiv 4096)) from rfl,Q9 _ Ab];rfl
def í{n:Nat}:AH (.int .shr) [.int .i32 (n:Int),.int .u64 18]=some (.int .i32 ((n/262144:Nat):Int)):=by rw[show AH (.int .shr) [.int .i32 (n:Int),.int .u64 18]=some (.int .i32 ((n:Int).fdiv 262144)) from rfl,Q9 _ Ab];rfl
def Y0{k:IntKind}{n:Nat}:AH (.conv .u8) [.int k (n:Int)]=some (.int .u8 ((n%256:Nat):Int)):=by rw[WK,IntKind.wrap_u8];congr 2
def jE{n:Int}:AH (.conv .u32) [.int .i32 n]=some (.int .u32 (n%4294967296)):=by rw[WK,IntKind.wrap_u32]
def ļ{n:Nat}(h:n<256):((UInt8.ofNat n).toNat:Int)=(n:Int):=by rw[UInt8.toNat_ofNat'];congr 1;omega
def Ľ(b:UInt8):Aa:= .int .u8 (b.toNat:Int)
def Ly{h:Ai}{bs:Ah}(hb:bs≠[])(hl:bs.length<=8):GZ h 1 1 .slnil (.sl 1 (C8 bs))=some (h++[.cells (bs.map Ľ)],.Dn h.length 0 bs.length 1):=by
 have Jj:∀bs:Ah,(C8 bs).flatten=bs.map Ľ:=by
  intro bs;induction bs with
  |nil=>rfl
  |cons c bs ih=>show[Ľ c]++(C8 bs).flatten=_;rw[ih];rfl
 cases bs with
 |nil=>exact absurd rfl hb
 |cons c bs=>
  have hm:AV=140737488355328:=rfl;have hlen:(C8 (c::bs)).length=(c::bs).length:=by simp[C8]
  have e:C8 (c::bs)=[.int .u8 c.toNat]::C8 bs:=rfl;have a:H0 h 1 (.sl 1 (C8 (c::bs)))=some (C8 (c::bs)):=by simp[H0]
  unfold GZ;rw[a,e];simp only
  rw[<-e,Af (by rw[hlen];omega),Jj,hlen]
def aOo{h:Ai}(r:Int)(hr: -2147483648<=r/\r<=2147483647):Cy cx 118 [.slnil,.int .i32 r] h (.Dn h.length 0 (Nc r).length 1) (h++[.cells ((Nc r).map Ľ)]):=by
 have one:∀{a:Nat} (h1:a<256),AH (.CC 1) [.int .u8 (a:Int)]=some (.sl 1 (C8 [UInt8.ofNat a])):=by intro a h1;simp only[C8,Bj,DM,ļ h1];rfl
 have MR:∀{a b:Nat} (h1:a<256) (h2:b<256),AH (.CC 1) [.int .u8 (a:Int),.int .u8 (b:Int)]=some (.sl 1 (C8 [UInt8.ofNat a,UInt8.ofNat b])):=by intro a b h1 h2;simp only[C8,Bj,DM,ļ h1,ļ h2];rfl
 have bI:∀{a b c:Nat} (h1:a<256) (h2:b<256) (h3:c<256),AH (.CC 1) [.int .u8 (a:Int),.int .u8 (b:Int),.int .u8 (c:Int)]=some (.sl 1 (C8 [UInt8.ofNat a,UInt8.ofNat b,UInt8.ofNat c])):=by intro a b c h1 h2 h3;simp only[C8,Bj,DM,ļ h1,ļ h2,ļ h3];rfl
 have four:∀{a b c d:Nat} (h1:a<256) (h2:b<256) (h3:c<256) (f:d<256),AH (.CC 1) [.int .u8 (a:Int),.int .u8 (b:Int),.int .u8 (c:Int),.int .u8 (d:Int)]=some (.sl 1 (C8 [UInt8.ofNat a,UInt8.ofNat b,UInt8.ofNat c,UInt8.ofNat d])):=by intro a b c d h1 h2 h3 f;simp only[C8,Bj,DM,ļ h1,ļ h2,ļ h3,ļ f];rfl
 have bad:AH (.CC 1) [.int .u8 239,.int .u8 191,.int .u8 189]=some (.sl 1 (C8 [239,191,189])):=rfl;rw[Ag,yZ,aEc];simp only[Cx,jE];by_cases h0:0<=r
 .obtain⟨n,rfl⟩:=Ui h0;have em:(n:Int)%4294967296=(n:Int):=Ab;rw[em];by_cases p:n<128
  .have e:Nc (n:Int)=[UInt8.ofNat n]:=by unfold Nc;rw[Af Ab];rfl
   have i:n%256=n:=Ab;rw[e];simp only[Cx,fX,(Ab:(n:Int)<=127),Y0,i,one (Ab:n<256),Ly (bs:=[UInt8.ofNat n]) AB AB]
  .have aF6:Cy cx 194 [.slnil,.int .i32 (n:Int)] h (.Dn h.length 0 (Nc (n:Int)).length 1) (h++[.cells ((Nc (n:Int)).map Ľ)]):=by
    rw[Ag,iL,aAv];simp only[Cx,jE,em];by_cases o:n<2048
    .have e:Nc (n:Int)=[UInt8.ofNat (192+n/64),UInt8.ofNat (128+n%64)]:=by unfold Nc;rw[Ac Ab,Af Ab];rfl
     rw[e];have a1:n/64%256=n/64:=Ab;have a2:n%256%64=n%64:=Ab;simp only[Cx,fX,(Ab:(n:Int)<=2047),WZ,Y0,a1,ë (Ab:n/64<64),Ma (Ab:n%256<256),a2,L9 (Ab:n%64<64),MR (Ab:192+n/64<256) (Ab:128+n%64<256),Ly (bs:=[UInt8.ofNat (192+n/64),UInt8.ofNat (128+n%64)]) AB AB]
    .by_cases m:n<65536/\¬(55296<=n/\n<57344)
     .have e:Nc (n:Int)=[UInt8.ofNat (224+n/4096),UInt8.ofNat (128+n/64%64),UInt8.ofNat (128+n%64)]:=by unfold Nc;rw[Ac Ab,Ac Ab,Af Ab];rfl
      rw[e];have a1:n/4096%256=n/4096:=Ab;have a2:n/64%256%64=n/64%64:=Ab;have a3:n%256%64=n%64:=Ab;have g:=Ly (h:=h) (bs:=[UInt8.ofNat (224+n/4096),UInt8.ofNat (128+n/64%64),UInt8.ofNat (128+n%64)]) AB AB;have t3:=bI (Ab:224+n/4096<256) (Ab:128+n/64%64<256) (Ab:128+n%64<256);by_cases l:n<55296;.simp only[abS,(Ab:¬(n:Int)<=2047),(Ab:(n:Int)<55296),WZ,YZ,Y0,a1,oQ (Ab:n/4096<32),Ma (Ab:n/64%256<256),a2,L9 (Ab:n/64%64<64),Ma (Ab:n%256<256),a3,L9 (Ab:n%64<64),t3,g]
      .simp only[abS,(Ab:¬(n:Int)<=2047),(Ab:¬(n:Int)<55296),(Ab:(57343:Int)<n),(Ab:(n:Int)<=65535),WZ,YZ,Y0,a1,oQ (Ab:n/4096<32),Ma (Ab:n/64%256<256),a2,L9 (Ab:n/64%64<64),Ma (Ab:n%256<256),a3,L9 (Ab:n%64<64),t3,g]
     .by_cases k:65536<=n/\n<=1114111
      .have e:Nc (n:Int)=[UInt8.ofNat (240+n/262144),UInt8.ofNat (128+n/4096%64),UInt8.ofNat (128+n/64%64),UInt8.ofNat (128+n%64)]:=by unfold Nc;rw[Ac Ab,Ac Ab,Ac Ab,Af Ab];rfl
       rw[e];have a0:n/262144%256=n/262144:=Ab;have a1:n/4096%256%64=n/4096%64:=Ab;have a2:n/64%256%64=n/64%64:=Ab;have a3:n%256%64=n%64:=Ab;have g:=Ly (h:=h) (bs:=[UInt8.ofNat (240+n/262144),UInt8.ofNat (128+n/4096%64),UInt8.ofNat (128+n/64%64),UInt8.ofNat (128+n%64)]) AB AB;have t4:=four (Ab:240+n/262144<256) (Ab:128+n/4096%64<256) (Ab:128+n/64%64<256) (Ab:128+n%64<256);simp only[abS,(Ab:¬(n:Int)<=2047),(Ab:¬(n:Int)<55296),(Ab:(57343:Int)<n),(Ab:¬(n:Int)<=65535),(Ab:(65535:Int)<n),(Ab:(n:Int)<=1114111),WZ,YZ,í,Y0,a0,ì (Ab:n/262144<16),Ma (Ab:n/4096%256<256),a1,L9 (Ab:n/4096%64<64),Ma (Ab:n/64%256<256),a2,L9 (Ab:n/64%64<64),Ma (Ab:n%256<256),a3,L9 (Ab:n%64<64),t4,g]
      .have e:Nc (n:Int)=[239,191,189]:=by unfold Nc;rw[Ac Ab,Ac Ab,Ac Ab,Ac Ab]
       rw[e];have g:=Ly (h:=h) (bs:=[239,191,189]) AB AB;by_cases j:n<65536;.simp only[abS,(Ab:¬(n:Int)<=2047),(Ab:¬(n:Int)<55296),(Ab:¬(57343:Int)<n),(Ab:¬(65535:Int)<n),bad,g]
       .simp only[abS,(Ab:¬(n:Int)<=2047),(Ab:¬(n:Int)<55296),(Ab:(57343:Int)<n),(Ab:¬(n:Int)<=65535),(Ab:(65535:Int)<n),(Ab:¬(n:Int)<=1114111),bad,g]
   simp only[abS,(Ab:¬(n:Int)<=127),aF6.Ae]
 .have e:Nc r=[239,191,189]:=by unfold Nc;rw[Ac Ab,Ac Ab,Ac Ab,Ac Ab]
  have g:=Ly (h:=h) (bs:=[239,191,189]) AB AB;have aF6:Cy cx 194 [.slnil,.int .i32 r] h (.Dn h.length 0 (Nc r).length 1) (h++[.cells ((Nc r).map Ľ)]):=by rw[e,Ag,iL,aAv];simp only[abS,jE,(Ab:¬(r%4294967296)<=2047),(Ab:¬(r%4294967296)<55296),(Ab:(57343:Int)<r%4294967296),(Ab:¬(r%4294967296)<=65535),(Ab:(65535:Int)<r%4294967296),(Ab:¬(r%4294967296)<=1114111),bad,g]
  simp only[abS,(Ab:¬(r%4294967296)<=127),aF6.Ae]
def oR(r:Int):(Nc r).length<=4:=by unfold Nc;split<;>(try split)<;>(try split)<;>(try split)<;>simp
def î{l:List Int}{bf:Int}(hb:bf≠0->bf∈l):∃i,i<=l.length/\(bf=0->i=l.length)/\(bf≠0->Cr (λy=>decide (bf=y)) 0 l=(i:Int))/\UM l bf=if i=0 then none else l[i-1]?:=by
 by_cases h0:bf=0
 .refine⟨l.length,Ad _,λ_=>rfl,λh=>absurd h0 h,?_⟩;unfold UM;rw[Af h0,RM];split;.rename_i h;rw[En Ab]
  .rfl
 .obtain⟨k,j,e,g,d,f⟩:=jC (hb h0);refine⟨k,Ab,λh=>absurd h h0,λ_=>e,?_⟩;unfold UM;rw[Ac h0,d,RM,Ay,BO Ab];split;.rename_i h;subst h;simp
  .rw[CA];rw[Af Ab]
def h_{s u:Ah}(h:s.length+u.length<=2000000000):AH (.str .add) [.str s,.str u]=some (.str (s++u)):=by have:s.length+u.length<=9223372036854775807:=Ab;simp[AH,lO,this]
def dC:∀s:Ah,(C8 s).flatten=s.map Ľ
 |[]=>rfl
 |c::s=>by show[Ľ c]++(C8 s).flatten=_;rw[dC s];rfl
section
variable{h h':Ai}{bi a:Nat}{o c t:Aa}{G G' F:Nat->Prop}{b:BS}{x:Int}{m:Nat}
variable{nm:Ah}{av:Aa}{l:List Be}{r:List Aa}{sp p:Int}
def ic{k d:Int}{s:Ah}(ok:Ey b)(rm:CK b (m+1))(hk:k=5\/k=6)(hd:b.a.has d/\(b.a.nd d).kind=1)(hs:s.length<=100000):Ey {b with a:=b.a.add {kind:=k,BM:=d,data:=s}}/\CK {b with a:=b.a.add {kind:=k,BM:=d,data:=s}} m:=
 ⟨ok.IP (TJ ok.ok (by unfold Ar.len;omega) hd hk) Px,rm.GL (k:=1) (L7 (Bp _) hs)⟩
def aOp(w:BX h bi a o c t G b)(ok:Ey b)(rm:CK b (m+5))(r:Int)(hr: -2147483648<=r/\r<=2147483647):
  ∃h' G',Cy cx 72 [Pt bi 0,.int .i32 r] h (.tuple []) h'/\BX h' bi a o c t G' (b.Kx r)/\Fo h (BT bi G) h' (BT bi G'):=by
 obtain⟨f,D⟩:=aAS w ok rm 0;obtain⟨hp,hbf⟩:=TK ok (t:=0) (.inl rfl);have w1:=w.Mo (u:=f);unfold BS.Kx;generalize(b.place 0).1=p at*;generalize(b.place 0).2=bf at*;obtain⟨K,V,d,r2,X,_⟩:=Ws w1 ok rm p;have Z:=w1.Mo (u:=d);have x2:Fo h (BT bi G) (h++f++d) (BT bi G):=w.EB.trans w1.EB;unfold BS.QK;by_cases hk:(b.a.nd p).kind=4\/(b.a.nd p).kind=2;rotate_left
 .refine⟨_,G,?_,?_,x2⟩;.have k4:¬(b.a.nd p).kind=4:=λe=>hk (.inl e);have k2:¬(b.a.nd p).kind=2:=λe=>hk (.inr e);rw[Ag,YL,t72];simp only[abS,(I9 w).Ae,D.Ae,r2.Ae,CY,k4,k2]
  .rw[Ac hk];exact Z
 rw[Af hk];obtain⟨i,hi,H,sC,hpv⟩:=î (l:=(b.a.nd p).Bm) (bf:=bf) (λh=>by have:=hbf h;have h2:=(ok.ok.GR bf this.1 (by rw[this.2];have:=hp.1;omega)).2;rwa [this.2] at h2);rw[hpv];have XF:=rm.Wk.Bm ok.ok p;have J:=aFY (h:=h++f++d) (x:=bf) X.oO XF;have g:=aOo (h:=h++f++d) r hr;have ue:=oR r;generalize hs:Nc r=s at*;have f3:LW (h++f++d++[.cells (s.map Ľ)]) (.Dn (h++f++d).length 0 s.length 1)=some (h++f++d++[.Ef],.sl 1 (C8 s)):=by have Jj:=dC s;have:=OB (h:=h++f++d++[.cells (s.map Ľ)]) (id:=(h++f++d).length) (z:=1) (Ax:=C8 s) (by intro q hq;obtain⟨y,_,rfl⟩:=A7.1 hq;rfl) (by rw[Jj];simp);rw[show(C8 s).length=s.length by simp[C8]] at this;rw[this];congr 2;rw[Cc _ _ (Ad _),E9];rfl
 have b3:AH .ZM [.sl 1 (C8 s)]=some (.str s):=by simp[AH,eE,Yr]
 have A:=Z.Mo (u:=[.Ef]);have x3:Fo h (BT bi G) (h++f++d++[.Ef]) (BT bi G):=x2.trans Z.EB;have oS:=ok.ok.BM p hp;have new:∀h3,(∃u,h3=h++f++d++[.Ef]++u)->∃h' L G',Cy cx 120 [Pt a 0,I (b.a.nd p).BM,.str s] h3 (.tuple [I (b.a.len+1),I 0]) L/\Cy cx 106 [Pt bi 0,I (b.a.len+1),I p,I bf] L (.tuple []) h'/\BX h' bi a o c t G' {b with a:=(b.a.add {kind:=5,BM:=(b.a.nd p).BM,data:=s}).E1 (b.a.len+1) p bf}/\Fo h (BT bi G) h' (BT bi G'):=by
  rintro _ ⟨u,rfl⟩;have w4:=A.Mo (u:=u);obtain⟨L,G4,⟨C,_⟩,w5,x5⟩:=w4.step (A':=b.a.add (Ni 5 (b.a.nd p).BM s).x) (R:=λh'=>Cy cx 120 [Pt a 0,I (b.a.nd p).BM,.str s] (h++f++d++[.Ef]++u) (.tuple [I (b.a.len+1),I 0]) h'/\True) (λn m ps S=>by obtain⟨h',r,wp,o1,l1⟩:=aN6 (s:=s) S rm.Wk (by have:=rm.n;unfold Ar.len;omega) oS;exact⟨h',_,_,_,⟨r,trivial⟩,wp,S.Ry rfl o1 l1⟩)
  obtain⟨ok5,rm5⟩:=ic (m:=m) (k:=5) (s:=s) ok (rm.le Ab) (.inl rfl) oS Ab;obtain⟨h',G',B,O,M⟩:=uQ (x:=b.a.len+1) (p:=p) (bf:=bf) w5 ok5 rm5;exact⟨h',L,G',C,B,O,(x3.trans A.EB).trans (x5.trans M)⟩
 have kl:=(X.oO (h:=h++f++d)).len;have RG:i<=1000000000:=Ab;by_cases hz:i=0
 .subst hz;obtain⟨h',L,G',C,B,O,M⟩:=new (h++f++d++[.Ef]) ⟨[],AB⟩;simp only[↓reduceIte];refine⟨h',G',?_,O,M⟩;rw[Ag,YL,t72];rcases hk with hk|hk<;>by_cases h0:bf=0
  all_goals first|(rw[<-H h0] at kl;simp only[abS,(I9 w).Ae,D.Ae,r2.Ae,hk,CY,C4,(AA:¬(2:Int)=4),kl,BG h0,g.Ae,f3,b3,(AA:¬(0:Int)<((0:Nat):Int)),A.l0,C.Ae,C4,B.Ae];done)|(rw[sC h0] at J;simp only[abS,(I9 w).Ae,D.Ae,r2.Ae,hk,CY,C4,(AA:¬(2:Int)=4),kl,h0,g.Ae,f3,b3,(AA:¬(0:Int)<((0:Nat):Int)),A.l0,C.Ae,C4,B.Ae,J.Ae])
 .obtain⟨j,rfl⟩:∃j,i=j+1:=⟨i-1,Ab⟩;have hj:j<(b.a.nd p).Bm.length:=Ab;rw[Ac hz,MD,Av hj];simp only
  have ht:=ok.ok.N7 p hp _ (AF hj);obtain⟨q,Q,Y⟩:=(X.oO (h:=h++f++d++[.Ef])).at_ j hj;obtain⟨K7,V7,T,W,_,_⟩:=Ws A ok rm (b.a.nd p).Bm[j];have N:=A.Mo (u:=T);obtain⟨q',lJ,P⟩:=(X.oO (h:=h++f++d++[.Ef]++T)).at_ j hj;rw[Q,BL] at lJ;subst lJ;have U:AH (.int .sub) [I ((j+1:Nat):Int),I 1]=some (I (j:Int)):=by have:=N8 (n:=j+1) Ab Ab;simpa using this
  generalize hte:(b.a.nd p).Bm[j]=v at*;by_cases E:(b.a.nd v).kind=5
  .rw[Af E];have uj:=rm.data v;obtain⟨h8,G8,⟨r8,_⟩,w8,x8⟩:=N.step (A':=b.a.Rr v ((b.a.nd v).data++s)) (R:=λh'=>Cy cx 119 [Pt a 0,I v,.str ((b.a.nd v).data++s)] (h++f++d++[.Ef]++T) (I 0) h'/\True) (λn m ps S=>by obtain⟨h',PI,r,wp,xp⟩:=aN7 (s:=(b.a.nd v).data++s) S rm.Wk ht.1 E;exact⟨h',n,m,PI,⟨r,trivial⟩,wp,xp⟩)
   refine⟨h8,G8,?_,w8,(x3.trans A.EB).trans x8⟩;rw[Ag,YL,t72];rcases hk with hk|hk<;>by_cases h0:bf=0
   all_goals first|(rw[<-H h0] at kl;simp only[abS,(I9 w).Ae,D.Ae,r2.Ae,hk,CY,C4,(AA:¬(2:Int)=4),kl,BG h0,g.Ae,f3,b3,(Ab:(0:Int)<((j+1:Nat):Int)),U,Q,Y,W.Ae,E,N.l0,P,h_ (Ab:(b.a.nd v).data.length+s.length<=2000000000),C4,r8.Ae];done)|(rw[sC h0] at J;simp only[abS,(I9 w).Ae,D.Ae,r2.Ae,hk,CY,C4,(AA:¬(2:Int)=4),kl,h0,g.Ae,f3,b3,(Ab:(0:Int)<((j+1:Nat):Int)),U,Q,Y,W.Ae,E,N.l0,P,h_ (Ab:(b.a.nd v).data.length+s.length<=2000000000),C4,r8.Ae,J.Ae])
  .rw[Ac E];obtain⟨h',L,G',C,B,O,M⟩:=new _ ⟨T,rfl⟩;refine⟨h',G',?_,O,M⟩;rw[Ag,YL,t72];rcases hk with hk|hk<;>by_cases h0:bf=0
   all_goals first|(rw[<-H h0] at kl;simp only[abS,(I9 w).Ae,D.Ae,r2.Ae,hk,CY,C4,(AA:¬(2:Int)=4),kl,BG h0,g.Ae,f3,b3,(Ab:(0:Int)<((j+1:Nat):Int)),U,Q,Y,W.Ae,E,N.l0,C.Ae,C4,B.Ae];done)|(rw[sC h0] at J;simp only[abS,(I9 w).Ae,D.Ae,r2.Ae,hk,CY,C4,(AA:¬(2:Int)=4),kl,h0,g.Ae,f3,b3,(Ab:(0:Int)<((j+1:Nat):Int)),U,Q,Y,W.Ae,E,N.l0,C.Ae,C4,B.Ae,J.Ae])
def Y1{s:Ah}{p bf x:Int}{h0 h1:Ai}(hstart:(¬x=0/\p=x/\bf=0/\h1=h0)\/(x=0/\Cy cx 103 [Pt bi 0,I 0] h0 (.tuple [I p,I bf]) h1))
  (w0:BX h0 bi a o c t G b) (i:Fo h0 (BT bi G) h1 (BT bi G)) (w:BX h1 bi a o c t G b) (ok:Ey b) (rm:CK b (m+1)) (hs:s.length<=100000):
  ∃h' G',Cy cx 62 [Pt bi 0,.str s,I x] h0 (.tuple []) h'/\BX h' bi a o c t G' {b with a:=BS.HR b.a s p bf}/\Fo h0 (BT bi G) h' (BT bi G'):=by
 obtain⟨K,V,q,r2,L,_⟩:=Ws w ok rm p;have d:=w.Mo (u:=q);unfold BS.HR;by_cases hk:NR (b.a.nd p).kind
 .rw[Af hk];have hp:b.a.has p:=by
   by_cases hp:b.a.has p;.exact hp
   .rw[OH hp] at hk;unfold NR at hk;simp at hk
  have oS:=ok.ok.BM p hp;obtain⟨M,N,⟨y,_⟩,H,D⟩:=d.step (A':=b.a.add (Ni 6 (b.a.nd p).BM s).x) (R:=λh'=>Cy cx 105 [Pt a 0,I (b.a.nd p).BM,.str s] (h1++q) (.tuple [I (b.a.len+1),I 0]) h'/\True) (λn m ps j=>by obtain⟨h',r,wp,J,l1⟩:=aJc (s:=s) j rm.Wk (by have:=rm.n;unfold Ar.len;omega) oS;exact⟨h',_,_,_,⟨r,trivial⟩,wp,j.Ry rfl J l1⟩)
  obtain⟨g,e⟩:=ic (m:=m) (k:=6) (s:=s) ok rm (.inr rfl) oS hs;obtain⟨h',G',v,E,C⟩:=uQ (x:=b.a.len+1) (p:=p) (bf:=bf) H g e;refine⟨h',G',?_,E,(i.trans w.EB).trans (D.trans C)⟩;rw[Ag,uC,t62];rcases hstart with⟨hx,rfl,rfl,rfl⟩|⟨hx,f⟩
  .rcases hk with hk|hk|hk<;>simp only[abS,(I9 w0).Ae,r2.Ae,hk,CY,C4,(AA:¬(2:Int)=1),(AA:¬(4:Int)=1),(AA:¬(4:Int)=2),d.l0,y.Ae,v.Ae,hx]
  .rcases hk with hk|hk|hk<;>simp only[abS,(I9 w0).Ae,r2.Ae,hk,CY,C4,(AA:¬(2:Int)=1),(AA:¬(4:Int)=1),(AA:¬(4:Int)=2),d.l0,y.Ae,v.Ae,BG hx,f.Ae]
 .rw[Ac hk];refine⟨_,G,?_,d,i.trans w.EB⟩;unfold NR at hk;have B:¬(b.a.nd p).kind=1:=Ab;have A:¬(b.a.nd p).kind=2:=Ab;have z:¬(b.a.nd p).kind=4:=Ab;rw[Ag,uC,t62];rcases hstart with⟨hx,rfl,rfl,rfl⟩|⟨hx,f⟩
  .simp only[abS,(I9 w0).Ae,r2.Ae,CY,B,A,z,hx]
  .simp only[abS,(I9 w0).Ae,r2.Ae,CY,B,A,z,BG hx,f.Ae]
def aOr(w:BX h bi a o c t G b)(ok:Ey b)(rm:CK b (m+1))(s:Ah)(hs:s.length<=100000)(x:Int):
  ∃h' G',Cy cx 62 [Pt bi 0,.str s,I x] h (.tuple []) h'/\BX h' bi a o c t G' (b.DB s x)/\Fo h (BT bi G) h' (BT bi G'):=by
 unfold BS.DB;by_cases h0:x=0;.rw[Af h0];obtain⟨d,e⟩:=aAS w ok rm 0;exact Y1 (p:=(b.place 0).1) (bf:=(b.place 0).2) (.inr ⟨h0,e⟩) w w.EB (w.Mo (u:=d)) ok rm hs
 .rw[Ac h0];exact Y1 (p:=x) (bf:=0) (.inl ⟨h0,rfl,rfl,rfl⟩) w .refl w ok rm hs
def aOs(w:BX h bi a o c t G b)(ok:Ey b)(rm:CK b (m+4))(hr:jD nm av r)(hv:Bw l av)(hl:GD l)(hn:nm.length<=1000)(st:Int):
  ∃h' o' G',Cy cx 74 [Pt bi 0,.agg r,I st] h (.tuple []) h'/\BX h' bi a o' c t G' (b.Df nm l st)/\Fo h (BT bi G) h' (BT bi G'):=by
 obtain⟨h1,d,e,u,w1,i⟩:=aAU w ok rm hr hv hl hn;have s:=w1.st (k:=18) (v:= I st) rfl rfl;have g:BX (put h1 bi 18 (I st)) bi a d c t e {b.Cu nm l 1 with sw:=st}:=w1.put rfl rfl w1.o w1.t;have q:=g.st (k:=5) (v:= I (b.Cu nm l 1).mode) rfl rfl;have f:BX (put (put h1 bi 18 (I st)) bi 5 (I (b.Cu nm l 1).mode)) bi a d c t e {b.Cu nm l 1 with sw:=st,IE:=(b.Cu nm l 1).mode}:=g.put rfl rfl w1.o w1.t;have n:=f.st (k:=4) (v:=I 8) rfl rfl;have j:BX (put (put (put h1 bi 18 (I st)) bi 5 (I (b.Cu nm l 1).mode)) bi 4 (I 8)) bi a d c t e (b.Df nm l st):=f.put rfl rfl w1.o w1.t;refine⟨_,d,e,?_,j,((i.trans Cz).trans Cz).trans Cz⟩;obtain⟨H,E,D,C,B,A,z,y,lG,xT,rfl⟩:=hr;rw[Ag,X_,t74];simp only[Cx,(I9 w).Ae,u.Ae,w1.l4,s,q,n]
def aOt(w:BX h bi a o c t G b)(rm:CK b m):
  ∃h' o',Cy cx 202 [Pt bi 0] h (.tuple []) h'/\BX h' bi a o' c t G b.B4/\Fo h (BT bi G) h' (BT bi G):=by
 have ho:=rm.Au;have d:=aIZ w.sA (Ab:b.Au.length<=1000000000) 3 (v:= .sl 1 ([wP].map Cv)) (ws:=[wP]) Dg AA;have em:AH (.CC 1) [S [112]]=some (.sl 1 ([wP].map Cv)):=Fh (ws:=[wP]) rfl AA;unfold BS.B4;by_cases hs:Il (AG [wP]) (H7 3) b.Au.reverse=true;.rw[Af hs];rw[hs] at d;obtain⟨g,r2,eX⟩:=aFV w.sO Ab wP;have w1:=w.PJ eX;have EU:=gF (b:=CJ wP) (a:=Dh) (l:=b.Au);obtain⟨e,f,Tt⟩:=f66 w1.sO HC (w:= .sl 1 ([wP].map Cv)) (ws:=[wP]) Dg AA;refine⟨_,e,?_,w1.PJ Tt,Cz.trans Cz⟩;rw[Ag,iM,aAw];simp only[Cx,(I9 w).Ae,em,d.Ae,r2.Ae,f.Ae]
 .rw[Ac hs];rw[show Il (AG [wP]) (H7 3) b.Au.reverse=false by simpa using hs] at d;refine⟨h,o,?_,w,.refl⟩;rw[Ag,iM,aAw];simp only[Cx,(I9 w).Ae,em,d.Ae]
end
section
variable{h h':Ai}{bi a:Nat}{o c t:Aa}{G G' F:Nat->Prop}{b:BS}{x:Int}{m:Nat}
variable{nm:Ah}{av:Aa}{l:List Be}{r:List Aa}{sp p:Int}
def TX{U:Type}{l:List U}{n:Nat}(hn:n<l.length):(l.take (n+1)).reverse=l[n]::(l.take n).reverse:=by rw[Bd hn,EO];rfl
def aJO(w:BX h bi a o c t G b)(rm:CK b m)(nm:Ah):
  ∃h' o',Cy cx 86 [Pt bi 0,.str nm] h (.tuple []) h'/\BX h' bi a o' c t G (b.CV nm)/\Fo h (BT bi G) h' (BT bi G):=by
 have ho:=rm.Au;have Qa:Ev cx 86 [Pt bi 0,.str nm] h λr h'=>r= .tuple []/\∃o',BX h' bi a o' c t G (b.CV nm)/\Fo h (BT bi G) h' (BT bi G):=by
  unfold Ev;rw[Å,t86];simp only[abS,(I9 w).Ae,(UW w.sA).Ae,Ek (Ab: -9223372036854775808<=(b.Au.length:Int)-1) (Ab:(b.Au.length:Int)-1<9223372036854775808)];refine Co (λn:Nat=>[I ((n:Int)-1)]) (λn h1=>n<=b.Au.length/\(b.Au.reverse.find? λi=>AG [nm] i||AO i)=((b.Au.take n).reverse.find? λi=>AG [nm] i||AO i)/\h1=h) (λn=>n) b.Au.length rfl ⟨Ad _,by rw[Bk],rfl⟩ ?_;rintro n h1 ⟨hn,ha,rfl⟩;cases n with
  |zero=>
   have e:b.CV nm=b:=by unfold BS.CV;rw[ha];rfl
   simp only[abS,(Ab:¬(0:Int)<=((0:Nat):Int)-1)];exact⟨_,rfl,rfl,o,by rw[e];exact w,.refl⟩
  |succ n=>
   have hlt:n<b.Au.length:=Ab;have i1:((n+1:Nat):Int)-1=(n:Int):=Ab;have g:=Wn w.sA (n:Int);rw[Iw hlt] at g;have em:AH (.CC 1) [.str nm]=some (.sl 1 ([nm].map Cv)):=Fh (ws:=[nm]) rfl AB;have r2:=qj (ws:=[nm]) Dg AB b.Au[n] h1;rw[TX hlt,If] at ha;generalize hi:b.Au[n]=i at*;rw[Item.row] at r2;simp only[abS,Lo,i1,(Ab:(0:Int)<=(n:Int)),g.Ae,em];have f:Cy cx 164 [.agg i.row,.sl 1 ([nm].map Cv)] h1 (.bool (AG [nm] i)) h1:=r2;rw[f.Ae,Oy,DC];refine⟨λh2=>?_,λh2=>?_⟩
   .obtain⟨s,q,eX⟩:=aFV w.sO Ab nm;have w1:=w.PJ eX;have EU:=gF (b:=CJ nm) (a:=Dh) (l:=b.Au);obtain⟨j,k,Tt⟩:=aI3 w1.sO HC i.node;simp only[Cx,q.Ae,k.Ae];refine⟨_,rfl,rfl,j,?_,Cz.trans Cz⟩;have e:b.CV nm={b with Au:=Hg i.node (D5 (CJ nm) Dh b.Au)}:=by unfold BS.CV;rw[ha];simp only[h2,Qf,BN]
    rw[e];exact w1.PJ Tt
   .simp only[h2,J4] at ha;simp only[(aAJ i.A9 i.name).BH rfl rfl];rw[Oy,DC];refine⟨λh3=>?_,λh3=>?_⟩
    .have d:AO i=true:=h3;rw[d] at ha;have e:b.CV nm=b:=by unfold BS.CV;rw[ha];simp only[h2,Cb,DP]
     simp only[Cx];exact⟨_,rfl,rfl,o,by rw[e];exact w,.refl⟩
    .have d:AO i=false:=h3;rw[d] at ha;simp only[Cx,Ek (Ab: -9223372036854775808<=(n:Int)-1) (Ab:(n:Int)-1<9223372036854775808)];exact BC.next n rfl ⟨Ab,ha,rfl⟩ Ab
 obtain⟨r,h',hr,rfl,o',w',x'⟩:=Qa.ret;exact⟨h',o',hr,w',x'⟩
def aJP(w:BX h bi a o c t G b)(rm:CK b m){k:Nat}(hk:k<=b.Au.length):Cy cx 224 [Pt bi 0,I (k:Int)] h (I (BS.Rs (b.Au.take k))) h:=by
 have ho:=rm.Au;rw[Ag,cw,aFf];simp only[Cx,Ek (Ab: -9223372036854775808<=(k:Int)-1) (Ab:(k:Int)-1<9223372036854775808)];refine Co (λn:Nat=>[I 0,I ((n:Int)-1)]) (λn h1=>n<=k/\((b.Au.take k).reverse.find? λi=>AG [AT] i||AG [JF] i)=((b.Au.take n).reverse.find? λi=>AG [AT] i||AG [JF] i)/\h1=h) (λn=>n) k rfl ⟨Ad _,rfl,rfl⟩ ?_;rintro n h1 ⟨hn,ha,rfl⟩;cases n with
 |zero=>simp only[abS,(Ab:¬(0:Int)<=((0:Nat):Int)-1)];unfold BS.Rs;rw[ha];rfl
 |succ n=>
  have hlt:n<b.Au.length:=Ab;have i1:((n+1:Nat):Int)-1=(n:Int):=Ab;have f:=Wn w.sA (n:Int);rw[Iw hlt] at f;have e:AH (.CC 1) [S AT]=some (.sl 1 ([AT].map Cv)):=Fh (ws:=[AT]) rfl AA;have d:AH (.CC 1) [S JF]=some (.sl 1 ([JF].map Cv)):=Fh (ws:=[JF]) rfl AA;have r2:=qj (ws:=[AT]) Dg AA b.Au[n] h1;have g:=qj (ws:=[JF]) Dg AA b.Au[n] h1;rw[TX hlt,If] at ha;simp only[abS,i1,(Ab:(0:Int)<=(n:Int)),f.Ae,e,r2.Ae,d,g.Ae,Ek (Ab: -9223372036854775808<=(n:Int)-1) (Ab:(n:Int)-1<9223372036854775808)];rw[DC];refine⟨λh2=>?_,λh2=>?_⟩;.simp only[h2,Qf] at ha;unfold BS.Rs;rw[ha];simp only[h2,BN]
  .simp only[h2,J4] at ha;rw[DC];refine⟨λh3=>?_,λh3=>?_⟩;.rw[h3] at ha;unfold BS.Rs;rw[ha];simp only[h2,Cb,DP]
   .rw[h3] at ha;exact BC.next n rfl ⟨Ab,ha,rfl⟩ Ab
def uT(r:Ah×Int):List Aa:=[.str r.1,I r.2]
def jF{z:Nat}{Ax:List (List Aa)}{args:List Aa}(e:args=Ax.map Aa.agg)(hz:∀r∈Ax,r.length=z)(hl:Ax.length*z<=16777216):AH (.CC z) args=some (.sl z Ax):=by
 subst e;have f:(Ax.map Aa.agg).all (λa=>a.cells.length==z)=true:=by simp[Aa.cells];exact hz
 have d:(Ax.map Aa.agg).map (·.cells)=Ax:=by rw[List.map_map];exact List.map_id _
 rw[xX,f,d];simp[hl]
def ï{args:List Aa}(e:args=(Ip.map uT).map Aa.agg):AH (.CC 2) args=some (.sl 2 (Ip.map uT)):=jF e (λr hr=>by obtain⟨x,_,rfl⟩:=A7.1 hr;rfl) AA
def aJQ:Cy cx 223 [] h (.sl 2 (Ip.map uT)) h:=by rw[Ag,cu,aFe];simp only[abS,Nat.reduceLeDiff,↓reduceIte,Cl];exact(B3 (λz=>cD z λv=>[v]=[Aa.sl 2 (Ip.map uT)]) (ï rfl)).mpr (by rw[M9])
def dD{s:Ah}{i:Item}:AG [s] i=decide (i.A9=1/\i.name=s):=by unfold AG;simp
def qm{i:Item}{k:Nat}:b.Hu i k=match Ip.find? λr=>AG [r.1] i with
  |some r=>some r.2
  |none=>if AG [KN] i then some (BS.Rs (b.Au.take k)) else if AG [ur,uv] i&&decide (0<k) then some 15 else if AG [AT] i then some (b.tm.getLast?.getD 7) else if AG [IL] i&&decide (0<k) then some 4 else if AG [IF] i then some (if b.head=0 then 3 else 6) else if k=0 then some 7 else none:=by
 unfold BS.Hu;by_cases hs:i.A9=1
 .rw[Af hs];have e:(λr:Ah×Int=>AG [r.1] i)=λr=>decide (r.1=i.name):=by funext r;rw[dD,EF];exact⟨λh=>h.2.symm,λh=>⟨hs,h.symm⟩⟩
  rw[e];cases hf:Ip.find? λr=>decide (r.1=i.name) with
  |some r=>rfl
  |none=>simp only[AG,hs,OX,AE,Ej,Ml,Bb,Ct]
 .rw[Ac hs];have e:(λr:Ah×Int=>AG [r.1] i)=λ_=>false:=by funext r;rw[dD,Ap (λh=>hs h.1)]
  rw[e];have d:Ip.find? (λ_=>false)=none:=AA;rw[d];simp only[AG,hs,wF,Ir,Cb,DP,ZF]
def aJR(w:BX h bi a o c t G b)(rm:CK b m)(i:Item){k:Nat}(hk:k<=b.Au.length):Cy cx 173 [Pt bi 0,.agg i.row,I (k:Int)] h (.tuple [I ((b.Hu i k).getD 7),.bool (b.Hu i k).isSome]) h:=by
 have ho:=rm.Au;have R:=rm.tm;have xB:BB 2 (Ip.map uT) (.sl 2 (Ip.map uT)):= .mk;have C:=λws hw=>qj (ws:=ws) Dg hw i h;rw[qm,Ag,aj,aEG];have hlen:Ip.length=9:=rfl;have Q:=xB.GN;rw[hlen] at Q;simp only[Cx,↓reduceIte,Lo,aJQ.Ae,Q];refine Co (λn:Nat=>[I 0,ff,I (n:Int)]) (λn h1=>n<=9/\(Ip.find? λr=>AG [r.1] i)=((Ip.drop n).find? λr=>AG [r.1] i)/\h1=h) (λn=>9 -n) 0 rfl ⟨Bp _,rfl,rfl⟩ ?_;rintro n h1 ⟨hn,ha,rfl⟩;rcases Bl n 9 with hlt|IS
 .have qd:n<Ip.length:=hlt;have em:AH (.CC 1) [.str Ip[n].1]=some (.sl 1 ([Ip[n].1].map Cv)):=Fh (ws:=[Ip[n].1]) rfl AB;rw[Az qd,If] at ha;simp only[Cx,Nat.reduceLeDiff,↓reduceIte,fX,(Ab:(n:Int)<((9:Nat):Int)),xB.DN qd,uT,em,(C [Ip[n].1] AB).Ae,Dw (Ab:n<9223372036854775807)];rw[DC];refine⟨λh2=>?_,λh2=>?_⟩;.rw[h2] at ha;rw[ha];simp
  .rw[h2] at ha;exact BC.next (n+1) rfl ⟨hlt,ha,rfl⟩ Ab
 .have T:n=9:=by omega
  subst T;have ha:(Ip.find? λr=>AG [r.1] i)=none:=ha;rw[ha];have q:AH (.CC 1) [S aW6]=some (.sl 1 ([KN].map Cv)):=Fh (ws:=[KN]) rfl AA;have s:AH (.CC 1) [S [116,100],S [116,104]]=some (.sl 1 ([ur,uv].map Cv)):=Fh (ws:=[ur,uv]) rfl AA;have u:AH (.CC 1) [S aWw]=some (.sl 1 ([AT].map Cv)):=Fh (ws:=[AT]) rfl AA;have J:AH (.CC 1) [S aWy]=some (.sl 1 ([IL].map Cv)):=Fh (ws:=[IL]) rfl AA;have L:AH (.CC 1) [S aWu]=some (.sl 1 ([IF].map Cv)):=Fh (ws:=[IF]) rfl AA;have f:=C [KN] AA;have d:=C [ur,uv] AA;have g:=C [AT] AA;have y:=C [IL] AA;have B:=C [IF] AA;have rs:=aJP w rm hk;have lt:=(IH.oO (h:=h1) w.t);have j:¬((9:Nat):Int)<((9:Nat):Int):=AA;have l6:=w.l6;have H:b.tm≠[]->∃p,AH (.int .sub) [I (b.tm.length:Int),I 1]=some (I ((b.tm.length-1:Nat):Int))/\AH (.GY 1) [t,I ((b.tm.length-1:Nat):Int)]=some p/\Bn h1 none p=some (I (b.tm.getLast?.getD 7)):=by intro hne;have hpos:=CB.2 hne;obtain⟨p,E,D⟩:=lt.at_ (b.tm.length-1) Ab;refine⟨p,N8 hpos Ab,E,?_⟩;rw[D,RM,Av Ab];rfl
  by_cases g1:AG [KN] i=true;.rw[g1] at f;simp only[abS,↓reduceIte,j,q,f.Ae,rs.Ae,g1,Fq,aQk]
  .have g1:AG [KN] i=false:=by simpa using g1
   rw[g1] at f;by_cases A:0<k
   .have N:¬k=0:=by omega
    have z:¬(k:Int)=0:=Ab;have v:(0:Int)<(k:Int):=Ab;cases g2:AG [ur,uv] i<;>rw[g2] at d;rotate_left;.simp only[Cx,↓reduceIte,j,q,f.Ae,s,d.Ae,A,v,g1,Wi]
    cases g3:AG [AT] i<;>rw[g3] at g;rotate_left
    .by_cases ht:b.tm=[];.simp only[Cx,↓reduceIte,j,q,f.Ae,s,d.Ae,u,g.Ae,A,v,g1,Wi,l6,lt.len,ht,Int.natCast_zero,aBw,aRT]
     .obtain⟨p,E,D,M⟩:=H ht;have JN:¬b.tm.length=0:=λe=>ht (Fs.1 e);simp only[Cx,↓reduceIte,j,q,f.Ae,s,d.Ae,u,g.Ae,A,v,g1,Wi,l6,lt.len,(Ab:(0:Int)<(b.tm.length:Int)),E,D,M]
    cases P:AG [IL] i<;>rw[P] at y;rotate_left;.simp only[Cx,↓reduceIte,j,q,f.Ae,s,d.Ae,u,g.Ae,J,y.Ae,A,v,g1,Wi]
    all_goals cases O:AG [IF] i<;>rw[O] at B
    all_goals first
     |simp only[Cx,↓reduceIte,j,q,f.Ae,s,d.Ae,u,g.Ae,J,y.Ae,L,B.Ae,A,N,z,v,g1,Wi];done
     |by_cases K:b.head=0
      .simp only[Cx,↓reduceIte,j,q,f.Ae,s,d.Ae,u,g.Ae,J,y.Ae,L,B.Ae,A,z,v,g1,Wi,w.l7,K]
      .simp only[Cx,↓reduceIte,j,q,f.Ae,s,d.Ae,u,g.Ae,J,y.Ae,L,B.Ae,A,z,v,g1,Wi,w.l7,K]
   .have N:k=0:=by omega
    subst N;have v:¬(0:Int)<((0:Nat):Int):=AA;have z:((0:Nat):Int)=0:=rfl;by_cases g3:AG [AT] i=true
    .rw[g3] at g;cases g2:AG [ur,uv] i<;>rw[g2] at d<;>by_cases ht:b.tm=[];all_goals first
      |simp only[Cx,↓reduceIte,j,q,f.Ae,s,d.Ae,u,g.Ae,z,g1,g3,Wi,l6,lt.len,ht,aBw,aRT,DH];done
      |obtain⟨p,E,D,M⟩:=H ht
       have JN:¬b.tm.length=0:=λe=>ht (Fs.1 e);simp only[Cx,↓reduceIte,j,q,f.Ae,s,d.Ae,u,g.Ae,z,g1,g3,Wi,l6,lt.len,(Ab:(0:Int)<(b.tm.length:Int)),E,D,M,DH]
    .have g3:AG [AT] i=false:=by simpa using g3
     rw[g3] at g;cases g2:AG [ur,uv] i<;>rw[g2] at d<;>cases P:AG [IL] i<;>rw[P] at y<;>cases O:AG [IF] i<;>rw[O] at B<;>by_cases K:b.head=0;all_goals simp only[Cx,↓reduceIte,j,q,f.Ae,s,d.Ae,u,g.Ae,J,y.Ae,L,B.Ae,z,g1,g3,Wi,w.l7,K,DH]
end
section
variable{h h':Ai}{bi a:Nat}{o c t:Aa}{G G' F:Nat->Prop}{b:BS}{x:Int}{m:Nat}
variable{nm:Ah}{av:Aa}{l:List Be}{r:List Aa}{sp p:Int}
def BX.aOv(w:BX h bi a o c t G b):Bn h (some 4) (Pt bi 10)=some (.agg b.ctx.row):=by simp only[Bn,w.hb];rfl
def BX.aJS(w:BX h bi a o c t G b)(v:Int):BX (Am.put h bi 4 (I v)) bi a o c t G {b with mode:=v}:=w.put rfl rfl w.o w.t
def CK.mode{v:Int}(rm:CK b m):CK {b with mode:=v} m:=⟨rm.n,rm.at_,rm.data,rm.Au,rm.A4,rm.tm,rm.Ep,rm.tT⟩
def aF7(w:BX h bi a o c t G b)(rm:CK b m):
  ∃h',Cy cx 92 [Pt bi 0] h (.tuple []) h'/\BX h' bi a o c t G b.JD/\Fo h (BT bi G) h' (BT bi G):=by
 have ho:=rm.Au;have Qa:Ev cx 92 [Pt bi 0] h λr h'=>r= .tuple []/\BX h' bi a o c t G b.JD/\Fo h (BT bi G) h' (BT bi G):=by
  unfold Ev;have w1:=w.aJS 7;rw[Ê,t92];simp only[abS,(I9 w).Ae,w.st (k:=4) (v:=I 7) rfl rfl,(UW w1.sA).Ae,Ek (Ab: -9223372036854775808<=(b.Au.length:Int)-1) (Ab:(b.Au.length:Int)-1<9223372036854775808)];refine Co (λn:Nat=>[I ((n:Int)-1)]) (λn h1=>n<=b.Au.length/\b.H8 b.Au.length=b.H8 n/\h1=Am.put h bi 4 (I 7)) (λn=>n) b.Au.length rfl ⟨Ad _,rfl,rfl⟩ ?_;rintro n h1 ⟨hn,ha,rfl⟩;cases n with
  |zero=>
   have e:b.JD={b with mode:=7}:=by unfold BS.JD;rw[ha];rfl
   simp only[abS,(Ab:¬(0:Int)<=((0:Nat):Int)-1)];exact⟨_,rfl,rfl,by rw[e];exact w1,Cz⟩
  |succ n=>
   have hlt:n<b.Au.length:=Ab;have i1:((n+1:Nat):Int)-1=(n:Int):=Ab;have g:=Wn w1.sA (n:Int);rw[show El ({b with mode:=7}:BS).Au (n:Int)=b.Au[n] from Iw hlt] at g;have r2:∀i:Item,Cy cx 173 [Pt bi 0,.agg i.row,I (n:Int)] (Am.put h bi 4 (I 7)) (.tuple [I ((b.Hu i n).getD 7),.bool (b.Hu i n).isSome]) (Am.put h bi 4 (I 7)):=λi=>aJR w1 rm.mode i (k:=n) HC;have d:=r2 (b.D6 n);have JM:∀v,C9 (Am.put h bi 4 (I 7)) 1 (Pt bi 4) (I v)=some (Am.put (Am.put h bi 4 (I 7)) bi 4 (I v)):=λv=>w1.st (k:=4) rfl rfl;have e:b.H8 (n+1)=match b.Hu (b.D6 n) n with|some m=>m|none=>b.H8 n:=rfl
   rw[e] at ha;have lK:=w1.l9;have hlc:=w1.aOv;have X3:=Ek (Ab: -9223372036854775808<=(n:Int)-1) (Ab:(n:Int)-1<9223372036854775808);cases hm:b.Hu (b.D6 n) n with
   |none=>
    rw[hm] at d ha;by_cases h0:n=0
    .have mw:((n:Int)=0)=True:=BG Ab;cases hf:b.K8 with
     |true=>
      have f:b.D6 n=b.ctx:=by unfold BS.D6;rw[Af ⟨h0,hf⟩]
      rw[f] at d;rw[show({b with mode:=7}:BS).K8=true from hf] at lK;simp only[Cx,Lo,i1,g.Ae,lK,hlc,d.Ae,JM,Wi,(Ab:(0:Int)<=(n:Int)),mw,X3];exact BC.next n rfl ⟨Ab,ha,rfl⟩ Ab
     |false=>
      have f:b.D6 n=b.Au[n]:=by unfold BS.D6;rw[Ac (by simp[hf]),AJ,Av hlt];rfl
      rw[f] at d;rw[show({b with mode:=7}:BS).K8=false from hf] at lK;simp only[Cx,Lo,i1,g.Ae,lK,hlc,d.Ae,JM,Wi,(Ab:(0:Int)<=(n:Int)),mw,X3];exact BC.next n rfl ⟨Ab,ha,rfl⟩ Ab
    .have f:b.D6 n=b.Au[n]:=by unfold BS.D6;rw[Ac (by simp[h0]),AJ,Av hlt];rfl
     rw[f] at d;have mw:¬(n:Int)=0:=Ab;simp only[Cx,Lo,i1,g.Ae,d.Ae,JM,Wi,(Ab:(0:Int)<=(n:Int)),mw,X3];exact BC.next n rfl ⟨Ab,ha,rfl⟩ Ab
   |some v=>
    rw[hm] at d ha;have e:b.JD={b with mode:=v}:=by unfold BS.JD;rw[ha]
    have j:BX (Am.put (Am.put h bi 4 (I 7)) bi 4 (I v)) bi a o c t G b.JD:=by rw[e];exact w1.aJS v
    by_cases h0:n=0
    .have mw:((n:Int)=0)=True:=BG Ab;cases hf:b.K8 with
     |true=>
      have f:b.D6 n=b.ctx:=by unfold BS.D6;rw[Af ⟨h0,hf⟩]
      rw[f] at d;rw[show({b with mode:=7}:BS).K8=true from hf] at lK;simp only[Cx,Lo,i1,g.Ae,lK,hlc,d.Ae,JM,Wi,(Ab:(0:Int)<=(n:Int)),mw];exact⟨_,rfl,rfl,j,Cz.trans Cz⟩
     |false=>
      have f:b.D6 n=b.Au[n]:=by unfold BS.D6;rw[Ac (by simp[hf]),AJ,Av hlt];rfl
      rw[f] at d;rw[show({b with mode:=7}:BS).K8=false from hf] at lK;simp only[Cx,Lo,i1,g.Ae,lK,hlc,d.Ae,JM,Wi,(Ab:(0:Int)<=(n:Int)),mw];exact⟨_,rfl,rfl,j,Cz.trans Cz⟩
    .have f:b.D6 n=b.Au[n]:=by unfold BS.D6;rw[Ac (by simp[h0]),AJ,Av hlt];rfl
     rw[f] at d;have mw:¬(n:Int)=0:=Ab;simp only[Cx,Lo,i1,g.Ae,d.Ae,JM,Wi,(Ab:(0:Int)<=(n:Int)),mw];exact⟨_,rfl,rfl,j,Cz.trans Cz⟩
 obtain⟨r,h',hr,rfl,w',x'⟩:=Qa.ret;exact⟨h',hr,w',x'⟩
def qn{h0 u:Ai}{V:Aa}{L:List Be}{N:Nat}(n:N=h0.length)(i:LS (h0++u) V L)(j:Up N V)(hb:L.length<=1000000000)(y:Be):
  ∃f d,GZ (h0++u) 3 40 V (.sl 3 [y.row])=some (h0++f,d)/\LS (h0++f) d (L++[y])/\Up N d:=by
 subst n;have g:AV=140737488355328:=rfl;rcases i with⟨rfl,rfl⟩|⟨id,rfl,hc,hl⟩
 .refine⟨u++[.cells (([y]:List Be).map Be.row).flatten],.Dn (h0++u).length 0 1 3,by rw[<-A6];rfl,.inr ⟨(h0++u).length,rfl,AB,AB⟩,λid k e=>by injection e with e;rw[<-e,Ao];omega⟩
 .have Jk:h0.length<=id:=j id _ rfl;have hg:=Sq (b:=40) (Ax:=L.map Be.row) (r2:=[y.row]) (v:= .sl 3 [y.row]) (aFX L) AA hc .mk AB (by rw[Aw];simp;omega);rw[Aw] at hg;have e:(h0++u).set id .Ef++[.cells (L.map Be.row++[y.row]).flatten]=h0++(u.set (id-h0.length) .Ef++[.cells ((L++[y]).map Be.row).flatten]):=by rw[Cc _ _ Jk,A6,Cg];rfl
  rw[e] at hg;have sB:(h0++(u.set (id-h0.length) GJ.Ef++[.cells ((L++[y]).map Be.row).flatten]))=(h0++u.set (id-h0.length) GJ.Ef)++[.cells ((L++[y]).map Be.row).flatten]:=by rw[A6]
  have um:(h0++u.set (id-h0.length) GJ.Ef).length=(h0++u).length:=AB;refine⟨_,_,hg,.inr ⟨(h0++u).length,AB,?_,?_⟩,λid k e=>by injection e with e;rw[<-e,Ao];omega⟩;.rw[sB,<-um,Bu (Ad _),E9];rfl
  .rw[sB];simp only[Ao,Ch,AK,AW];omega
def aJT(y c:Be)(h:Ai):Cy cx 248 [.agg c.row,.B9 y.row] h (.bool (decide (FT ⟨0,y.name,y.value⟩=FT c))) h:=by
 rw[Ag,di,aFp,Be.row,Be.row];simp only[Cx];refine⟨λh1=>?_,λh1=>?_⟩;.congr 2;rw[EF];simp[FT,h1];exact vf
 .rw[Ap (λe=>h1 (by simp[FT] at e;exact e.1.symm))]
def Be.qo{y:Be}:(⟨0,y.name,y.value⟩:Be).row=[I 0,.str y.name,.str y.value]:=rfl
def UX(k:Int×Ah):∀{l out:List Be},(GB out l).any (λz=>decide (k=FT z))=(out++l).any λz=>decide (k=FT z)
 |[],out=>by simp[GB]
 |y::l,out=>by
  rw[GB];split
  .rename_i h;rw[UX k,List.any_append,List.any_append,SV];by_cases hk:k=FT y;.subst hk;rw[h];rfl
   .simp[hk]
  .rw[UX k,A6];rfl
def ð(k:Int×Ah)(l:List Be):(Dt l).any (λz=>decide (k=FT z))=l.any λz=>decide (k=FT z):=UX k
def UY{l:List Be}{y:Be}:Dt (l++[y])=if(Dt l).any (λz=>decide (FT y=FT z)) then Dt l else Dt l++[y]:=YW
def aOw(w:BX h bi a o c t G b)(ok:Ey b)(rm:CK b (m+1000))(hr:jD nm av r)(hv:Bw l av)(hl:GD l)(x:Int):
  ∃h' G',Cy cx 209 [Pt bi 0,.agg r,I x] h (.tuple []) h'/\BX h' bi a o c t G' (b.FD l x)/\Fo h (BT bi G) h' (BT bi G'):=by
 obtain⟨K1,V1,d,B,_,_⟩:=Ws w ok rm x;have w1:=w.Mo (u:=d);obtain⟨X,W,U,T,S,Q,P,O,lG,xT,rfl⟩:=hr;have v:Fo h (BT bi G) (h++d) (BT bi G):=w.EB;by_cases hk:(b.a.nd x).kind=4;rotate_left;.refine⟨h++d,G,?_,by unfold BS.FD;rw[Ac hk];exact w1,v⟩;rw[Ag,iN,aAx];simp only[abS,↓reduceIte,(I9 w).Ae,B.Ae,CY,hk]
 obtain⟨K2,Y,A,r2,_,f,g⟩:=Ws w1 ok rm x;have w2:=w1.Mo (u:=A);have x2:Fo h (BT bi G) (h++d++A) (BT bi G):=v.trans w1.EB;have hx:b.a.has x:=by
  by_cases hp:b.a.has x;.exact hp
  .rw[OH hp] at hk;simp at hk
 have WE:=rm.at_ x;have xA:=hl.1;have Qa:Ev cx 209 [Pt bi 0,.agg [X,.str nm,W,U,T,S,Q,P,av,O,lG,xT],I x] h λr h'=>r= .tuple []/\∃G',BX h' bi a o c t G' (b.FD l x)/\Fo h (BT bi G) h' (BT bi G'):=by
  unfold Ev;rw[iN,aAx];have hvl:=BB.GN hv;simp only[abS,↓reduceIte,(I9 w).Ae,B.Ae,r2.Ae,CY,hk,hvl];refine Co (λs:Aa×Nat=>[s.1,I (s.2:Int)]) (λs h1=>∃u L,h1=h++d++u/\s.2<=l.length/\LS h1 s.1 L/\Up (h++d).length s.1/\Dt L=Dt ((b.a.nd x).As++BS.plain (l.take s.2))/\(∀y∈L,BS.L6 y.A9)/\L.length<=(b.a.nd x).As.length+s.2) (λs=>l.length-s.2) (Y,0) rfl ⟨A,(b.a.nd x).As,rfl,Bp _,f,g,?_,?_,AB⟩ ?_;.simp[BS.plain]
  .exact λy hy=>(ok.ok.TH x hx).zn y hy
  rintro⟨V,n⟩ h1 ⟨u,L,rfl,hn,f,g,j,hs,EU⟩;simp only at hn f g j EU;rcases Bl n l.length with hlt|IS
  .have D:=BB.DN (k:= .i64) hv hlt;rw[Be.row] at D;have i:=aCm f.in_ Ab (F:= .func (.func 248) [] [.B9 l[n].row]) (q:=λc=>decide (FT ⟨0,l[n].name,l[n].value⟩=FT c)) ⟨_,_,rfl,AA,λc=>aJT l[n] c _⟩;rw[Be.row] at i;obtain⟨M,Z,g1,g2,g3⟩:=qn (N:=(h++d).length) rfl f g Ab ⟨0,l[n].name,l[n].value⟩;rw[Be.qo] at g1;have em:AH (.CC 3) [.agg [I 0,.str l[n].name,.str l[n].value]]=some (.sl 3 [[I 0,.str l[n].name,.str l[n].value]]):=rfl;have E:Dt ((b.a.nd x).As++BS.plain (l.take (n+1)))=Dt (L++[⟨0,l[n].name,l[n].value⟩]):=by rw[Bd hlt,BS.plain,Cg,<-A6,aQn,UY,UY,j];rfl
   have C:Dt (L++[⟨0,l[n].name,l[n].value⟩])=if L.any (λz=>decide (FT ⟨0,l[n].name,l[n].value⟩=FT z)) then Dt L else Dt L++[⟨0,l[n].name,l[n].value⟩]:=by rw[UY,ð]
   simp only[abS,Nat.reduceLeDiff,↓reduceIte,Cl,(Ab:(n:Int)<(l.length:Int)),D,i.Ae,em,g1,Dw (Ab:n<9223372036854775807)];rw[DC];refine⟨λh2=>?_,λh2=>?_⟩
   .refine BC.next (Z,n+1) rfl ⟨M,_,rfl,hlt,g2,g3,E.symm,?_,Et⟩ HC;intro y hy;rcases An.1 hy with hy|hy
    .exact hs y hy
    .simp at hy;subst hy;exact⟨HC,HC⟩
   .have h2:(L.any λz=>decide (FT ⟨0,l[n].name,l[n].value⟩=FT z))=true:=by simpa using h2
    rw[Af h2] at C;exact BC.next (V,n+1) rfl ⟨u,L,rfl,hlt,f,g,by rw[E,C],hs,HC⟩ HC
  .have RG:n=l.length:=by omega
   subst RG;rw[Bk] at j;simp only[abS,↓reduceIte,(Ab:¬(l.length:Int)<(l.length:Int)),(w1.Mo (u:=u)).l0];obtain⟨h3,G3,i,K,H⟩:=(w1.Mo (u:=u)).step (A':=b.a.Nd x L) (R:=λh3=>Cy cx 249 [Pt a 0,I x,V] (h++d++u) (I 0) h3) λn m ps J=>by obtain⟨h',PI,f1,f2,f3⟩:=aJe J rm.Wk hx hk f.in_ Ab hs;exact⟨h',n,m,PI,f1,f2,f3⟩
   have e:b.FD l x={b with a:=b.a.Nd x L}:=by unfold BS.FD;rw[Af hk];unfold Ar.Nd;rw[j]
   simp only[Cx,i.Ae];refine⟨_,rfl,rfl,G3,?_,?_⟩;.rw[e];exact K
   .exact(v.trans w1.EB).trans H
 obtain⟨r,h',hr,rfl,G',w',x'⟩:=Qa.ret;exact⟨h',G',hr,w',x'⟩
end
section
variable{h h':Ai}{bi a:Nat}{o c t:Aa}{G G' F:Nat->Prop}{b b':BS}{x:Int}{m:Nat}
variable{nm:Ah}{av:Aa}{l:List Be}{r:List Aa}{sp p:Int}
def CK.sub(rm:CK b m)(ha:b'.a=b.a)(ho:b'.Au.Sublist b.Au)(hc:b'.A4.Sublist b.A4)(ht:b'.tm.length<=b.tm.length):CK b' m:=
 ⟨by rw[ha];exact rm.n,by rw[ha];exact rm.at_,by rw[ha];exact rm.data,by have:=rm.Au;have:=ho.length_le;omega,by have:=rm.A4;have:=hc.length_le;omega,by have:=rm.tm;omega,λe he=>rm.Ep e (hc.subset he),λi hi=>rm.tT i (ho.subset hi)⟩
def aF8{v:Aa}{l:List Int}(hv:IH l v)(hb:l.length<=1000000000)(h:Ai):∃u,Cy cx 78 [v] h u h/\IH l u:=by
 have K5:BB 1 (l.map Dj) v:=hv;have hm:AV=140737488355328:=rfl;obtain⟨u,e,hu⟩:=BB.Z6 (l:=([]:List Int)) (f:=Dj) (v:= .sl 1 []) (b:=8) .mk K5 Et;rcases K5 with rfl|⟨rfl,h0⟩
 .refine⟨u,?_,hu⟩;rw[Ag,uE,t78];simp only[Cx,show AH (.Gf false .sl) [.sl 1 (l.map Dj),.slnil]=some (.bool false) from rfl,show AH (.CC 1) []=some (.sl 1 []) from rfl,e]
 .refine⟨.slnil,?_,.inr ⟨rfl,h0⟩⟩;rw[Ag,uE,t78];simp only[Cx,show AH (.Gf false .sl) [.slnil,.slnil]=some (.bool true) from rfl]
def BX.aF9{u:Aa}{l:List Int}(w:BX h bi a o c t G b)(hu:IH l u):BX (Am.put h bi 6 u) bi a o c u G {b with tm:=l}:=w.put rfl rfl w.o hu
def ñ:AH (.CC 1) [S aWw]=some (.sl 1 ([AT].map Cv)):=Fh (ws:=[AT]) rfl AA
def aOx(w:BX h bi a o c t G b)(hc:ED b.A4 c)(rm:CK b m):
  ∃h' o' c' t',Cy cx 79 [Pt bi 0] h (.tuple []) h'/\BX h' bi a o' c' t' G b.Di/\ED b.Di.A4 c'/\Fo h (BT bi G) h' (BT bi G):=by
 have ho:=rm.Au;have oB:=rm.A4;have P:=rm.tm;have A:=aAL w.sA Ab AT;by_cases Kz:AD (AG [AT]) b.Au<0;.refine⟨h,o,c,t,?_,by unfold BS.Di;rw[Af Kz];exact w,by unfold BS.Di;rw[Af Kz];exact hc,.refl⟩;rw[Ag,gR,t79];simp only[abS,(I9 w).Ae,A.Ae,Kz]
 obtain⟨y,r2,eX⟩:=aNT w.sO Ab;have w1:=w.PJ eX;have l1:(D5 EC Dh b.Au).length<=b.Au.length:=gF;obtain⟨f,J,Tt⟩:=f66 w1.sO HC (Dg (ws:=[AT])) AA;have E:=w1.PJ Tt;obtain⟨fs,ME,hcs⟩:=hc;have Jj:fs.length=b.A4.length:=by rw[<-ME,Aw]
 obtain⟨d,H,C⟩:=f65 (show UK _ bi 3 fs from⟨c,E.qi,hcs⟩) Ab;have j:=E.TW (u:=d) (l:=Fw b.A4);have bZ:ED (Fw b.A4) d:=⟨_,by rw[gy,ME],C⟩;have lt:=BB.GN w.t;have l6:=j.l6;have e:b.Di=BS.JD {b with Au:=D5 Dh (AG [AT]) (D5 EC Dh b.Au),A4:=Fw b.A4,tm:=b.tm.dropLast}:=by unfold BS.Di;rw[Ac Kz]
 have sO:(D5 Dh (AG [AT]) (D5 EC Dh b.Au)).Sublist b.Au:=(Dd (p:=Dh) (q:=AG [AT]) (l:=D5 EC Dh b.Au)).trans Dd;have D:Fo h (BT bi G) (put (put (put h bi 2 y) bi 2 f) bi 3 d) (BT bi G):=(Cz.trans Cz).trans Cz;by_cases h0:b.tm=[]
 .have v:BX (put (put (put h bi 2 y) bi 2 f) bi 3 d) bi a f d t G {b with Au:=D5 Dh (AG [AT]) (D5 EC Dh b.Au),A4:=Fw b.A4,tm:=b.tm.dropLast}:=by
   have:b.tm.dropLast=b.tm:=by rw[h0];rfl
   rw[this];exact j
  obtain⟨R,z,s,L⟩:=aF7 v (rm.sub (b':={b with Au:=D5 Dh (AG [AT]) (D5 EC Dh b.Au),A4:=Fw b.A4,tm:=b.tm.dropLast}) rfl sO (Cf _ _) AB);refine⟨R,f,d,t,?_,by rw[e];exact s,by rw[e];exact bZ,D.trans L⟩;have B:AH (.len false) [t]=some (I 0):=by rw[lt,h0];rfl
  rw[Ag,gR,t79];simp only[abS,(I9 w).Ae,A.Ae,Kz,r2.Ae,ñ,J.Ae,H.Ae,l6,B,z.Ae,Wi]
 .have hpos:=CB.2 h0;obtain⟨T,S,i⟩:=BB.TB w.t (k:= .i64) (n:=b.tm.length-1) Ab;rw[<-Ww] at i;obtain⟨N,z,g⟩:=aF8 i Et (put (put (put h bi 2 y) bi 2 f) bi 3 d);have s:=j.aF9 g;obtain⟨Q,O,M,K⟩:=aF7 s (rm.sub (b':={b with Au:=D5 Dh (AG [AT]) (D5 EC Dh b.Au),A4:=Fw b.A4,tm:=b.tm.dropLast}) rfl sO (Cf _ _) AB);refine⟨Q,f,d,N,?_,by rw[e];exact M,by rw[e];exact bZ,(D.trans Cz).trans K⟩;rw[Ag,gR,t79];simp only[abS,(I9 w).Ae,A.Ae,Kz,r2.Ae,ñ,J.Ae,H.Ae,l6,lt,(Ab:(0:Int)<(b.tm.length:Int)),N8 hpos (Ab:b.tm.length<9223372036854775807),S,z.Ae,j.st (k:=6) (v0:=t) rfl (BB.cells g),O.Ae,Wi]
def aOA(w:BX h bi a o c t G b):∃h',Cy cx 82 [Pt bi 0] h (.tuple []) h'/\BX h' bi a o c t G {b with stop:=true}/\Fo h (BT bi G) h' (BT bi G):=by refine⟨_,?_,w.put (k:=19) (v:= .bool true) rfl rfl w.o w.t,Cz⟩;rw[Ag,Á,t82];simp only[Cx,(I9 w).Ae,w.st (k:=19) (v:=tt) rfl rfl]
def aJW(w:BX h bi a o c t G b)(rm:CK b m):∃h' o',Cy cx 76 [Pt bi 2] h (.agg b.aDU.row) h'/\BX h' bi a o' c t G b.FY/\Fo h (BT bi G) h' (BT bi G):=by
 have ho:=rm.Au;have ld:Bn h none (Pt bi 2)=some o:=w.ld 2;have lo:=BB.GN w.o;unfold BS.FY BS.aDU;by_cases h2:b.Au.length<2;.refine⟨h,o,?_,by rw[Af h2];exact w,.refl⟩;rw[Af h2,Ag,gQ,t76];simp only[abS,↓reduceIte,Cl,(UW w.sA).Ae,(Ab:(b.Au.length:Int)<2)];rfl
 .obtain⟨u,e,hu⟩:=BB.TB w.o (k:= .i64) (n:=b.Au.length-1) Ab;refine⟨_,u,?_,by rw[Ac h2];exact w.PJ hu,Cz⟩;rw[Ac h2,Ag,gQ,t76];simp only[abS,↓reduceIte,Cl,Lo,(UW w.sA).Ae,(Ab:¬(b.Au.length:Int)<2),(f39 w.sA Ab).Ae,ld,lo,N8 (Ab:0<b.Au.length) (Ab:b.Au.length<9223372036854775807),e,w.st (k:=2) (v0:=o) rfl (BB.cells hu)]
end
def TY{U:Type}(enc:U->List Aa)(Ee:U->Ai->Prop)(Z:U->Nat)(i:Nat)(Jz:U->Ai->Prop)(s:U):Lj:=
 λx vs h1=>(x= .normal/\∃s',vs=enc s'/\Ee s' h1/\Z s'<Z s)\/(x= .exit i/\∃s',vs=enc s'/\Jz s' h1)
def TY.next{U:Type}{enc:U->List Aa}{Ee Jz:U->Ai->Prop}{Z:U->Nat}{i:Nat}{s:U}{vs:List Aa}{h:Ai}(s':U)(e:vs=enc s')(hi:Ee s' h)(hl:Z s'<Z s):TY enc Ee Z i Jz s .normal vs h:= .inl ⟨rfl,s',e,hi,hl⟩
def TY.Jz{U:Type}{enc:U->List Aa}{Ee Jz:U->Ai->Prop}{Z:U->Nat}{i:Nat}{s:U}{vs:List Aa}{h:Ai}(s':U)(e:vs=enc s')(hi:Jz s' h):TY enc Ee Z i Jz s (.exit i) vs h:= .inr ⟨rfl,s',e,hi⟩
def F0{C:Gj}{Q:Lj}{h:Ai}{U:Type}{key i:Nat}{init:List Aa}{body:List Aa->IT}{k:Gs->List Aa->IT}(enc:U->List Aa)(Ee:U->Ai->Prop)(Z:U->Nat)(Jz:U->Ai->Prop)(s0:U)(h0:init=enc s0)(hi:Ee s0 h)
  (round:∀s h,Ee s h->W C (body (enc s)) (TY enc Ee Z i Jz s) h) (hk:∀s h,Jz s h->W C (k (.exit i) (enc s)) Q h):W C (.loop key init body k) Q h:=by
 refine Co enc Ee Z s0 h0 hi λs h hs=>W.mono (round s h hs) ?_;rintro x vs h1 (hn|⟨rfl,s',rfl,hf⟩);.exact .inl hn
 .exact .inr ⟨AB,hk s' h1 hf⟩
def qp{h:Ai}{id z:Nat}{Ax:List (List Aa)}(hr:∀r∈Ax,r.length=z)(hc:h[id]?=some (.cells Ax.flatten)){i:Nat}(hi:i<Ax.length):Bn h (some z) (Pt id (i*z))=some (.agg Ax[i]):=by
 have hl:i*z+z<=Ax.flatten.length:=by rw[Ik hr];have:=Ex z (Ab:i+1<=Ax.length);rwa [BJ,ER] at this
 simp only[Bn,hc,NP];rw[Af hl,Jp hr,Az hi,CO,Bi (by rw[hr _ (AF hi)];exact Ad _),Bf (by rw[hr _ (AF hi)];exact Ad _)]
section
variable{h h':Ai}{bi a:Nat}{o c t:Aa}{G G' F:Nat->Prop}{b b':BS}{x:Int}{m:Nat}
variable{nm:Ah}{av:Aa}{l:List Be}{r:List Aa}{sp p:Int}
def ò(e:DG)(h:Ai):∃r,Cy cx 153 [.agg e.row] h (.agg r) h/\jD e.c.name e.v r:=by have hv:e.v.cells=[e.v]:=BB.cells e.ok;refine⟨_,?_,I 2,ff,S [],ff,S [],ff,ff,ff,S [],.int .i32 0,rfl⟩;rw[Ag,zS,aEv,DG.row];simp only[abS,Nat.reduceLeDiff,↓reduceIte,Cl,hv]
def dE:∀{l:List Ck} {b:BS} {m:Nat},CK b (m+4*l.length)->(∀e∈l,e.name.length<=1000/\GD e.As)->CK (BS.JG l b).2 m
 |[],b,m,r,_=>by simpa[BS.JG] using r
 |e::l,b,m,r,hl=>by have h1:=hl e AB;rw[BS.JG];exact dE (QN (m:=m+4*l.length) (r.le Et) h1.2 h1.1) λx hx=>hl x (by simp[hx])
def jG:b.NA<=b.A4.length:=by unfold BS.NA;rcases BY (q:=b.settled) (l:=b.A4) with⟨h,_⟩|⟨n,h1,h2,_⟩<;>omega
structure jH(h:Ai)(bi a:Nat)(t:Aa)(G0:Nat->Prop)(b:BS)(fs:List DG)(id m k:Nat)(h1:Ai):Prop where
 le:k<=fs.length
 low:b.NA<=k
 ex:∃(o:Aa) (G:Nat->Prop) (b1:BS) (ZJ:List DG),BX h1 bi a o (.Dn id 0 fs.length 3) t G b1/\Ey b1/\CK b1 (m+4*(fs.length-k))/\h1[id]?=some (.cells (ZJ.map DG.row).flatten)/\ZJ.length=fs.length/\ZJ.drop k=fs.drop k/\
  BS.AL b={(BS.JG (b.A4.drop k) b1).2 with A4:=(ZJ.take k).map (·.c)++(BS.JG (b.A4.drop k) b1).1}/\¬BT bi G id/\Fo h (BT bi G0) h1 (BT bi G)
def BX.jI(w:BX h bi a o c t G {b with A4:=b.A4}):BX h bi a o c t G b:=w
def Y2{h1:Ai}{id:Nat}{v v':Aa}(ha:At h id 3 v)(hf:LW h v=some (h1,v'))(he:h1[id]?=h[id]?):Lg h 3 (Pt id 0)=some (Am.put h1 id 3 v'):=by obtain⟨cs,hc,e⟩:=ha;rw[hc] at he;unfold Lg;simp only[hc,BE,e,hf,Cw,he];rw[IC he]
def aAX{v:Aa}{l:List DG}(hv:Ff l v):LW h v=some (h,v):=by rcases hv with rfl|⟨rfl,_⟩<;>rfl
def aJX{v:Aa}(hv:Ff [] v)(h:Ai):∃u,Cy cx 152 [v] h u h/\Ff [] u:=by
 have d:=nL (h:=h) (s:= .sl 3 []) (b:=48) (.inr rfl) hv;rcases hv with rfl|⟨rfl,h0⟩
 .refine⟨.sl 3 [],?_,.mk⟩;rw[Ag,WR,Í];simp only[DM] at d;simp only[Cx,DM,show AH (.Gf false .sl) [.sl 3 [],.slnil]=some (.bool false) from rfl,show AH (.CC 3) []=some (.sl 3 []) from rfl,d]
 .refine⟨.slnil,?_,.inr ⟨rfl,rfl⟩⟩;rw[Ag,WR,Í];simp only[Cx,show AH (.Gf false .sl) [.slnil,.slnil]=some (.bool true) from rfl]
def jH.init(w:BX h bi a o c t G b)(ok:Ey b)(rm:CK b (m+4*b.A4.length)){fs:List DG}(ME:fs.map (·.c)=b.A4):
  jH h bi a t G b fs h.length m b.NA (Am.put (h++[.cells (fs.map DG.row).flatten]) bi 3 (.Dn h.length 0 fs.length 3)):=by
 have Jj:b.A4.length=fs.length:=by rw[<-ME,Aw]
 have hk:=jG (b:=b);have hne:h.length≠bi:=Nat.ne_of_gt w.lt;refine⟨Ab,Ad _,o,G,b,fs,((w.Mo (u:=[.cells (fs.map DG.row).flatten])).TW (l:=b.A4)).jI,ok,rm.le Ab,?_,rfl,rfl,?_,?_,w.EB.trans Cz⟩;.rw[C5 hne];simp
 .unfold BS.AL;simp only;rw[HA,ME]
 .rintro(rfl|hg);.exact hne rfl
  .exact absurd (w.w.lt hg) (DH _)
def jH.step{fs:List DG}{id k:Nat}{h1:Ai}(ME:fs.map (·.c)=b.A4)(Ru:∀e∈b.A4,e.name.length<=1000/\GD e.As)(hi:h.length<=id)(hlt:k<fs.length)(i:jH h bi a t G b fs id m k h1):
  ∃(r:List Aa) (h2:Ai) (n:Int),Bn h1 none (Pt bi 3)=some (.Dn id 0 fs.length 3)/\Bn h1 (some 3) (Pt id (k*3))=some (.agg fs[k].row)/\Cy cx 153 [.agg fs[k].row] h1 (.agg r) h1/\Cy cx 70 [Pt bi 0,.agg r] h1 (I n) h2/\Bn h2 none (Pt bi 3)=some (.Dn id 0 fs.length 3)/\
   C9 h2 1 (Pt id (k*3)) (I n)=some (Am.put h2 id (k*3) (I n))/\jH h bi a t G b fs id m (k+1) (Am.put h2 id (k*3) (I n)):=by
 obtain⟨H,J,b1,ZJ,w1,RA,f,ZU,nr,ĺ,s,Te,q⟩:=i.ex;have qq:k<ZJ.length:=Ab;have Jj:b.A4.length=fs.length:=by rw[<-ME,Aw]
 have aJY:k<b.A4.length:=Ab;have u:ZJ[k]=fs[k]:=by have:=B3 (λl=>l[0]?) ĺ;simp only[CF,By] at this;rw[Av qq,Av hlt] at this;exact E8 this
 have A:b.A4[k]=fs[k].c:=by simp only[<-ME,Ei]
 have g:=qp (gI ZJ) ZU (i:=k) (by simpa using qq);rw[Ei,u] at g;have Ru:=Ru fs[k].c (by rw[<-A];exact AF aJY);obtain⟨r,C,hr⟩:=ò fs[k] h1;obtain⟨h2,D,B,r2,z,d⟩:=aAU (m:=m+4*(fs.length-(k+1))) w1 RA (f.le Ab) hr fs[k].ok Ru.2 Ru.1;have Ś:id<h1.length:=(Aj.1 ZU).1;have Mn:h2[id]?=some (.cells (ZJ.map DG.row).flatten):=by rw[d.old id Ś Te];exact ZU
 have lD:¬BT bi B id:=λhg=>by
  rcases d.BT id hg with hg|hg
  .exact Te hg
  .omega
 have y:At h2 id (k*3) (I fs[k].c.node):=⟨_,Mn,by have:=YT (k:=0) (gI ZJ) AA (i:=k) (r:=fs[k].row) (by rw[Dm,Av qq,u];rfl);rw[By] at this;rw[this];rfl⟩
 let w:DG:=⟨{fs[k].c with node:=b1.a.len+1},fs[k].v,fs[k].ok⟩
 have hrow:(ZJ.map DG.row).flatten.set (k*3) (I (b1.a.len+1))=((ZJ.set k w).map DG.row).flatten:=by have:=cZ (Ax:=ZJ.map DG.row) (i:=k) (k:=0) (v:= I (b1.a.len+1)) (gI ZJ) (by simpa using qq) AA;rw[By] at this;rw[JJ,B7,Af (by rw[Ik (gI ZJ),Aw];omega)];rw[A6] at this;rw[show w.row=((ZJ.map DG.row)[k]'(by simpa using qq)).set 0 (I (b1.a.len+1)) by rw[Ei,u];rfl];exact this
 have E:id≠bi:=λe=>lD (.inl e);refine⟨r,h2,b1.a.len+1,w1.l3,g,C,r2,z.l3,y.store rfl,⟨hlt,by have:=i.low;omega,D,B,_,ZJ.set k w,z.FM λj hj=>C5 λe=>lD (e▸hj),YF RA,QN (m:=m+4*(fs.length-(k+1))) (f.le Ab) Ru.2 Ru.1,?_,by rw[Ch];exact nr,?_,?_,lD,⟨by rw[MK];exact(q.trans d).len,λj hj hn=>(C5 Ab).trans ((q.trans d).old j hj hn),(q.trans d).BT⟩⟩⟩;.rw[IC Mn,AI (by have:=d.len;omega),hrow]
 .rw[aLV (Uf k)];have:=B3 (λl=>l.drop 1) ĺ;simpa[Ew] using this
 .rw[s,Az aJY,A,BS.JG];simp only
  congr 1
  rw[Bd (by rw[Ch];exact qq),List.getElem_set_self,Cg,aW (Ad k),A6];rfl
def aOC(w:BX h bi a o c t G b)(hc:ED b.A4 c)(ok:Ey b)(rm:CK b (m+4*b.A4.length)):
  ∃h' o' c' G',Cy cx 84 [Pt bi 0] h (.tuple []) h'/\BX h' bi a o' c' t G' b.AL/\ED b.AL.A4 c'/\Fo h (BT bi G) h' (BT bi G'):=by
 have ho:=rm.Au;have oB:=rm.A4;obtain⟨fs,ME,hcs⟩:=hc;have Jj:b.A4.length=fs.length:=by rw[<-ME,Aw]
 have Qa:Ev cx 84 [Pt bi 0] h λr h'=>r= .tuple []/\∃o' c' G',BX h' bi a o' c' t G' b.AL/\ED b.AL.A4 c'/\Fo h (BT bi G) h' (BT bi G'):=by
  unfold Ev;have l3:=w.l3;have lc:=BB.GN hcs;rw[Ã,t84];simp only[abS,(I9 w).Ae,l3,lc];refine F0 (i:=0) (λn:Nat=>[I (n:Int)]) (λn h1=>n<=fs.length/\AD b.settled b.A4=AD b.settled (b.A4.take n)/\h1=h) (λn=>n) (λn h1=>n=b.NA/\h1=h) fs.length rfl ⟨Ad _,by rw[<-Jj,Bk],rfl⟩ ?_ ?_
  .rintro n h1 ⟨hn,ha,rfl⟩;cases n with
   |zero=>simp only[abS,(AA:¬(0:Int)<((0:Nat):Int))];refine .Jz 0 rfl ⟨?_,rfl⟩;unfold BS.NA;rw[ha];rfl
   |succ n=>
    have hlt:n<b.A4.length:=Ab;have qd:n<fs.length:=Ab;rw[Pr hlt] at ha;have i1:=N8 (n:=n+1) (Ab:0<n+1) (Ab:n+1<9223372036854775807);rw[MD] at i1;have d:=BB.DN (k:= .i64) hcs qd;have en:fs[n].c.node=b.A4[n].node:=by simp only[<-ME,Ei]
    have f:=aB w.sA Ab b.A4[n].node;have g:b.settled b.A4[n]=true->n+1=b.NA:=by intro hs;rw[Af hs] at ha;unfold BS.NA;rw[ha];omega
    rw[DG.row,en] at d;simp only[abS,(Ab:(0:Int)<((n+1:Nat):Int)),l3,i1,d,f.Ae,CY];refine⟨λh1=>⟨λh2=>?_,λh2=>?_⟩,λh1=>?_⟩
    .have hs:b.settled b.A4[n]=false:=by unfold BS.settled;rw[Ap];omega
     rw[Ac (by rw[hs];decide)] at ha;exact .next n rfl ⟨Ab,ha,rfl⟩ Ab
    .exact .Jz (n+1) rfl ⟨g (by unfold BS.settled;rw[Ak];omega),rfl⟩
    .exact .Jz (n+1) rfl ⟨g (by unfold BS.settled;rw[Ak];omega),rfl⟩
  .rintro n h1 ⟨rfl,Q⟩;rw[Q];by_cases hne:fs=[]
   .subst hne;have ha:b.A4=[]:=ME.symm;have g:b.NA=0:=by have:=jG (b:=b);rw[ha] at this;exact Nat.le_zero.1 this
    have hb:b.AL=b:=by unfold BS.AL;rw[ha];simp only[List.drop_nil,BS.JG,List.take_nil,BA];rw[<-ha]
    obtain⟨u,f,hu⟩:=aJX hcs h;have w1:=(w.TW (u:=u) (l:=b.A4)).jI;have d:=Y2 w1.qi (aAX hu) rfl;have C:=BB.GN hu;have y:=w1.l3;rw[AW] at C;have hz:(b.NA:Int)=((0:Nat):Int):=by rw[g]
    simp only[abS,l3,f.Ae,w.st (k:=3) (v0:=c) rfl (BB.cells hu)];refine F0 (i:=2) (λn:Nat=>[I (n:Int)]) (λn h1=>n=0/\h1=Am.put h bi 3 u) (λn=>n) (λn h1=>n=0/\h1=Am.put h bi 3 u) 0 (by rw[hz]) ⟨rfl,rfl⟩ ?_ ?_;.rintro n h1 ⟨rfl,rfl⟩;simp only[abS,y,C,(AA:¬((0:Nat):Int)<((0:Nat):Int))];exact .Jz 0 rfl ⟨rfl,rfl⟩
    .rintro n h1 ⟨rfl,rfl⟩;simp only[Cx,d];refine⟨_,rfl,rfl,o,u,G,?_,⟨[],by rw[hb,ha];rfl,hu⟩,Cz.trans Cz⟩;rw[hb];exact(w1.TW (l:=b.A4)).jI
   .have i0:=jH.init (m:=m) w ok rm ME;have f:=aFW (h:=h) hcs hne Ab;have w0:=w.Mo (u:=[.cells (fs.map DG.row).flatten]);simp only[abS,l3,f.Ae,w0.st (k:=3) (v:= .Dn h.length 0 fs.length 3) (v0:=c) rfl rfl];refine F0 (i:=2) (λn:Nat=>[I (n:Int)]) (λk h1=>jH h bi a t G b fs h.length m k h1) (λk=>fs.length-k) (λk h1=>k=fs.length/\jH h bi a t G b fs h.length m k h1) b.NA rfl i0 ?_ ?_
    .intro k h1 i;have EU:=i.le;have D:AH (.len false) [.Dn h.length 0 fs.length 3]=some (I (fs.length:Int)):=rfl;rcases Bl k fs.length with hlt|IS
     .obtain⟨r,h2,n,O,N,M,L,K,J,H⟩:=jH.step ME rm.Ep (Ad _) hlt i;have d:AH (.GY 3) [.Dn h.length 0 fs.length 3,I (k:Int)]=some (Pt h.length (k*3)):=Jq hlt;simp only[abS,O,D,(Ab:(k:Int)<(fs.length:Int)),d,N,M.Ae,DI,L.Ae,K,J,Dw (Ab:k<9223372036854775807)];exact .next (k+1) rfl H Ab
     .obtain⟨s,B,b1,ZJ,w1,_⟩:=i.ex;simp only[abS,w1.l3,D,(Ab:¬(k:Int)<(fs.length:Int))];exact .Jz k rfl ⟨Ab,i⟩
    .rintro k h1 ⟨rfl,i⟩;obtain⟨s,B,b1,ZJ,w1,RA,P,ZU,nr,ĺ,A,Te,q⟩:=i.ex;have hf:=OB (gI ZJ) ZU;rw[Aw,nr] at hf;have z:h.length≠bi:=λe=>Te (.inl e);have d:=Y2 w1.qi hf (by rw[Aq z]);have E:BX (h1.set h.length .Ef) bi a s _ t B b1:=w1.FM λj hj=>Aq λe=>Te (by rw[e];exact hj);simp only[Cx,d];have hb:b.AL={b1 with A4:=ZJ.map (·.c)}:=by rw[A,AR Ab,Bf Ab];simp only[BS.JG,Bg]
     refine⟨_,rfl,rfl,s,_,B,by rw[hb];exact E.TW,⟨ZJ,by rw[hb],.mk⟩,?_⟩;refine Fo.trans ⟨by rw[Ch];exact q.len,λj hj hn=>?_,q.BT⟩ Cz;rw[Aq Ab];exact q.old j hj hn
 obtain⟨r,h',hr,rfl,o',c',G',w',Wd,x'⟩:=Qa.ret;exact⟨h',o',c',G',hr,w',Wd,x'⟩
end
def aAY{id l k:Nat}(hl:0<l)(hk:k<=l):AH (.Rb 3 false false true) [.Dn id 0 l 3,I (k:Int)]=some (.Dn id 0 k 3):=by
 have d:EP (k:Int) l=some k:=by unfold EP;rw[Af Ab];rfl
 simp[AH,Jl,DY,d];omega
def aAZ{id l k:Nat}(hk:k<=l):AH (.Rb 3 false true false) [.Dn id 0 l 3,I (k:Int)]=some (if k<l then .Dn id (k*3) (l-k) 3 else .sl 3 []):=by
 have d:EP (k:Int) l=some k:=by unfold EP;rw[Af Ab];rfl
 simp[AH,Jl,DY,d];split<;>rfl
def Ke{U:Type}{l:List U}{k:Nat}(hk:k<l.length):(Bx l k).length=l.length-1:=by unfold Bx;rw[Ao,Ay,AX];omega
def aJZ{h:Ai}{id k:Nat}{Ax:List (List Aa)}(hr:∀r∈Ax,r.length=3)(hc:h[id]?=some (.cells Ax.flatten))(hk:k<Ax.length)(hb:Ax.length<=1000000000):
  ∃Hp,Cy cx 283 [.Dn id 0 Ax.length 3,I (k:Int),I ((k+1:Nat):Int)] h (.Dn id 0 (Ax.length-1) 3) (h.set id (.cells ((Bx Ax k).flatten++Hp))):=by
 have Jk:=(Aj.1 hc).1;have u:=Ke hk;have lK:=Ik hr;have s:∀r∈Bx Ax k,r.length=3:=λr hm=>hr r (by
  unfold Bx at hm;rcases An.1 hm with hm|hm
  .exact AZ hm
  .exact AY hm)
 have wY:=Ik s;rw[u] at wY;have Vq:(Ax.take k).flatten=Ax.flatten.take (k*3):=(cK hr).symm;have d:(Ax.drop (k+1)).flatten=Ax.flatten.drop ((k+1)*3):=(Jp hr).symm;obtain⟨Tk,w,hcl⟩:∃Tk,GZ h 3 48 (.Dn id 0 k 3) (if k+1<Ax.length then .Dn id ((k+1)*3) (Ax.length-(k+1)) 3 else .sl 3 [])=some (h.set id (.cells ((Bx Ax k).flatten++Tk)),.Dn id 0 (Ax.length-1) 3)/\Tk.length=3:=by
  have g:H0 h 3 (if k+1<Ax.length then .Dn id ((k+1)*3) (Ax.length-(k+1)) 3 else .sl 3 [])=some (Ax.drop (k+1)):=by
   by_cases XF:k+1<Ax.length;.rw[Af XF];have q:=cL hr (n:=Ax.length-(k+1)) (off:=k+1) Ab;rw[Bf (by rw[AX];exact Ad _)] at q;simp only[H0,BN,hc,q];rw[Af (by rw[lK];omega)]
   .rw[Ac XF,AR Ab];rfl
  by_cases aJp:k+1=Ax.length
  .refine⟨Ax.flatten.drop (k*3),?_,by rw[AX,lK];omega⟩;have j:Ax.drop (k+1)=[]:=AR Ab;rw[j] at g;have v:(Bx Ax k).flatten++Ax.flatten.drop (k*3)=Ax.flatten:=by unfold Bx;rw[j,Bg,Vq,Br]
   have B:h.set id (.cells ((Bx Ax k).flatten++Ax.flatten.drop (k*3)))=h:=by rw[v];obtain⟨sB,A⟩:=Aj.1 hc;rw[<-A,N0]
   simp only[GZ,g,BN];rw[B,(Ab:Ax.length-1=k)]
  .obtain⟨y,l2,hd⟩:∃y l2,Ax.drop (k+1)=y::l2:=⟨_,_,Az (Ab:k+1<Ax.length)⟩;have oN:(y::l2).length=Ax.length-(k+1):=by rw[<-hd,AX]
   refine⟨Ax.flatten.drop ((Ax.length-1)*3),?_,by rw[AX,lK];omega⟩;rw[hd] at g;simp only[GZ,g,hc,BN];rw[oN,Af (by rw[lK];omega)];rw[<-hd,d,BE,BE,(Ab:k+(Ax.length-(k+1))=Ax.length-1)];unfold Bx;rw[P8,Vq,d]
 generalize qh:h.set id (.cells ((Bx Ax k).flatten++Tk))=h2 at w;have Mn:h2[id]?=some (.cells ((Bx Ax k).flatten++Tk)):=by rw[<-qh];exact AI Jk
 have uO:((Bx Ax k).flatten++Tk).length=Ax.length*3:=by rw[Ao,wY,hcl];omega
 have j:Eu (.k_ 3 true true) h2 [.Dn id 0 (Ax.length-1) 3,I ((Ax.length-1:Nat):Int),I (Ax.length:Int)]=some (h2,.Dn id ((Ax.length-1)*3) 1 3):=by
  simp only[Eu,lQ,Mn];have C:EP (Ax.length:Int) ((((Bx Ax k).flatten++Tk).length-0)/3)=some Ax.length:=by unfold EP;rw[Af (by rw[uO];omega)];rfl
  have q:EP ((Ax.length-1:Nat):Int) Ax.length=some (Ax.length-1):=by unfold EP;rw[Af Ab];rfl
  rw[Af ⟨trivial,trivial,Bp _⟩];simp only[DY,C,q,Cw,BV];rw[Af (by rw[uO];omega)];congr 3
  .omega
  .omega
 have z:Eu (.clear 3 [I 0,S [],.slnil]) h2 [.Dn id ((Ax.length-1)*3) 1 3]=some (h.set id (.cells ((Bx Ax k).flatten++[I 0,S [],.slnil])),.bool true):=by
  simp only[Eu,Xp,Mn];rw[Af ⟨trivial,rfl,by rw[uO];omega⟩];congr 2
  rw[<-qh,Nu];congr 2
  rw[JZ wY,AR (by rw[uO];omega)];simp
 refine⟨[I 0,S [],.slnil],?_⟩;have f:∀i n,AH (.len false) [.Dn i 0 n 3]=some (I (n:Int)):=λ_ _=>rfl;have v:Eu (.qO 3) h [.Dn id 0 Ax.length 3,I (k:Int),I ((k+1:Nat):Int),I (Ax.length:Int)]=some (h,.bool true):=by simp only[Eu,Xq];simp;omega
 rw[Ag,fg,aFI];simp only[abS,f,v,(Ab:¬(k:Int)=((k+1:Nat):Int)),aAY (id:=id) (Ab:0<Ax.length) (Ab:k<=Ax.length),aAZ (id:=id) (Ab:k+1<=Ax.length),w,j,z]
def TZ{z:Nat}:∀{Ax:List (List Aa)} {cs JR:List Aa},(∀r∈Ax,r.length=z)->CG (JR++(Ax.flatten++cs)) z JR.length Ax.length=Ax
 |[],_,_,_=>rfl
 |x::Ax,cs,JR,h=>by have hx:=h x AB;have:=TZ (Ax:=Ax) (cs:=cs) (JR:=JR++x) (λr hr=>h r (by simp[hr]));simp only[A6,Ao,hx] at this;simp only[CO,AK,CG,A6];rw[Mp rfl,JZ hx,this]
def uU{h:Ai}{id z:Nat}{Ax:List (List Aa)}{cs:List Aa}(hr:∀r∈Ax,r.length=z)(hc:h[id]?=some (.cells (Ax.flatten++cs))):LW h (.Dn id 0 Ax.length z)=some (h.set id .Ef,.sl z Ax):=by unfold LW;simp only[hc,BE];have:=TZ (cs:=cs) (JR:=[]) hr;simp only[BA,AW] at this;rw[Af (by rw[Ao,Ik hr];omega),this]
def F5(e:DG)(at_ mk:Int)(anc far:Item)(last:Int):List Aa:=
 [I e.c.node,.str e.c.name,e.v,I at_,I mk,I anc.node,I anc.A9,.str anc.name,.bool anc.QG,I far.node,I far.A9,.str far.name,.bool far.QG,I last]
def NC(ai bi:Nat)(G:Nat->Prop):Nat->Prop:=λi=>i=ai\/BT bi G i
section
variable{h h':Ai}{bi a ai:Nat}{o c t:Aa}{G G' F:Nat->Prop}{b b':BS}{x:Int}{m:Nat}
variable{nm:Ah}{av:Aa}{l:List Be}{r:List Aa}{sp p:Int}{e:DG}{at_ mk last:Int}{anc far:Item}
def E2(x:Fo h (BT bi G) h' (BT bi G'))(ai:Nat):Fo h (NC ai bi G) h' (NC ai bi G'):=
 ⟨x.len,λi hi hn=>x.old i hi λhg=>hn (.inr hg),λi hi=>by
  rcases hi with hi|hi
  .exact .inl (.inl hi)
  .rcases x.BT i hi with h|h
   .exact .inl (.inr h)
   .exact .inr h⟩
def QR{k:Nat}{v:Aa}:Fo h (Am.NC ai bi G) (put h ai k v) (Am.NC ai bi G):=⟨by rw[MK];exact Ad _,λi _ hn=>C5 λe=>hn (.inl e),λ_ h=> .inl h⟩
def Kr{id k:Nat}{v:Aa}{cs:List Aa}(hc:h[id]?=some (.cells cs)):(put h id k v)[id]?=some (.cells (cs.set k v)):=by rw[IC hc,AI (Aj.1 hc).1]
def down(k:Nat)(x:Int):Int:=if(k:Int)<x then x-1 else x
def ij(w:BX h bi a o c t G b)(hc:ED b.A4 c)(rm:CK b m)(ha:h[ai]?=some (.cells (F5 e at_ mk anc far last)))(hn:¬BT bi G ai){k:Nat}(hk:k<b.A4.length)(h1:0<=at_/\at_<=1000000000)(h2:0<=mk/\mk<=1000000000):
  ∃h' c',Cy cx 251 [Pt ai 0,Pt bi 0,I (k:Int)] h (.tuple []) h'/\BX h' bi a o c' t G {b with A4:=Bx b.A4 k}/\ED (Bx b.A4 k) c'/\h'[ai]?=some (.cells (F5 e (down k at_) (down k mk) anc far last))/\Fo h (NC ai bi G) h' (NC ai bi G):=by
 obtain⟨fs,ME,hcs⟩:=hc;have oB:=rm.A4;have Jj:b.A4.length=fs.length:=by rw[<-ME,Aw]
 have hne:fs≠[]:=by intro e;rw[Jj,e] at hk;exact absurd hk (Nat.not_lt_zero _)
 have zd:ai≠bi:=λe=>hn (.inl e);have ľ:ai<h.length:=(Aj.1 ha).1;have A:=aFW (h:=h) hcs hne Ab;have hX:(h++[GJ.cells (fs.map DG.row).flatten])[h.length]?=some (.cells (fs.map DG.row).flatten):=AB;obtain⟨Hp,r2⟩:=aJZ (gI fs) hX (k:=k) Et Et;rw[Aw] at r2;have e2:(h++[GJ.cells (fs.map DG.row).flatten]).set h.length (.cells ((Bx (fs.map DG.row) k).flatten++Hp))=h++[.cells ((Bx (fs.map DG.row) k).flatten++Hp)]:=by rw[Cc _ _ (Ad _),E9];rfl
 rw[e2] at r2;generalize y:h++[GJ.cells ((Bx (fs.map DG.row) k).flatten++Hp)]=H at r2;have w1:BX H bi a o c t G b:=by rw[<-y];exact w.Mo
 have yo:H[ai]?=some (.cells (F5 e at_ mk anc far last)):=by rw[<-y,Al ľ];exact ha
 have O:H[h.length]?=some (.cells ((Bx (fs.map DG.row) k).flatten++Hp)):=by rw[<-y];simp
 have hL:H.length=h.length+1:=by rw[<-y];simp
 have X:Fo h (NC ai bi G) H (NC ai bi G):=by rw[<-y];exact E2 w.EB ai
 have q:bi≠h.length:=Qe w.lt;have WE:ai≠h.length:=Qe ľ;have z:=w1.st (k:=3) (v:= .Dn h.length 0 (fs.length-1) 3) (v0:=c) rfl rfl;have w2:=w1.TW (u:= .Dn h.length 0 (fs.length-1) 3) (l:=b.A4);have UB:(put H bi 3 (.Dn h.length 0 (fs.length-1) 3))[ai]?=some (.cells (F5 e at_ mk anc far last)):=by rw[C5 zd];exact yo
 have N:(put H bi 3 (.Dn h.length 0 (fs.length-1) 3))[h.length]?=some (.cells ((Bx (fs.map DG.row) k).flatten++Hp)):=by rw[C5 (CZ q)];exact O
 have W:Fo h (NC ai bi G) (put H bi 3 (.Dn h.length 0 (fs.length-1) 3)) (NC ai bi G):=X.trans (E2 Cz ai);generalize P:put H bi 3 (.Dn h.length 0 (fs.length-1) 3)=H2 at*;have hL2:H2.length=h.length+1:=by rw[<-P,MK,hL]
 have t3:At H2 ai 3 (I at_):=⟨_,UB,rfl⟩;have Ū:=Kr (k:=3) (v:= I (down k at_)) UB;have C:put H2 ai 3 (I (down k at_))=if(k:Int)<at_ then put H2 ai 3 (I (at_-1)) else H2:=by
  unfold down;split;.rfl
  .exact t3.same
 have Z:BX (put H2 ai 3 (I (down k at_))) bi a o _ t G _:=w2.FM λj hj=>C5 λe=>hn (e▸hj);have M:(put H2 ai 3 (I (down k at_)))[h.length]?=_:=(C5 (CZ WE)).trans N;have V:=W.trans (QR (k:=3) (v:= I (down k at_)));generalize hH3:put H2 ai 3 (I (down k at_))=d at*;have t4:At d ai 4 (I mk):=⟨_,Ū,rfl⟩;have K:=Kr (k:=4) (v:= I (down k mk)) Ū;have n:put d ai 4 (I (down k mk))=if(k:Int)<mk then put d ai 4 (I (mk-1)) else d:=by
  unfold down;split;.rfl
  .exact t4.same
 have R:BX (put d ai 4 (I (down k mk))) bi a o _ t G _:=Z.FM λj hj=>C5 λe=>hn (e▸hj);have L:(put d ai 4 (I (down k mk)))[h.length]?=_:=(C5 (CZ WE)).trans M;have D:=V.trans (QR (k:=4) (v:= I (down k mk)));generalize hH4:put d ai 4 (I (down k mk))=Q at*;have J:∀r∈Bx (fs.map DG.row) k,r.length=3:=λr hm=>gI fs r (by
  unfold Bx at hm;rcases An.1 hm with hm|hm
  .exact AZ hm
  .exact AY hm)
 have f4:=uU J L;rw[Ke Et,Aw] at f4;have B:=Y2 R.qi f4 (by rw[Aq (CZ q)]);have Y:BX (Q.set h.length .Ef) bi a o _ t G {b with A4:=b.A4}:=R.FM λj hj=>Aq λe=>by
  subst e;rcases hj with hj|hj
  .exact q hj.symm
  .exact absurd (w.w.lt hj) (DH _)
 have ed:Bx (fs.map DG.row) k=(Bx fs k).map DG.row:=by unfold Bx;rw[Cg,HA,Mk]
 have ec:(Bx fs k).map (·.c)=Bx b.A4 k:=by unfold Bx;rw[Cg,HA,Mk,ME]
 refine⟨_,.sl 3 (Bx (fs.map DG.row) k),?_,Y.TW (l:=Bx b.A4 k),⟨Bx fs k,ec,by rw[ed];exact .mk⟩,?_,?_⟩
 .have g:Bn H2 none (Pt ai 3)=some (I at_):=t3.load;have f:Bn d none (Pt ai 4)=some (I mk):=t4.load;have inc:=Dw (Ab:k<9223372036854775807);have U:=Ek (Ab: -9223372036854775808<=at_-1) (Ab:at_-1<9223372036854775808);have T:=Ek (Ab: -9223372036854775808<=mk-1) (Ab:mk-1<9223372036854775808);rw[Ag,dm,aFs];by_cases s:(k:Int)<at_
  .rw[Af s] at C;have S:C9 H2 1 (Pt ai 3) (I (at_-1))=some d:=by rw[C];exact t3.store rfl
   by_cases i:(k:Int)<mk
   .rw[Af i] at n;have E:C9 d 1 (Pt ai 4) (I (mk-1))=some Q:=by rw[n];exact t4.store rfl
    simp only[abS,w.l3,A.Ae,inc,r2.Ae,z,g,s,U,S,f,i,T,E,B]
   .rw[Ac i] at n;subst n;simp only[abS,w.l3,A.Ae,inc,r2.Ae,z,g,s,U,S,f,i,B]
  .rw[Ac s] at C;subst C;by_cases i:(k:Int)<mk
   .rw[Af i] at n;have E:C9 d 1 (Pt ai 4) (I (mk-1))=some Q:=by rw[n];exact t4.store rfl
    simp only[abS,w.l3,A.Ae,inc,r2.Ae,z,g,s,f,i,T,E,B]
   .rw[Ac i] at n;subst n;simp only[abS,w.l3,A.Ae,inc,r2.Ae,z,g,s,f,i,B]
 .rw[C5 zd,Aq (CZ WE),K];rfl
 .refine Fo.trans ⟨by rw[Ch];exact D.len,λj hj hn=>?_,D.BT⟩ (E2 Cz ai);rw[Aq Ab];exact D.old j hj hn
end
section
variable{U:Type}{q:U->Bool}{l:List U}
def Nj{p:Nat}(hp:p<l.length)(h1:q l[p]=true)(h2:∀j (hj:j<l.length),p<j->q l[j]=false):AD q l=(p:Int):=by
 rcases BY (q:=q) (l:=l) with⟨e,h⟩|⟨n,hn,e,h3,d⟩
 .rw[h _ (AF hp)] at h1;exact absurd h1 AA
 .rcases aRU n p with h|h|h
  .have:=d p hp h;rw[this] at h1;exact absurd h1 AA
  .rw[e,h]
  .have:=h2 n hn h;rw[this] at h3;exact absurd h3 AA
def Mb{p:Nat}(e:AD q l=(p:Int)):∃hp:p<l.length,q l[p]=true/\∀j (hj:j<l.length),p<j->q l[j]=false:=by
 rcases BY (q:=q) (l:=l) with⟨f,h⟩|⟨n,hn,f,h3,d⟩
 .omega
 .have:n=p:=by omega
  subst this;exact⟨hn,h3,λj hj h=>d j hj h⟩
def oT{k j:Nat}(hk:k<l.length):(Bx l k)[j]?=if j<k then l[j]? else l[j+1]?:=by
 unfold Bx;by_cases h:j<k;.rw[Af h,Al (by rw[Ay];omega),CA,Af h]
 .rw[Ac h,Bu (by rw[Ay];omega),CF];congr 1
  rw[Ay];omega
def PK{k j:Nat}(hk:k<l.length)(hj:j<(Bx l k).length):(Bx l k)[j]=if h:j<k then l[j]'(by omega) else l[j+1]'(by rw[Ke hk] at hj;omega):=by
 have hl:=Ke hk;have:=oT (j:=j) hk;rw[Av hj] at this;by_cases h:j<k;.rw[qC h];rw[Af h,Av Ab] at this;exact E8 this
 .rw[dif_neg h];rw[Ac h,Av Ab] at this;exact E8 this
def jJ{p k:Nat}(e:AD q l=(p:Int))(hk:k<l.length)(hne:k≠p):AD q (Bx l k)=down k p:=by
 obtain⟨hp,h1,h2⟩:=Mb e;have hl:=Ke hk;unfold down;by_cases d:k<p
 .rw[Af Ab,(Ab:(p:Int)-1=((p-1:Nat):Int))];refine Nj Ab ?_ ?_;.rw[PK hk,dif_neg Ab];have:p-1+1=p:=Ab;simp only[this,h1]
  .intro j hj h;rw[PK hk,dif_neg Ab];exact h2 _ _ Ab
 .rw[Ac Ab];refine Nj Ab ?_ ?_;.rw[PK hk,qC Ab];exact h1
  .intro j hj h;rw[PK hk];split;.exact h2 _ _ h
   .exact h2 _ _ Ab
def oU{p k:Nat}{x:U}(e:AD q l=(p:Int))(hne:k≠p)(hx:q x=false):AD q (l.set k x)=(p:Int):=by
 obtain⟨hp,h1,h2⟩:=Mb e;refine Nj (by rw[Ch];exact hp) ?_ ?_;.rw[List.getElem_set_ne hne];exact h1
 .intro j hj h;rw[List.getElem_set];split;.exact hx
  .rw[Ch] at hj;exact h2 j hj h
end
def jK{l:List Item}(hn:(l.map Item.node).Nodup){i:Nat}(hi:i<l.length):AD (Bt l[i].node) l=(i:Int):=by
 refine Nj hi (by simp[Bt]) λj hj h=>?_;by_cases he:l[i].node=l[j].node
 .have h2:(l.map Item.node)[i]'(by simpa using hi)=(l.map Item.node)[j]'(by simpa using hj):=by simpa using he
  exact absurd h2 (List.pairwise_iff_getElem.1 hn i j (by simpa using hi) (by simpa using hj) h)
 .unfold Bt;simpa using λe=>he e.symm
def KP{n:Int}{l:List Ck}(h:0<=FL n l):∃p:Nat,∃hp:p<l.length,FL n l=(p:Int)/\n≠0/\l[p].node=n/\AD (VK n) l=(p:Int):=by
 unfold FL at h⊢;split at h;.omega
 .rename_i h0;rw[Ac h0];obtain⟨p,hp⟩:∃p:Nat,AD (VK n) l=(p:Int):=⟨_,(IU h).symm⟩;obtain⟨h1,h2,_⟩:=Mb hp;exact⟨p,h1,hp,h0,by simpa[VK] using h2,hp⟩
def qt{n:Int}{l:List Ck}{k:Nat}(h:0<=FL n l)(hk:k<l.length)(hne:l[k].node≠n):FL n (Bx l k)=down k (FL n l):=by obtain⟨p,hp,e,h0,h1,h2⟩:=KP h;rw[e,<-jJ h2 hk (by rintro rfl;exact hne h1)];unfold FL;rw[Ac h0]
def ó{n:Int}{l:List Ck}{k:Nat}{x:Ck}(h:0<=FL n l)(hk:k<l.length)(hne:l[k].node≠n)(hx:x.node≠n):FL n (l.set k x)=FL n l:=by obtain⟨p,hp,e,h0,h1,h2⟩:=KP h;rw[e,<-oU (x:=x) (k:=k) h2 (by rintro rfl;exact hne h1) (by simp[VK];exact hx)];unfold FL;rw[Ac h0]
def qu{n:Int}{l:List Ck}(hn:((l.map Ck.node).filter λn=>decide (n≠0)).Nodup)(h:0<=FL n l):FL n (Bx l (FL n l).toNat)<0:=by
 obtain⟨p,hp,e,h0,h1,h2⟩:=KP h;rw[e,BF];refine Int.not_le.1 λh3=>?_;obtain⟨g,f,i,_,d,_⟩:=KP h3;have:l=l.take p++l[p]::l.drop (p+1):=by rw[<-Az hp,Br]
 rw[this,Cg,Bj,Bc,HE,Af (by simpa[h1] using h0),BW,B6] at hn;have hm:=AF f;generalize(Bx l p)[g]=y at hm d;unfold Bx at hm;rcases An.1 hm with hm|hm
 .exact hn.2.2 y.node (BD.2 ⟨bA hm,by simpa[d] using h0⟩) l[p].node AB (by rw[d,h1])
 .exact hn.2.1.1 (BD.2 ⟨by rw[h1,<-d];exact bA hm,by simpa[h1] using h0⟩)
section
variable{h h':Ai}{bi a ai:Nat}{o c t:Aa}{G G' F:Nat->Prop}{b b':BS}{x:Int}{m:Nat}
variable{nm:Ah}{av:Aa}{l:List Be}{r:List Aa}{sp p:Int}{e:DG}{at_ mk last:Int}{anc far:Item}
def Y3{blk anc:Int}{far i:Nat}{l:Int}{mk m:Nat}(r:CK b (m+4)):CK (BS.Gi blk anc far i b l mk).1 m:=by
 unfold BS.Gi;simp only
 split;.exact(r.le Ab).sub rfl CL (BQ _) (Ad _)
 .split;.exact(r.le Ab).sub rfl CL CL (Ad _)
  .rename_i he _;obtain⟨p,hp,f,_,_,_⟩:=KP (Vf.1 he);rw[f,BF,AJ,Av hp,Fq];have Ru:=r.Ep _ (AF hp);have d:=Rv (m:=m+1) (nm:=b.A4[p].name) (l:=b.A4[p].As) (sp:=1) (p:=anc) (r.le Ab) Ru.2;have r2:=(d.le (m':=m) Ab).IP (Lv (p:=(b.HQ b.A4[p].name b.A4[p].As 1).node) (x:=l) (bf:=0));refine⟨r2.n,r2.at_,r2.data,by simp only[Ch];exact r2.Au,by simp only[Ch];exact r2.A4,r2.tm,λe he=>?_,λi hi=>?_⟩
   .rcases DA he with he|rfl
    .exact r2.Ep e he
    .exact Ru
   .rcases DA hi with hi|rfl
    .exact r2.tT i hi
    .exact TN Ru.1
end
def UZ{A:Ar}{x p bf:Int}(h:(A.nd p).kind=4):A.E1 x p bf=A.GC p x bf:=by unfold Ar.E1;rw[Ac (by rw[h];intro h;exact absurd h.1 AA)]
section
variable{h h':Ai}{bi a ai:Nat}{o c t:Aa}{G G' F:Nat->Prop}{b b':BS}{x:Int}{m:Nat}
variable{nm:Ah}{av:Aa}{l:List Be}{r:List Aa}{sp p:Int}{e:DG}{at_ mk last:Int}{anc far:Item}
def ED.at(hc:ED b.A4 c)(w:BX h bi a o c t G b)(rm:CK b m)(n:Int):Cy cx 215 [Pt bi 3,I n] h (I (FL n b.A4)) h:=by obtain⟨fs,ME,hv⟩:=hc;have ha:=rm.A4;have:=f41 w.qi hv (by rw[<-ME,Aw] at ha;omega) n;rwa [YY,ME] at this
structure oV(h:Ai)(bi a ai:Nat)(t:Aa)(G0:Nat->Prop)(fe:DG)(anc far:Item)(k N m:Nat)(s0:BS×Int×Nat)(n:Nat)(h1:Ai)(o c:Aa)(G:Nat->Prop)(s:BS×Int×Nat):Prop where
 le:n<=N
 w:BX h1 bi a o c t G s.1
 hc:ED s.1.A4 c
 ok:Ey s.1
 rm:CK s.1 (m+4*n)
 last:s.1.a.has s.2.1
 st:h1[ai]?=some (.cells (F5 fe (FL fe.c.node s.1.A4) (s.2.2:Int) anc far s.2.1))
 hn:¬BT bi G ai
 x:Fo h (NC ai bi G0) h1 (NC ai bi G)
 uk:0<=FL fe.c.node s.1.A4
 mkb:s.2.2<=1000000000
 Au:s.1.Au.take (k+n+1)=s0.1.Au.take (k+n+1)
 len:k+n+1<=s.1.Au.length
 eq:BS.Nf far.node anc.node (k+1+N) k N s0=BS.Nf far.node anc.node (k+1+N) k n s
 fe:s.1.a.has fe.c.node
def qv{blk anc:Int}{far i:Nat}{l:Int}{mk:Nat}(hi:i<b.Au.length):(BS.Gi blk anc far i b l mk).1.Au.take i=b.Au.take i/\i<=(BS.Gi blk anc far i b l mk).1.Au.length:=by
 have h1:(Bx b.Au i).take i=b.Au.take i/\i<=(Bx b.Au i).length:=by refine⟨?_,by rw[Ke hi];omega⟩;unfold Bx;rw[Bi (by rw[Ay];omega),CI,Nat.min_self]
 unfold BS.Gi;simp only
 split;.exact h1
 .split;.exact h1
  .have NH:∀nm l p,(b.Gm nm l 1 p).Au=b.Au:=λnm l p=>by unfold BS.Gm;rw[Af Kw]
   simp only[NH];exact⟨aW (Ad i),by rw[Ch];omega⟩
def oV.step{h1 h2:Ai}{C D A z:Aa}{B u:Nat->Prop}{fe:DG}{k N n:Nat}{s0 s s':BS×Int×Nat}(i:oV h bi a ai t G fe anc far k N m s0 (n+1) h1 C D B s)(e:s'=BS.Gi far.node anc.node (k+1+N) (k+(n+1)) s.1 s.2.1 s.2.2)
  (w:BX h2 bi a A z t u s'.1) (hc:ED s'.1.A4 z) (st:h2[ai]?=some (.cells (F5 fe (FL fe.c.node s'.1.A4) (s'.2.2:Int) anc far s'.2.1))) (hn:¬BT bi u ai) (x:Fo h1 (NC ai bi B) h2 (NC ai bi u)) (uk:0<=FL fe.c.node s'.1.A4) (mk:s'.2.2<=1000000000):
  oV h bi a ai t G fe anc far k N m s0 n h2 A z u s':=by
 obtain⟨g,last',j⟩:=OK (blk:=far.node) (anc:=anc.node) (far:=k+1+N) (i:=k+(n+1)) (m:=s.2.2) i.ok i.last;have hl:=i.len;obtain⟨f,v⟩:=qv (blk:=far.node) (anc:=anc.node) (far:=k+1+N) (i:=k+(n+1)) (l:=s.2.1) (mk:=s.2.2) (b:=s.1) Ab;have d:=Y3 (blk:=far.node) (anc:=anc.node) (far:=k+1+N) (i:=k+(n+1)) (l:=s.2.1) (mk:=s.2.2) (m:=m+4*n) (i.rm.le Ab);have NH:=i.Au;have y:BS.Nf far.node anc.node (k+1+N) k (n+1) s=BS.Nf far.node anc.node (k+1+N) k n (BS.Gi far.node anc.node (k+1+N) (k+(n+1)) s.1 s.2.1 s.2.2):=rfl;have q:=i.eq.trans y;rw[<-e] at g last' j f v d q;refine⟨by have:=i.le;omega,w,hc,g,d,last',st,hn,i.x.trans x,uk,mk,?_,Ab,q,j.has _ i.fe⟩;have:=B3 (λl=>l.take (k+(n+1))) NH;simp only[CI] at this;rw[(Ab:k+n+1=k+(n+1)),f];rwa [BO Ab] at this
def aJ1{fe:DG}{k N:Nat}{s0:BS×Int×Nat}(i0:oV h bi a ai t G fe anc far k N m s0 N h o c G s0)(qX:1<=k)(XF:AD (Bt fe.c.node) s0.1.Au=(k:Int))(hN:k+1+N<s0.1.Au.length):
  ∃h' o' c' G' s',Cy cx 253 [Pt bi 0,Pt ai 0,I (k:Int),I ((k+1+N:Nat):Int)] h (.tuple []) h'/\s'=BS.Nf far.node anc.node (k+1+N) k N s0/\oV h bi a ai t G fe anc far k N m s0 0 h' o' c' G' s':=by
 have ho:=i0.rm.Au;have Qa:Ev cx 253 [Pt bi 0,Pt ai 0,I (k:Int),I ((k+1+N:Nat):Int)] h λr h'=>r= .tuple []/\∃o' c' G' s',s'=BS.Nf far.node anc.node (k+1+N) k N s0/\oV h bi a ai t G fe anc far k N m s0 0 h' o' c' G' s':=by
  unfold Ev;rw[du,aFu];have i1:=Ek (a:=((k+1+N:Nat):Int)) (b:=1) Ab Ab;rw[(Ab:((k+1+N:Nat):Int)-1=((k+N:Nat):Int))] at i1;simp only[Cx,i1];refine Co (λn:Nat=>[I ((N-n:Nat):Int),I ((k+n:Nat):Int)]) (λn h1=>∃o c G1 s,oV h bi a ai t G fe anc far k N m s0 n h1 o c G1 s) (λn=>n) N (by rw[E9];rfl) ⟨o,c,_,s0,i0⟩ ?_;rintro n h1 ⟨o1,c1,G1,s,i⟩;cases n with
  |zero=>simp only[abS,↓reduceIte,(Ab:¬(k:Int)<(k:Int))];exact⟨_,rfl,rfl,o1,c1,G1,s,i.eq.symm,i⟩
  |succ n=>
   have hnN:=i.le;have hlen:=i.len;have B:k+(n+1)<s.1.Au.length:=Ab;have hwo:=i.rm.Au;have hwa:=i.rm.A4;have zd:ai≠bi:=λe=>i.hn (.inl e);have ľ:ai<h1.length:=(Aj.1 i.st).1;have L:=Wn i.w.sA ((k+(n+1):Nat):Int);rw[Iw B] at L;have U:=jK i.ok.lH B;have hxf:s.1.Au[k+(n+1)].node≠fe.c.node:=by have h2:=B3 (λl=>l[k+(n+1)]?) i.Au;simp only[CA] at h2;rw[Af Ab,Af Ab,Av B,Av Ab] at h2;obtain⟨_,_,h3⟩:=Mb XF;have g:=h3 (k+(n+1)) Ab Ab;rw[E8 h2];intro h5;unfold Bt at g;rw[h5] at g;simp at g
   have ô:s.1.Au.getD (k+(n+1)) Item.zero=s.1.Au[k+(n+1)]:=by rw[AJ,Av B];rfl
   generalize s.1.Au[k+(n+1)]=x at*;have r2:=i.hc.at i.w i.rm x.node;obtain⟨q,hq,è,hq0,hq2,hq3⟩:=KP i.uk;have inc:AH (.int .add) [I ((N-(n+1):Nat):Int),I 1]=some (I ((N-n:Nat):Int)):=by have:=Dw (n:=N-(n+1)) Ab;rwa [(Ab:N-(n+1)+1=N-n)] at this
   have dec:AH (.int .sub) [I ((k+(n+1):Nat):Int),I 1]=some (I ((k+n:Nat):Int)):=by have:=N8 (n:=k+(n+1)) Ab Ab;rwa [(Ab:k+(n+1)-1=k+n)] at this
   have y:(k:Int)<((k+(n+1):Nat):Int):=Ab;have W:∀l:List Item,l=s.1.Au->Ce x.node l=Bx l (k+(n+1)):=by intro l e;subst e;unfold Ce;rw[U,Ac Ab,BF]
   by_cases he:FL x.node s.1.A4<0
   .obtain⟨u,D,hu⟩:=aAN i.w.sO Ab x.node;rw[W _ rfl] at hu;have z:=i.w.PJ hu;have es:({s.1 with Au:=Bx s.1.Au (k+(n+1))},s.2.1,s.2.2)=BS.Gi far.node anc.node (k+1+N) (k+(n+1)) s.1 s.2.1 s.2.2:=by unfold BS.Gi;simp only[ô];rw[Af he]
    have E:=i.step es z i.hc ((C5 zd).trans i.st) i.hn (E2 Cz ai) i.uk i.mkb;by_cases bZ:(3:Int)<((N-n:Nat):Int);.simp only[abS,↓reduceIte,Lo,y,L.Ae,inc,r2.Ae,bZ,he,(Ab:¬(0:Int)<=FL x.node s.1.A4),D.Ae,dec];exact BC.next n rfl ⟨_,_,_,_,E⟩ Ab
    .simp only[abS,↓reduceIte,Lo,y,L.Ae,inc,r2.Ae,bZ,he,D.Ae,dec];exact BC.next n rfl ⟨_,_,_,_,E⟩ Ab
   .obtain⟨p,hp,ep,hx0,uz,hp3⟩:=KP (Vf.1 he);have IS:(0:Int)<=(p:Int):=Ab;rw[ep] at r2;have X:s.1.A4[p].node≠fe.c.node:=by rw[uz];exact hxf
    have H:(FL x.node s.1.A4).toNat=p:=by rw[ep,BF]
    by_cases bZ:(3:Int)<((N-n:Nat):Int)
    .obtain⟨h2,c2,D,z,Mn,õ,J⟩:=ij i.w i.hc i.rm i.st i.hn hp ⟨i.uk,Ab⟩ ⟨Ab,by have:=i.mkb;omega⟩;have uR:CK {s.1 with A4:=Bx s.1.A4 p} (m+4*(n+1)):=i.rm.sub rfl (BQ _) CL (Ad _);have r4:=ED.at (b:={s.1 with A4:=Bx s.1.A4 p}) Mn z uR x.node;have xG:FL x.node (Bx s.1.A4 p)<0:=by have:=qu (n:=x.node) i.ok.uw (Vf.1 he);rwa [H] at this
     obtain⟨u,r5,hu⟩:=aAN z.sO HC x.node;rw[W _ rfl] at hu;have M:=z.PJ hu;have ö:(((if p<s.2.2 then s.2.2 -1 else s.2.2:Nat)):Int)=down p (s.2.2:Int):=by unfold down;split<;>split<;>omega
     have es:({s.1 with A4:=Bx s.1.A4 p,Au:=Bx s.1.Au (k+(n+1))},s.2.1,if p<s.2.2 then s.2.2 -1 else s.2.2)=BS.Gi far.node anc.node (k+1+N) (k+(n+1)) s.1 s.2.1 s.2.2:=by unfold BS.Gi;simp only[ô];rw[Ac he,Af (Ab:k+(n+1)+3<k+1+N),H]
     have aJ3:=qt i.uk hp X;have hd0:0<=down p (FL fe.c.node s.1.A4):=by unfold down;split<;>omega
     have E:=i.step es M Mn (by rw[C5 zd,õ];simp only;rw[aJ3,ö]) i.hn (J.trans (E2 Cz ai)) (by simp only;rw[aJ3];exact hd0) (by have:=i.mkb;simp only;split<;>omega);simp only[abS,↓reduceIte,Lo,y,L.Ae,inc,r2.Ae,bZ,IS,D.Ae,r4.Ae,xG,r5.Ae,dec];exact BC.next n rfl ⟨_,_,_,_,E⟩ Ab
    .obtain⟨fs,ME,hv⟩:=i.hc;have Jj:s.1.A4.length=fs.length:=by rw[<-ME,Aw]
     have aOE:p<fs.length:=Ab;have efp:fs[p].c=s.1.A4[p]:=by simp only[<-ME,Ei]
     have l3:=i.w.l3;have e1:=BB.DN (k:= .i64) hv aOE;have l5:Bn h1 none (Pt ai 5)=some (I anc.node):=At.load ⟨_,i.st,rfl⟩;obtain⟨r,D,hr⟩:=ò fs[p] h1;have Ru:=i.rm.Ep _ (AF hp);rw[<-efp] at Ru;obtain⟨h2,G2,r4,z,J⟩:=aF4 (m:=m+4*n) i.w i.ok (i.rm.le Ab) hr fs[p].ok Ru.2 Ru.1 anc.node 1;obtain⟨ok2,f,le2⟩:=P5 (nm:=fs[p].c.name) (at_:=fs[p].c.As) (p:=anc.node) i.ok Kw;have uR:=Rv (m:=m+4*n+1) (nm:=fs[p].c.name) (l:=fs[p].c.As) (sp:=1) (p:=anc.node) (i.rm.le Ab) Ru.2;have NH:(s.1.Gm fs[p].c.name fs[p].c.As 1 anc.node).Au=s.1.Au:=by unfold BS.Gm;rw[Af Kw]
     have oB:(s.1.Gm fs[p].c.name fs[p].c.As 1 anc.node).A4=s.1.A4:=by unfold BS.Gm;rw[Af Kw]
     have Z:BS.Gi far.node anc.node (k+1+N) (k+(n+1)) s.1 s.2.1 s.2.2=({s.1.Gm fs[p].c.name fs[p].c.As 1 anc.node with a:=(s.1.Gm fs[p].c.name fs[p].c.As 1 anc.node).a.GC (s.1.HQ fs[p].c.name fs[p].c.As 1).node s.2.1 0,Au:=(s.1.Gm fs[p].c.name fs[p].c.As 1 anc.node).Au.set (k+(n+1)) (s.1.HQ fs[p].c.name fs[p].c.As 1),A4:=(s.1.Gm fs[p].c.name fs[p].c.As 1 anc.node).A4.set p {fs[p].c with node:=(s.1.HQ fs[p].c.name fs[p].c.As 1).node}},(s.1.HQ fs[p].c.name fs[p].c.As 1).node,if s.2.1=far.node then p+1 else s.2.2):=by unfold BS.Gi;simp only[ô];rw[Ac he,Ac Ab,H,AJ,Av hp,Fq,<-efp]
     have wX:=Rt i.ok f;have hna:=UO i.ok f;have hnf:(s.1.HQ fs[p].c.name fs[p].c.As 1).node≠fe.c.node:=λe2=>f.new (by rw[e2];exact i.fe);have aOG:=le2.has _ i.last;have aOH:(s.1.HQ fs[p].c.name fs[p].c.As 1).name.length<=1000:=TN Ru.1;generalize s.1.HQ fs[p].c.name fs[p].c.As 1=d at*;generalize s.1.Gm fs[p].c.name fs[p].c.As 1 anc.node=b2 at*;have lD:¬BT bi G2 ai:=λhg=>by
      rcases J.BT ai hg with hg|hg
      .exact i.hn hg
      .omega
     have õ:h2[ai]?=_:=(J.old ai ľ i.hn).trans i.st;obtain⟨K,O,r5,eX⟩:=aNX z.sO (by have:=uR.Au;omega) x.node d;have aOI:QI x.node d b2.Au=b2.Au.set (k+(n+1)) d:=by unfold QI;rw[NH,U,Ac Ab,BF]
     rw[aOI] at eX;have M:=(z.PJ eX).Mo (u:=O);have x3:Fo h1 (NC ai bi G1) (put h2 bi 2 K++O) (NC ai bi G2):=(E2 J ai).trans (E2 (Cz.trans (z.PJ eX).EB) ai);have ai2:ai<h2.length:=by have:=J.len;omega
     have st3:(put h2 bi 2 K++O)[ai]?=_:=(Al (by rw[MK];exact ai2)).trans ((C5 zd).trans õ);have ai3:ai<(put h2 bi 2 K++O).length:=by rw[Ao,MK];omega
     generalize put h2 bi 2 K++O=h3 at*;have aOJ:=(Ru.2).1;obtain⟨C,t2,e2,he2,r6,Tt⟩:=aN2 (h:=h3) (id:=bi) (o:=3) (l:=fs) ⟨c1,M.qi,hv⟩ Ab x.node (e:=⟨{fs[p].c with node:=d.node},fs[p].v,fs[p].ok⟩) (by unfold uq;simp only;omega);have hei:Lp x.node fs=(p:Int):=by rw[YY,ME,ep]
     rw[hei,Ac Ab,BF] at Tt;have w4:=(M.TW (u:=C) (l:=b2.A4.set p {fs[p].c with node:=d.node})).Mo (u:=t2);have hc4:ED (b2.A4.set p {fs[p].c with node:=d.node}) C:=⟨_,by rw[JJ,ME,he2,oB],Tt⟩;have x4:=x3.trans (E2 ((Cz (k:=3) (v:=C)).trans (BX.EB (u:=t2) (M.TW (u:=C) (l:=b2.A4.set p {fs[p].c with node:=d.node})))) ai);have A:(put h3 bi 3 C++t2)[ai]?=_:=(Al (by rw[MK];exact ai3)).trans ((C5 zd).trans st3);generalize put h3 bi 3 C++t2=g at*;have ok3:=ok2.zx (i:=d) (k:=k+(n+1)) ⟨f.has,f.kind,f.A9,f.name⟩ (by rw[NH];exact wX);have ok4:=ok3.A_ (e:={fs[p].c with node:=d.node}) (k:=p) ⟨f.has,f.kind⟩ (by simp only[oB];exact hna);have rm4:CK {b2 with Au:=b2.Au.set (k+(n+1)) d,A4:=b2.A4.set p {fs[p].c with node:=d.node}} (m+4*n+1):=by
      refine⟨uR.n,uR.at_,uR.data,by simp only[Ch];exact uR.Au,by simp only[Ch];exact uR.A4,uR.tm,λe he=>?_,λi hi=>?_⟩
      .rcases DA he with he|rfl
       .exact uR.Ep e he
       .exact Ru
      .rcases DA hi with hi|rfl
       .exact uR.tT i hi
       .exact aOH
     have S:Bn g none (Pt ai 13)=some (I s.2.1):=At.load ⟨_,A,rfl⟩;have l9:Bn g none (Pt ai 9)=some (I far.node):=At.load ⟨_,A,rfl⟩;have t4:At g ai 4 (I (s.2.2:Int)):=⟨_,A,rfl⟩;obtain⟨jL,qw⟩:∃jL:Nat,jL=if s.2.1=far.node then p+1 else s.2.2:=⟨_,rfl⟩
     have e5:put g ai 4 (I (jL:Int))=if s.2.1=far.node then put g ai 4 (I ((p+1:Nat):Int)) else g:=by
      rw[qw];split;.rfl
      .exact t4.same
     have Q:=Kr (k:=4) (v:= I (jL:Int)) A;have w5:BX (put g ai 4 (I (jL:Int))) bi a K C t G2 {b2 with Au:=b2.Au.set (k+(n+1)) d,A4:=b2.A4.set p {fs[p].c with node:=d.node}}:=w4.FM λj hj=>C5 λe=>lD (e▸hj);have x5:=x4.trans (QR (k:=4) (v:= I (jL:Int)));have ai5:ai<(put g ai 4 (I (jL:Int))).length:=by have:=x5.len;omega
     have t5:Bn (put g ai 4 (I (jL:Int))) none (Pt ai 13)=some (I s.2.1):=At.load ⟨_,Q,rfl⟩;generalize hh5:put g ai 4 (I (jL:Int))=h5 at*;obtain⟨h6,G6,r7,w6,x6⟩:=uQ (x:=s.2.1) (p:=d.node) (bf:=0) w5 ok4 rm4;rw[UZ (by exact f.kind)] at w6;have Y:¬BT bi G6 ai:=λhg=>by
      rcases x6.BT ai hg with hg|hg
      .exact lD hg
      .omega
     have P:h6[ai]?=_:=(x6.old ai ai5 lD).trans Q;have t6:At h6 ai 13 (I s.2.1):=⟨_,P,rfl⟩;have st7:=Kr (k:=13) (v:= I d.node) P;have w7:BX (put h6 ai 13 (I d.node)) bi a K C t G6 _:=w6.FM λj hj=>C5 λe=>Y (e▸hj);have x7:=(x5.trans (E2 x6 ai)).trans (QR (k:=13) (v:= I d.node));have qx:FL fe.c.node (b2.A4.set p {fs[p].c with node:=d.node})=FL fe.c.node s.1.A4:=by rw[oB];exact ó i.uk hp X hnf
     rw[<-qw] at Z;have E:=i.step Z.symm w7 hc4 (by simp only;rw[st7,qx];rfl) Y x7 (by simp only;rw[qx];exact i.uk) (by simp only;rw[qw];have:=i.mkb;split<;>omega);have V:fs[p].v.cells=[fs[p].v]:=BB.cells fs[p].ok;have T:=Dw (Ab:p<9223372036854775807);have R:Cy cx 285 [Pt bi 3,I x.node,.agg [I d.node,.str fs[p].c.name,fs[p].v]] h3 (.bool (decide (0<=Lp x.node fs))) g:=r6;rw[DG.row] at e1 D;by_cases lK:s.2.1=far.node
     .rw[Af lK] at e5;have s5:C9 g 1 (Pt ai 4) (I ((p+1:Nat):Int))=some h5:=by rw[e5];exact t4.store rfl
      simp only[abS,Nat.reduceLeDiff,↓reduceIte,Cl,Lo,y,L.Ae,inc,r2.Ae,bZ,IS,(Ab:¬(p:Int)<0),l3,e1,l5,D.Ae,DI,r4.Ae,r5.Ae,V,R.Ae,S,l9,BG lK,T,s5,t5,r7.Ae,t6.store (u:= I d.node) rfl,dec];exact BC.next n rfl ⟨_,_,_,_,E⟩ Ab
     .rw[Ac lK] at e5;subst e5;simp only[abS,Nat.reduceLeDiff,↓reduceIte,Cl,Lo,y,L.Ae,inc,r2.Ae,bZ,IS,(Ab:¬(p:Int)<0),l3,e1,l5,D.Ae,DI,r4.Ae,r5.Ae,V,R.Ae,S,l9,lK,r7.Ae,t6.store (u:= I d.node) rfl,dec];exact BC.next n rfl ⟨_,_,_,_,E⟩ Ab
 obtain⟨r,h',hr,rfl,o',c',G',s',e',i'⟩:=Qa.ret;exact⟨h',o',c',G',s',hr,e',i'⟩
end
end Go.Am
end
