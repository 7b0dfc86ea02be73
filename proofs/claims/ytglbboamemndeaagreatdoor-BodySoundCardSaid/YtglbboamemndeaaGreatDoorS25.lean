/- Lemmas -/
import Derived.Test.YtglbboamemndeaaGreatDoorS24
set_option linter.all false
set_option maxHeartbeats 0
set_option maxRecDepth 100000
section
namespace Go.Am
open Go
section
variable{h h':Ai}{a n:Nat}{m:Option Nat}{ps:List PN}{A:Ar}{x:Int}{F:Nat->Prop}
def nT{p:PN}(w:PA h a n m ps A)(hx:A.has x){i:Nat}(hi:i∈Fw a n m (ps.set (x.toNat-1) p)):i∈Fw a n m ps\/Hs p.kv=some i:=by
 obtain⟨c,b⟩:=XT w hx p;unfold Fw at hi⊢;rw[b,Et] at hi;simp only[AF,Aq,B8] at hi⊢;rcases hi with h1|h1|h1|⟨q,h1,h2⟩|⟨q,h1,h2⟩
 .exact .inl (.inl h1)
 .exact .inl (.inr (.inl h1))
 .exact .inl (.inr (.inr (.inl h1)))
 .exact .inl (.inr (.inr (.inr ⟨q,A0 h1,h2⟩)))
 .rcases h1 with rfl|h1
  .exact .inr h2
  .exact .inl (.inr (.inr (.inr ⟨q,Bu h1,h2⟩)))
def rj{kv:Aa}{l:List Int}{k:Nat}(hk:JU h kv l)(Zq:k<=l.length)(hb:l.length<=1000000000)(y:Int):
  ∃h1,DZ .gx h [kv,I (k:Int),.sl 1 [[I y]]]=some (h1,.CT h.length 0 (l.length+1) 1)/\h1[h.length]?=some (.cells ((l.take k++y::l.drop k).map (Aa.int .i64)))/\(∀i,i<h.length->Hs kv≠some i->h1[i]?=h[i]?)/\h1.length=h.length+1:=by
 rcases hk with⟨rfl,rfl⟩|⟨id,cs,rfl,hc⟩
 .have:k=0:=by simpa using Zq
  subst this;exact⟨h++[.cells [I y]],rfl,Ax,λi hi _=>An hi,Ax⟩
 .have Ik:=(Al.1 hc).1;refine⟨h.set id .Dw++[.cells ((l.take k++y::l.drop k).map (Aa.int .i64))],?_,by rw[Bw Ax];simp,λi hi hn=>?_,Ax⟩
  .simp only[DZ,PX,hc];rw[Ag (by have:AJ=140737488355328:=rfl;simp;omega)];simp only[By];have c:(l.map (Aa.int .i64)++cs).take k=(l.take k).map (Aa.int .i64):=by rw[Dz (by simpa using Zq),GM]
   have b:(l.map (Aa.int .i64)++cs).take l.length=l.map (Aa.int .i64):=I0 Ax;rw[c,b];simp
  .rw[An (by simpa using hi),Ap];intro e;exact hn (by rw[e];rfl)
def Qk{p b:Int}(hf:¬Ŗ A p x b):A.IF p x b=A:=by unfold Ar.IF;rw[Af hf]
def rk{l:List Int}{b y:Int}{k:Nat}(hb:b=0->k=l.length)(h2:b≠0->l.takeWhile (λy=>decide (y≠b))=l.take k/\l.dropWhile (λy=>decide (y≠b))=l.drop k):MC l b y=l.take k++y::l.drop k:=by
 unfold MC;by_cases h0:b=0;.rw[Ag h0,hb h0];simp
 .rw[Af h0,(h2 h0).1,(h2 h0).2]
open Classical in
def Ă{e p b:Int}(w:PA h a n m ps A)(d:Mn A)(ok:Er A e):
  ∃X h' Ot,B2 cx 74 [Pt a 0,I p,I x,I b] h (I X) h'/\PA h' a n m Ot (A.IF p x b)/\EH h (λi=>i∈Fw a n m ps) h' (λi=>i∈Fw a n m Ot):=by
 by_cases gl:A.has p/\A.has x;rotate_left;.refine⟨3,h,ps,?_,by rw[Qk (λf=>gl ⟨f.hp,f.hn⟩)];exact w,.refl⟩;rw[Ae,Oj];simp only[abS,Fo,(Lk (x:=p) (y:=x) w).Ad,Af gl,Cj,(AM:¬(3:Int)=0)]
 obtain⟨hp,hx⟩:=gl;by_cases hb:b≠0/\¬A.has b;.refine⟨3,h,ps,?_,by rw[Qk (λf=>hb.2 (f.hb hb.1).1)];exact w,.refl⟩;rw[Ae,Oj];simp only[abS,Fo,(Lk (x:=p) (y:=x) w).Ad,Ag (And.intro hp hx),Cj,Ck,hb.1,(UY (x:=b) w).Ad,Ah hb.2,EZ]
 have S5:b=0\/(b≠0/\A.has b):=by
  by_cases h0:b=0;.exact .inl h0
  .refine .inr ⟨h0,?_⟩;by_cases h1:A.has b;.exact h1
   .exact absurd ⟨h0,h1⟩ hb
 by_cases kp:Nx (A.nd p).kind;rotate_left
 .refine⟨4,h,ps,?_,by rw[Qk (λf=>kp f.kp)];exact w,.refl⟩;unfold Nx at kp;have c:¬(A.nd p).kind=1:=λe=>kp (.inl e);have q:¬(A.nd p).kind=2:=λe=>kp (.inr (.inl e));have C:¬(A.nd p).kind=4:=λe=>kp (.inr (.inr e));rw[Ae,Oj];rcases S5 with h0|⟨h0,Qt⟩
  .simp only[abS,Fo,(Lk (x:=p) (y:=x) w).Ad,Ag (And.intro hp hx),Cj,Ck,(Ic w d hp).Ad,(Ic w d hx).Ad,w.f0 hp,w.f0 hx,c,EZ,h0,q,C]
  .simp only[abS,Fo,(Lk (x:=p) (y:=x) w).Ad,Ag (And.intro hp hx),Cj,Ck,(Ic w d hp).Ad,(Ic w d hx).Ad,w.f0 hp,w.f0 hx,c,EZ,h0,(UY (x:=b) w).Ad,Ak Qt,q,C]
 by_cases kn:(A.nd x).kind=1\/(A.nd x).kind=2
 .refine⟨4,h,ps,?_,by rw[Qk (λf=>by have:=f.kn;omega)];exact w,.refl⟩;rw[Ae,Oj];rcases kp with c|c|c<;>rcases kn with q|q<;>rcases S5 with h0|⟨h0,Qt⟩
  all_goals first|(simp only[abS,Fo,(Lk (x:=p) (y:=x) w).Ad,Ag (And.intro hp hx),Cj,Ck,(Ic w d hp).Ad,(Ic w d hx).Ad,w.f0 hp,w.f0 hx,c,(AM:¬(2:Int)=1),(AM:¬(4:Int)=1),(AM:¬(4:Int)=2),EZ,h0,q];done)|simp only[abS,Fo,(Lk (x:=p) (y:=x) w).Ad,Ag (And.intro hp hx),Cj,Ck,(Ic w d hp).Ad,(Ic w d hx).Ad,w.f0 hp,w.f0 hx,c,(AM:¬(2:Int)=1),(AM:¬(4:Int)=1),(AM:¬(4:Int)=2),EZ,h0,(UY (x:=b) w).Ad,Ak Qt,q]
 have ž:¬(A.nd x).kind=1:=λe=>kn (.inl e);have ă:¬(A.nd x).kind=2:=λe=>kn (.inr e);have l:=aDG w ok hx hp;by_cases re:Reach A x p
 .refine⟨4,h,ps,?_,by rw[Qk (λf=>f.re re)];exact w,.refl⟩;rw[Ak re] at l;rw[Ae,Oj];rcases kp with c|c|c<;>rcases S5 with h0|⟨h0,Qt⟩
  all_goals first|(simp only[abS,Fo,(Lk (x:=p) (y:=x) w).Ad,Ag (And.intro hp hx),Cj,Ck,(Ic w d hp).Ad,(Ic w d hx).Ad,w.f0 hp,w.f0 hx,c,(AM:¬(2:Int)=1),(AM:¬(4:Int)=1),(AM:¬(4:Int)=2),EZ,h0,ž,ă,l.Ad];done)|simp only[abS,Fo,(Lk (x:=p) (y:=x) w).Ad,Ag (And.intro hp hx),Cj,Ck,(Ic w d hp).Ad,(Ic w d hx).Ad,w.f0 hp,w.f0 hx,c,(AM:¬(2:Int)=1),(AM:¬(4:Int)=1),(AM:¬(4:Int)=2),EZ,h0,(UY (x:=b) w).Ad,Ak Qt,ž,ă,l.Ad]
 rw[Ah re] at l;by_cases g:b≠0/\(b=x\/(A.nd b).GH≠p)
 .refine⟨5,h,ps,?_,by rw[Qk (λf=>by have:=f.hb g.1;rcases g.2 with h|h;exact this.2.1 h;exact h this.2.2)];exact w,.refl⟩;obtain⟨h0,g⟩:=g;have Qt:=(S5.resolve_left h0).2;rw[Ae,Oj];by_cases Ą:b=x;.have aNE:=Ą;rcases kp with c|c|c<;>simp only[abS,Fo,(Lk (x:=p) (y:=x) w).Ad,Ag (And.intro hp hx),Cj,Ck,(Ic w d hp).Ad,(Ic w d hx).Ad,w.f0 hp,w.f0 hx,c,(AM:¬(2:Int)=1),(AM:¬(4:Int)=1),(AM:¬(4:Int)=2),EZ,ž,ă,l.Ad,Ą,show¬x=0 from Ą▸h0,Ak hx,(UY (x:=x) w).Ad]
  .have g:=g.resolve_left Ą;rcases kp with c|c|c<;>simp only[abS,Fo,(Lk (x:=p) (y:=x) w).Ad,Ag (And.intro hp hx),Cj,Ck,(Ic w d hp).Ad,(Ic w d hx).Ad,w.f0 hp,w.f0 hx,c,(AM:¬(2:Int)=1),(AM:¬(4:Int)=1),(AM:¬(4:Int)=2),EZ,h0,(UY (x:=b) w).Ad,Ak Qt,ž,ă,l.Ad,Ą,(Ic w d Qt).Ad,w.f1 Qt,g]
 have fits:Ŗ A p x b:=⟨hp,hx,λh0=>⟨(S5.resolve_left h0).2,λe=>g ⟨h0,.inl e⟩,by
  by_cases h1:(A.nd b).GH=p;.exact h1
  .exact absurd ⟨h0,.inr h1⟩ g⟩,kp,⟨ž,ă⟩,re⟩
 have V:A.IF p x b=(A.cut x).MN p x b:=by unfold Ar.IF;rw[Ag fits]
 obtain⟨h1,Y2,M,w1,Q⟩:=Ā w d ok hx;have i5:=cQ ok hx ă;have ø:=d.cut (x:=x);have uF:(A.cut x).has p:=Oc.2 hp;have Tq:(A.cut x).has x:=Oc.2 hx;have E:x≠p:=by rintro rfl;exact re .refl
 have v_:=ø.Bm i5 p;obtain⟨k,Zq,u,xh⟩:∃k,k<=((A.cut x).nd p).Bm.length/\(b=0->k=((A.cut x).nd p).Bm.length)/\(b≠0->BT (λy=>decide (b=y)) 0 ((A.cut x).nd p).Bm=(k:Int)/\((A.cut x).nd p).Bm.takeWhile (λy=>decide (y≠b))=((A.cut x).nd p).Bm.take k/\((A.cut x).nd p).Bm.dropWhile (λy=>decide (y≠b))=((A.cut x).nd p).Bm.drop k):=by
  by_cases h0:b=0;.exact⟨_,Ab _,λ_=>rfl,λh=>absurd h0 h⟩
  .have r:=fits.hb h0;have aDN:((A.cut x).nd b).GH=p:=by
    rw[Xs ok hx,Af r.2.1];split;.exact r.2.2
    .exact r.2.2
   have zn:b∈((A.cut x).nd p).Bm:=by have:=(i5.GH b (Oc.2 r.1) (by rw[aDN];have:=hp.1;omega)).2;rwa [aDN] at this
   obtain⟨k,c,q,_,C,T⟩:=SB zn;exact⟨k,Ac,λh=>absurd h h0,λ_=>⟨q,C,T⟩⟩
 have Qr:=rk (y:=x) u λh=>(xh h).2;have MU:=w1.MU uF;obtain⟨h2,J,KS,wA,pF⟩:=rj MU Zq v_ x;have G:=(w1.pn uF).2.1;obtain⟨o,zt⟩:∃o:PN,o=⟨{(A.cut x).nd p with Bm:=MC ((A.cut x).nd p).Bm b x},.CT h1.length 0 (((A.cut x).nd p).Bm.length+1) 1,(pN Y2 p).av,w1.att uF⟩:=⟨_,rfl⟩;have t:o.x={(A.cut x).nd p with Bm:=MC ((A.cut x).nd p).Bm b x}:=by rw[zt]
 have hrow:o.row=(pN Y2 p).row.set 2 (.CT h1.length 0 (((A.cut x).nd p).Bm.length+1) 1):=by rw[zt];simp only[PN.row];rw[G];rfl
 have aDO:n∈Fw a n m Y2:=by simp[Fw]
 have H:Hs (pN Y2 p).kv≠some n:=by intro B;have:=w1.nd;unfold Fw at this;simp only[BV,AF,PR] at this;exact this.2.1 (Aq.2 (.inr (B8.2 ⟨_,(w1.pn uF).2.2,B⟩)))
 have D:=w1.sto uF (k:=2) AM (v:= .CT h1.length 0 (((A.cut x).nd p).Bm.length+1) 1) rfl hrow (wA n (w1.lt n aDO) H);have hlen:(MC ((A.cut x).nd p).Bm b x).length=((A.cut x).nd p).Bm.length+1:=by rw[Qr,Ao,AG,AB,Bi];omega
 have s:=w1.fq uF (p:=o) (h1:=h2) (λi hi hn=>wA i (w1.lt i hi) hn) (by rw[zt];refine .inr ⟨h1.length,[],by simp only[hlen],?_⟩;simp only[Qr,Bs];exact KS) (.inr λj hj=>by rw[zt] at hj;cases hj;exact Ab _)
 have WG:∀i,i∈Fw a n m (Y2.set (p.toNat-1) o)->i∈Fw a n m Y2\/i=h1.length:=by
  intro i hi;rcases nT w1 uF hi with h|h
  .exact .inl h
  .rw[zt] at h;cases h;exact .inr rfl
 generalize z:h2.set n (.cells ((Y2.set (p.toNat-1) o).map PN.row).flatten)=W at D s;generalize aNH:Y2.set (p.toNat-1) o=qz at s WG;rw[t] at s;have bT:((A.cut x).set p {(A.cut x).nd p with Bm:=MC ((A.cut x).nd p).Bm b x}).has x:=I2.2 Tq;have j9:((A.cut x).set p {(A.cut x).nd p with Bm:=MC ((A.cut x).nd p).Bm b x}).nd x=(A.cut x).nd x:=by rw[JM,Af (λh=>E h.1)]
 have gl:=(s.pn bT).2.1;obtain⟨O,K,R,U,S,l4⟩:=s.wr bT (k:=1) AM (v:= I p) rfl (p:=⟨{(A.cut x).nd x with GH:=p},(pN qz x).kv,(pN qz x).av,by have:=(pN qz x).ok;rw[gl,j9] at this;exact this⟩) (by simp only[PN.row];rw[gl,j9];rfl) rfl (Cm Fg.Bm j9).symm;have aDP:(A.cut x).MN p x b=((A.cut x).set p {(A.cut x).nd p with Bm:=MC ((A.cut x).nd p).Bm b x}).set x {(A.cut x).nd x with GH:=p}:=by unfold Ar.MN;simp only;rw[j9]
 refine⟨0,O,_,?_,by rw[V,aDP];exact R,?_⟩
 .rw[Ae,Oj];by_cases h0:b=0;.rw[u h0] at J;have kl:=MU.len;rcases kp with c|c|c<;>simp only[abS,Fo,(Lk (x:=p) (y:=x) w).Ad,Ag (And.intro hp hx),Cj,Ck,(Ic w d hp).Ad,(Ic w d hx).Ad,w.f0 hp,w.f0 hx,c,(AM:¬(2:Int)=1),(AM:¬(4:Int)=1),(AM:¬(4:Int)=2),EZ,h0,ž,ă,l.Ad,M.Ad,w1.f2 uF,kl,Gj,J,D,K]
  .have r:=fits.hb h0;have Qt:=r.1;have L:=ź MU.Rm v_ b;rw[(xh h0).1] at L;have kl:=MU.len;rcases kp with c|c|c<;>simp only[abS,Fo,(Lk (x:=p) (y:=x) w).Ad,Ag (And.intro hp hx),Cj,Ck,(Ic w d hp).Ad,(Ic w d hx).Ad,w.f0 hp,w.f0 hx,c,(AM:¬(2:Int)=1),(AM:¬(4:Int)=1),(AM:¬(4:Int)=2),EZ,h0,(UY (x:=b) w).Ad,Ak Qt,ž,ă,l.Ad,r.2.1,(Ic w d Qt).Ad,w.f1 Qt,r.2.2,M.Ad,w1.f2 uF,kl,L.Ad,Gj,J,D,K]
 .have gh:W.length=h1.length+1:=by rw[<-z,BY,pF]
  have P:EH h1 (λi=>i∈Fw a n m Y2) O (λi=>i∈Fw a n m (qz.set (x.toNat-1) ⟨{(A.cut x).nd x with GH:=p},(pN qz x).kv,(pN qz x).av,by have:=(pN qz x).ok;rw[gl,j9] at this;exact this⟩)):=by
   refine⟨Ac,λi hi kF=>?_,λi hi=>?_⟩;.have N:i≠n:=λB=>kF (B▸aDO);rw[S i N,<-z,Ap (DC N)];exact wA i hi λB=>kF (KV (w1.pn uF).2.2 B)
   .rw[U] at hi;rcases WG i hi with h|h
    .exact .inl h
    .exact .inr Ac
  exact Q.trans P
end
def PG(a:Nat)(b:BS)(o c t:Aa):List Aa:=[Pt a 0,I b.Cl,o,c,I b.mode,I b.Qu,t,I b.head,I b.IG,.bool b.PC,I b.ctx.node,I b.ctx.Be,.str b.ctx.name,.bool b.ctx.OI,.bool b.fs,.bool b.HS,.str b.aCW,.bool b.skip,I b.sw,.bool b.stop]
def SD(l:List Int)(v:Aa):Prop:=GI l v\/(v= .EI 1/\l=[])
def SE(l:List Int)(v:Aa):Prop:=SD l v/\v≠ .sl 1 []
section
variable{h:Ai}{l:List Int}{v:Aa}
def SD.cells(t:SD l v):v.cells=[v]:=by
 rcases t with t|⟨rfl,_⟩
 .exact Bz.cells t
 .rfl
def SD.len(t:SD l v):Az (.len false) [v]=some (I (l.length:Int)):=by
 rcases t with t|⟨rfl,rfl⟩
 .exact Bz.GO t
 .rfl
def SD.ne(t:SD l v)(hne:l≠[]):GI l v:=by
 rcases t with t|⟨_,e⟩
 .exact t
 .exact absurd e hne
def SD.Rm(t:SD l v):XX h v l:=⟨t.len,λk hk=>(GI.Rm (t.ne (λe=>by rw[e] at hk;simp at hk))).at_ k hk⟩
def SD.Pv(t:SD l v)(hb:l.length*8<=AJ):∃u,Az (.append 1 8) [.slnil,v]=some u/\GI l u:=by
 rcases t with t|⟨rfl,rfl⟩
 .exact Bz.Pv t hb
 .exact⟨.slnil,rfl,.inr ⟨rfl,rfl⟩⟩
def SD.mz(t:SD l v)(m:Int)(hb:(l.length+1)*8<=AJ):Az (.append 1 8) [v,.sl 1 [CM m]]=some (.sl 1 ((l++[m]).map CM)):=by
 rcases t with t|⟨rfl,rfl⟩
 .exact Bz.Xi t hb
 .rfl
def SE.lR{m:Int}:SE (l++[m]) (.sl 1 ((l++[m]).map CM)):=⟨.inl .mk,λe=>by injection e with _ e;simp at e⟩
def SE.nil:SE [] .slnil:=⟨.inl (.inr ⟨rfl,rfl⟩),nofun⟩
end
structure BX(h:Ai)(bi a:Nat)(o c t:Aa)(G:Nat->Prop)(b:BS):Prop where
 hb:h[bi]?=some (.cells (PG a b o c t))
 o:Dy b.AA o
 t:SE b.tm t
 w:PW h G a b.a
 nb:¬G bi
section
variable{h:Ai}{bi a:Nat}{o c t:Aa}{G F:Nat->Prop}{b:BS}{x:Int}{m:Nat}
def BX.lt(w:BX h bi a o c t G b):bi<h.length:=(Al.1 w.hb).1
def BX.E4{h':Ai}(w:BX h bi a o c t G b)(hf:∀i,i=bi\/G i->h'[i]?=h[i]?):BX h' bi a o c t G b:=
 ⟨by rw[hf bi (.inl rfl)];exact w.hb,w.o,w.t,w.w.E4 λi hi=>hf i (.inr hi),w.nb⟩
def BX.Jn(w:BX h bi a o c t G b){u:Ai}:BX (h++u) bi a o c t G b:=w.E4 λi hi=>An (by rcases hi with rfl|hi;exact w.lt;exact w.w.lt hi)
def BX.ld(w:BX h bi a o c t G b)(k:Nat):Bd h none (Pt bi k)=(PG a b o c t)[k]?:=by simp only[Bd,w.hb,Gq]
def BX.l0(w:BX h bi a o c t G b):Bd h none (Pt bi 0)=some (Pt a 0):=w.ld 0
def BX.l1(w:BX h bi a o c t G b):Bd h none (Pt bi 1)=some (I b.Cl):=w.ld 1
def BX.l4(w:BX h bi a o c t G b):Bd h none (Pt bi 4)=some (I b.mode):=w.ld 4
def BX.l7(w:BX h bi a o c t G b):Bd h none (Pt bi 7)=some (I b.head):=w.ld 7
def BX.l9(w:BX h bi a o c t G b):Bd h none (Pt bi 9)=some (.bool b.PC):=w.ld 9
def BX.ą(w:BX h bi a o c t G b):Bd h none (Pt bi 15)=some (.bool b.HS):=w.ld 15
def BX.l3(w:BX h bi a o c t G b):Bd h none (Pt bi 3)=some c:=w.ld 3
def BX.l6(w:BX h bi a o c t G b):Bd h none (Pt bi 6)=some t:=w.ld 6
def BX.atO(w:BX h bi a o c t G b):At h bi 2 o:=⟨_,w.hb,rfl⟩
def BX.pH(w:BX h bi a o c t G b):At h bi 3 c:=⟨_,w.hb,rfl⟩
def BX.sO(w:BX h bi a o c t G b):LB h bi 2 b.AA:=⟨o,w.atO,w.o⟩
def BX.sA(w:BX h bi a o c t G b):bp h (Pt bi 2) b.AA:=w.sO.at
def Ie(w:BX h bi a o c t G b):B2 cx 108 [Pt bi 0] h (.bool true) h:=by rw[Ae,dM];simp only[abS,w.l0]
def PW.pa{A:Ar}(w:PW h G a A):∃n m ps,PA h a n m ps A:=let⟨n,m,ps,w,_⟩:=w;⟨n,m,ps,w⟩
def UZ(w:BX h bi a o c t G b)(ok:BA b)(rm:Cf b m)(x:Int):∃K V u,B2 cx 112 [Pt bi 0,I x] h (.agg [I (b.a.nd x).kind,I (b.a.nd x).GH,K,I (b.a.nd x).Cl,I (b.a.nd x).Be,.str (b.a.nd x).name,V,.str (b.a.nd x).data,.str (b.a.nd x).Jy,.str (b.a.nd x).sys,.bool (b.a.nd x).CL,I (b.a.nd x).cont,I (b.a.nd x).Dg]) (h++u)/\GI (b.a.nd x).Bm K/\F7 (h++u) V (b.a.nd x).As/\Up h.length V:=by obtain⟨n,m',ps,d⟩:=w.w.pa;obtain⟨r,u,e,K,V,rfl,g,f⟩:=Ź (x:=x) d rm.TD (rm.TD.Bm ok.ok x);refine⟨K,V,u,?_,g,f⟩;rw[Ae,dO];simp only[abS,w.l0,e.Ad]
def ſ(w:BX h bi a o c t G b)(rm:Cf b m):B2 cx 125 [Pt bi 0] h (.agg (Fs b.AA).row) h:=by have:=rm.AA;rw[Ae,eC];simp only[abS,Jw,(Ie w).Ad,(f39 w.sA Ac).Ad]
def aDQ(w:BX h bi a o c t G b)(ok:BA b)(rm:Cf b m):B2 cx 202 [Pt bi 0] h (.tuple [I b.Od.1,I b.Od.2]) h:=by
 have hl:=rm.AA;obtain⟨n,m',ps,g⟩:=w.w.pa;have f:=zk w.sA (Ac:b.AA.length<=1000000000) JN;have r2:=zk w.sA (Ac:b.AA.length<=1000000000) A5;have b1:=XB (q:=Bf [JN]) (l:=b.AA);have b2:=XB (q:=Bf [A5]) (l:=b.AA);unfold BS.Od;simp only
 generalize AW (Bf [JN]) b.AA=d at f b1⊢;generalize AW (Bf [A5]) b.AA=i at r2 b2⊢;rw[Ae,fU];simp only[B9,f.Ad,r2.Ad];refine⟨λh1=>?_,λh1=>⟨λh2=>?_,λh2=>?_⟩⟩;.rw[Ag h1];simp only[B9,Jw,(Sx w.sA i).Ad]
 .rw[Af h1,Ag h2];simp only[B9,Jw,(Sx w.sA 0).Ad]
 .rw[Af h1,Af h2];simp only[abS,Jw,(Sx w.sA d).Ad,w.l0,(aDu (x:=(DO b.AA d).node) g rm.TD).Ad];refine⟨λe=>?_,λe=>?_⟩;.rw[Ag e]
  .rw[Af e];have j:(if d-1<0 then 0 else d-1)=max (d-1) 0:=Ac;simp only[B9,Jw,DN (Ac: -9223372036854775808<=d-1) (Ac:d-1<9223372036854775808),cB,j,(Sx w.sA (max (d-1) 0)).Ad]
def Z7:Az (.DX 1) [S JN,S sH,S sI,S sJ,S wTr]=some (.sl 1 (JO.map B6)):=Ez (ws:=JO) rfl AM
def uG{v:Aa}{ws:List Aj}(hv:HP ws v)(hn:ws.length<=1000000000)(a:Item)(h:Ai):B2 cx 106 [.agg a.row,v] h (.bool (Bf ws a)) h:=by rw[Ae,dJ];simp only[B9,Jw,(zj hv hn _ h).Ad,Bf];refine⟨λh1=>by simp[h1],λh1=>by simp[h1]⟩
def rl{A:Ar}{x:Int}(hk:(A.nd x).kind=4)(ws:List Aj):Bf ws ⟨0,(A.nd x).Be,(A.nd x).name,false⟩=decide (sG ws A x):=by
 by_cases h:sG ws A x;.rw[Ak h];unfold Bf;rw[Ak];exact⟨h.2.1,h.2.2⟩
 .rw[Ah h];unfold Bf;rw[Ah];exact λh2=>h ⟨hk,h2.1,h2.2⟩
def zu(w:BX h bi a o c t G b)(ok:BA b)(rm:Cf b m)(x:Int):∃u,B2 cx 111 [Pt bi 0,I x] h (.tuple [I (b.place x).1,I (b.place x).2]) (h++u):=by
 have hl:=rm.AA;by_cases C:x=0/\b.AA=[]
 .refine⟨[],?_⟩;have D:b.place x=(b.Cl,0):=by unfold BS.place;rw[Ag C]
  rw[D,Bs,Ae,Vp];simp only[abS,(Ie w).Ad,C.1,C.2,Ck,(Sw w.sA).Ad,vF,w.l1]
 .obtain⟨t',ht⟩:∃t',t'=if x=0 then(Fs b.AA).node else x:=⟨_,rfl⟩
  obtain⟨Z,X,r,U,_,_⟩:=UZ w ok rm t';have w1:=w.Jn (u:=r);have D:b.place x=if(b.a.nd (if b.HS=true/\sG JO b.a t' then b.Od else(t',0)).1).cont≠0 then((b.a.nd (if b.HS=true/\sG JO b.a t' then b.Od else(t',0)).1).cont,0) else if b.HS=true/\sG JO b.a t' then b.Od else(t',0):=by unfold BS.place;rw[Af C,<-ht]
  obtain⟨pb,cy⟩:∃pb,pb=if b.HS=true/\sG JO b.a t' then b.Od else(t',0):=⟨_,rfl⟩
  rw[<-cy] at D;obtain⟨Y,V,P,r2,_,_⟩:=UZ w1 ok rm pb.1;have T:=aDQ w1 ok rm;have A:=uG (ws:=JO) CO AM ⟨0,(b.a.nd t').Be,(b.a.nd t').name,false⟩ (h++r);have em:∀s n,Az (.C2 [I 0,I 0,S [],ff] [(1,1),(2,1)]) [I s,.str n]=some (.agg (Item.row ⟨0,s,n,false⟩)):=λ_ _=>rfl;refine⟨r++P,?_⟩;rw[<-AT];have last:∀(y:Int×Int),y=pb->W cx (.call 112 [Pt bi 0,I y.1] λp=> .cells 13 p λd=> .op (.int .neq) [g d 11,I 0] λk=> .FH k (.ret .ret [.tuple [g d 11,I 0]]) (.ret .ret [.tuple [I y.1,I y.2]])) (λj vs h1=>j=DV.ret/\vs=[.tuple [I (b.place x).1,I (b.place x).2]]/\h1=h++r++P) (h++r):=by
   rintro _ rfl;rw[D];simp only[B9,r2.Ad];refine⟨λh1=>?_,λh1=>?_⟩;.rw[Ag h1]
   .rw[Af h1]
  rw[Ae,Vp];have ą:=w1.ą;have mid:W cx (.call 112 [Pt bi 0,I t'] λO=> .cells 13 O λq=> .OR 200009 (.op .I6 [Pt bi 0] λN=> .op (.KI 15) [N] λv16=> .load none v16 λM=> .FH M (.op (.int .eql) [g q 0,I 4] λL=> .FH L (.op (.C2 [I 0,I 0,S [],ff] [(1,1),(2,1)]) [g q 4,g q 5] λK=> .op (.DX 1) [S aQu,S aQV,S aQU,S aQW,S [116,114]] λv20=> .call 106 [K,v20] λJ=> .ret .normal [J]) (.ret .normal [ff])) (.ret .normal [ff])) (λx R=>match x with
    | .normal=> .OR 100046 (.FH (g R 0) (.call 202 [Pt bi 0] λz=> .op (.ext 0) [z] λH=> .op (.ext 1) [z] λE=> .ret .normal [H,E]) (.ret .normal [I t',I 0])) (λx f=>match x with
     | .normal=> .call 112 [Pt bi 0,g f 0] λp=> .cells 13 p λd=> .op (.int .neq) [g d 11,I 0] λk=> .FH k (.ret .ret [.tuple [g d 11,I 0]]) (.ret .ret [.tuple [g f 0,g f 1]])
     | .exit i=> .fail
     | .ret=> .ret .ret [.tuple [g f 0,g f 1]])
    | .exit i=> .fail
    | .ret=> .ret .ret [.tuple [I t',I 0]])) (λj vs h1=>j=DV.ret/\vs=[.tuple [I (b.place x).1,I (b.place x).2]]/\h1=h++r++P) h:=by
   rw[U.Ad];by_cases hf:b.HS=true
   .rw[hf] at ą;by_cases B:(b.a.nd t').kind=4
    .rw[rl B] at A;by_cases hw:sG JO b.a t';.rw[Ak hw] at A;rw[Ag ⟨hf,hw⟩] at cy;have:=last b.Od cy.symm;simp only[abS,ą,B,em,Z7,A.Ad,T.Ad];simpa only[B9,YU,AG,Bk] using this
     .rw[Ah hw] at A;rw[Af (λh=>hw h.2)] at cy;have:=last (t',0) cy.symm;simp only[abS,ą,B,em,Z7,A.Ad];simpa only[B9,YU,AG,Bk] using this
    .rw[Af (λh=>B h.2.1)] at cy;have:=last (t',0) cy.symm;simp only[abS,ą,B];simpa only[B9,YU,AG,Bk] using this
   .rw[Af (λh=>hf h.1)] at cy;have:=last (t',0) cy.symm;rw[show b.HS=false by simpa using hf] at ą;simp only[B9,ą];simpa only[B9,YU,AG,Bk] using this
  by_cases h0:x=0
  .have hne:b.AA≠[]:=λe=>C ⟨h0,e⟩;have Q:¬((b.AA.length:Nat):Int)=0:=by have:=Em.2 hne;omega
   rw[Ag h0] at ht;rw[ht] at mid;simp only[abS,(Ie w).Ad];rw[h0] at mid⊢;simp only[abS,Jw,(Sw w.sA).Ad,Q,(ſ w rm).Ad] at mid⊢;exact mid
  .rw[Af h0] at ht;rw[ht] at mid;simp only[abS,(Ie w).Ad,h0,C0] at mid⊢;exact mid
end
section
def dh{Q:JE}{h:Ai}{k:Aa->IT}:W cx (.O1 k) Q h↔W cx (k (.map (some h.length))) Q (h++[.map (ft 0)]):=Rb
section
variable{v:Aa}{l:List AZ}{h:Ai}
def aIf(hv:A6 l v)(hb:l.length<=1000)(sp:Int):∃u,B2 cx 141 [I sp,v] h u (h++[.map (ft 11)])/\A6 (l.map (DP sp)) u:=by
 have Hq:Bz 3 (l.map AZ.row) v:=hv;have OT:Ev cx 141 [I sp,v] h λr h'=>h'=h++[.map (ft 11)]/\A6 (l.map (DP sp)) r:=by
  unfold Ev;rw[eT,aC6];rw[dh];simp only[B9,Nat.reduceLeDiff,↓reduceIte,Bj,Fk,rV,aCL,aCM,aCN,aCO,aCP,aCQ,aCR,aCS,aCT,aCU,œ,Hq.GO];refine BM (λp:Nat×Aa=>[p.2,I (p.1:Int)]) (λp h1=>p.1<=l.length/\A6 ((l.take p.1).map (DP sp)) p.2/\h1=h++[.map (ft 11)]) (λp=>l.length-p.1) (0,.slnil) rfl ⟨Bc _,.nil,rfl⟩ ?_;rintro⟨n,u⟩ h1 ⟨hn,hu,rfl⟩;simp only at hn hu;rcases Bl n l.length with hlt|GS
  .have i1:(n:Int)<(l.length:Int):=by omega
   have IS:∀{q:List Aa},q=(DP sp l[n]).row->∃w,Az (.append 3 40) [u,.sl 3 [q]]=some w/\A6 ((l.take (n+1)).map (DP sp)) w:=by
    rintro _ rfl;refine⟨_,Bz.Xi (f:=AZ.row) (a:=DP sp l[n]) (b:=40) hu ?_,?_⟩;.simp[AJ];omega
    .rw[AP hlt,BW];exact .mk
   have inc:=CE (Ac:n<9223372036854775807);by_cases e:sp=2
   .subst e;cases c:Jp (DH l[n].name Nv) with
    |some x=>obtain⟨w,d,hw⟩:=IS (q:=[I x.1,.str x.2,.str l[n].value]) (by simp only[DP,MA,true_or,BE,c,AZ.row]);simp only[B9,Nat.reduceLeDiff,↓reduceIte,Bj,i1,Hq.DB hlt,Fk,AZ.row,(f235 _).Cb rfl rfl,AL,AR,AI,L0,c,L1,d,inc];exact Br.next (n+1,w) rfl ⟨hlt,hw,rfl⟩ Gw
    |none=>obtain⟨w,d,hw⟩:=IS (q:=[I 0,.str (DH l[n].name Nv),.str l[n].value]) (by simp only[DP,MA,true_or,BE,c,AZ.row]);simp only[B9,Nat.reduceLeDiff,↓reduceIte,Bj,i1,Hq.DB hlt,Fk,AZ.row,(f235 _).Cb rfl rfl,AL,AR,AI,L0,c,L1,d,inc];exact Br.next (n+1,w) rfl ⟨hlt,hw,rfl⟩ Gw
   by_cases g:sp=3
   .subst g;by_cases hd:l[n].name=aCV
    .have c:Jp Ŕ=none:=by decide
     obtain⟨w,d,hw⟩:=IS (q:=[I 0,.str Ŕ,.str l[n].value]) (by simp only[DP,MA,hd,or_true,BE,DR,c,AZ.row,Yv,e]);simp only[B9,Nat.reduceLeDiff,↓reduceIte,Bj,i1,Hq.DB hlt,Fk,AZ.row,hd,(AM:¬(3:Int)=2),AL,AN,AR,AI,L0,c,L1,d,inc];exact Br.next (n+1,w) rfl ⟨hlt,hw,rfl⟩ Gw
    .cases c:Jp l[n].name with
     |some x=>obtain⟨w,d,hw⟩:=IS (q:=[I x.1,.str x.2,.str l[n].value]) (by simp only[DP,MA,hd,or_true,BE,DR,c,AZ.row,đ,e]);simp only[B9,Nat.reduceLeDiff,↓reduceIte,Bj,i1,Hq.DB hlt,Fk,AZ.row,hd,(AM:¬(3:Int)=2),AL,AN,AR,AI,L0,c,L1,d,inc];exact Br.next (n+1,w) rfl ⟨hlt,hw,rfl⟩ Gw
     |none=>obtain⟨w,d,hw⟩:=IS (q:=[I 0,.str l[n].name,.str l[n].value]) (by simp only[DP,MA,hd,or_true,BE,DR,c,AZ.row,đ,e]);simp only[B9,Nat.reduceLeDiff,↓reduceIte,Bj,i1,Hq.DB hlt,Fk,AZ.row,hd,(AM:¬(3:Int)=2),AL,AN,AR,AI,L0,c,L1,d,inc];exact Br.next (n+1,w) rfl ⟨hlt,hw,rfl⟩ Gw
   .obtain⟨w,d,hw⟩:=IS (q:=[I 0,.str l[n].name,.str l[n].value]) (by simp only[DP,e,g,or_self,DR,AZ.row]);cases c:Jp l[n].name with
    |some x=>simp only[B9,Nat.reduceLeDiff,↓reduceIte,Bj,i1,Hq.DB hlt,Fk,AZ.row,e,g,AL,AN,AR,AI,L0,c,L1,d,inc];exact Br.next (n+1,w) rfl ⟨hlt,hw,rfl⟩ Gw
    |none=>simp only[B9,Nat.reduceLeDiff,↓reduceIte,Bj,i1,Hq.DB hlt,Fk,AZ.row,e,g,AL,AN,AR,AI,L0,c,L1,d,inc];exact Br.next (n+1,w) rfl ⟨hlt,hw,rfl⟩ Gw
  .have i1:¬(n:Int)<(l.length:Int):=by omega
   rw[A8 GS] at hu;simp only[B9,Nat.reduceLeDiff,↓reduceIte,Bj,i1,AN,AR,AI];exact⟨_,rfl,hu⟩
 obtain⟨r,h',hr,rfl,hu⟩:=OT.ret;exact⟨r,hr,hu⟩
end
end
def BI(bi:Nat)(G:Nat->Prop):Nat->Prop:=λi=>i=bi\/G i
section
variable{h h':Ai}{bi a:Nat}{o c t:Aa}{G G' F:Nat->Prop}{b:BS}{x:Int}{m:Nat}
def EH.aDT(x:EH h G h' G'):EH h (Am.BI bi G) h' (Am.BI bi G'):=⟨x.len,λi hi hn=>x.old i hi λhg=>hn (.inr hg),λi hi=>by
 rcases hi with rfl|hi
 .exact .inl (.inl rfl)
 .rcases x.BI i hi with h|h
  .exact .inl (.inr h)
  .exact .inr h⟩
def BX.aDU{A':Ar}(w:BX h bi a o c t G b)(hp:PW h' G' a A')(x:EH h G h' G'):BX h' bi a o c t G' {b with a:=A'}/\EH h (BI bi G) h' (BI bi G'):=
 ⟨⟨by rw[x.old bi w.lt w.nb];exact w.hb,w.o,w.t,hp,λhg=>by rcases x.BI bi hg with h|h;exact w.nb h;have:=w.lt;omega⟩,x.aDT⟩
def BX.step{A':Ar}{R:Ai->Prop}(w:BX h bi a o c t G b)(d:∀n m ps,PA h a n m ps b.a->∃h' n' m' Ot,R h'/\PA h' a n' m' Ot A'/\EH h (λi=>i∈Fw a n m ps) h' (λi=>i∈Fw a n' m' Ot)):
  ∃h' G',R h'/\BX h' bi a o c t G' {b with a:=A'}/\EH h (BI bi G) h' (BI bi G'):=by
 obtain⟨n,m,ps,g,e⟩:=w.w;obtain⟨h',n',m',Ot,r,w',x⟩:=d n m ps g;have k:G=λi=>i∈Fw a n m ps:=funext λi=>propext (e i);obtain⟨j,f⟩:=w.aDU w'.pw (by rw[k];exact x);exact⟨h',_,r,j,f⟩
def BX.D6(w:BX h bi a o c t G b){u:Ai}:EH h (BI bi G) (h++u) (BI bi G):= .Jn
def aDV{v:Aa}{l:List Int}{f:FuncId}{caps:List Aa}{q:Int->Bool}(hv:GI l v)(hb:l.length<=1000000000)(hf:f<=99999)(hq:∀k∈l,∀u,∃d,B2 cx f (I k::caps) (h++u) (.bool (q k)) (h++u++d)):
  ∃u,B2 cx 256 [v,.func (.func f) [] caps] h (I (BT q 0 l)) (h++u):=by
 have Hq:Bz 1 (l.map CM) v:=hv;have OT:Ev cx 256 [v,.func (.func f) [] caps] h λr h'=>r= I (BT q 0 l)/\∃u,h'=h++u:=by
  unfold Ev;rw[iF];simp only[B9,Hq.GO];refine BM (λk:Nat=>[I 0,I (k:Int)]) (λk h1=>k<=l.length/\BT q 0 l=BT q k (l.drop k)/\∃u,h1=h++u) (λk=>l.length-k) 0 rfl ⟨Bc _,rfl,[],Ax⟩ ?_;rintro k h1 ⟨hk,ha,u,rfl⟩;rcases Bl k l.length with hlt|GS
  .have i1:(k:Int)<(l.length:Int):=by omega
   have g:Bd (h++u) none (.Cu (CM l[k]))=some (I l[k]):=rfl;obtain⟨d,e⟩:=hq _ (Bb hlt) u;rw[Ay hlt,BT] at ha;simp only[abS,↓reduceIte,Cc,i1,Hq.DB hlt,g,hf,e.Ad,CE (Ac:k<9223372036854775807)];rw[C8];refine⟨λh2=>?_,λh2=>?_⟩;.exact⟨_,rfl,by rw[ha,Ag h2],u++d,Ax⟩
   .rw[Af (by simp[h2])] at ha;exact Br.next (k+1) rfl ⟨hlt,ha,u++d,Ax⟩ Ac
  .have i1:¬(k:Int)<(l.length:Int):=by omega
   rw[AV GS,BT] at ha;simp only[abS,↓reduceIte,Cc,i1];exact⟨_,rfl,by rw[ha],u,rfl⟩
 obtain⟨r,h',hr,rfl,u,rfl⟩:=OT.ret;exact⟨u,hr⟩
def zw{l:List Int}{q:Int->Bool}:decide (0<=BT q 0 l)=l.any q:=by
 rcases Gr (p:=q) (l:=l) (k:=0) with⟨h1,h2⟩|⟨n,y,h1,h2,d⟩
 .rw[h1,gu];have:=Lp.1 h2;simpa using this
 .rw[h1,gu];have f:=UC d;have e:=Qy d;rw[Ak Ac,M6];exact⟨y,e,f⟩
def BX.self(w:BX h bi a o c t G b){A':Ar}(e:A'=b.a):BX h bi a o c t G {b with a:=A'}:=by subst e;exact w
open Classical in
def nU{p bf:Int}(w:BX h bi a o c t G b)(ok:BA b)(rm:Cf b m):∃h' G',B2 cx 103 [Pt bi 0,I x,I p,I bf] h (.tuple []) h'/\BX h' bi a o c t G' {b with a:=b.a.HV x p bf}/\EH h (BI bi G) h' (BI bi G'):=by
 obtain⟨K1,V1,d,J,_,_⟩:=UZ w ok rm p;have w1:=w.Jn (u:=d);have X:∀v,Aa.cells (.ptr v)=[.ptr v]:=λ_=>rfl;have IE:∀h2,(∃u,h2=h++u)->∃h' G',(∃s,B2 cx 74 [Pt a 0,I p,I x,I bf] h2 (I s) h')/\BX h' bi a o c t G' {b with a:=b.a.IF p x bf}/\EH h (BI bi G) h' (BI bi G'):=by
  rintro _ ⟨u,rfl⟩;have g:=w.Jn (u:=u);obtain⟨h',G',r,w',x'⟩:=g.step (A':=b.a.IF p x bf) (R:=λh'=>∃s,B2 cx 74 [Pt a 0,I p,I x,I bf] (h++u) (I s) h') (λn m ps Q=>by obtain⟨s,h',Ot,r,wp,P⟩:=Ă Q rm.TD ok.ok (p:=p) (x:=x) (b:=bf);exact⟨h',n,m,Ot,⟨s,r⟩,wp,P⟩)
  exact⟨h',G',r,w',w.D6.trans x'⟩
 by_cases A:(b.a.nd p).kind=1
 .obtain⟨K2,Z,j,r2,_,_⟩:=UZ w1 ok rm x;have g:=w1.Jn (u:=j);by_cases D:(b.a.nd x).kind=4
  .obtain⟨V,W,qz,M⟩:=g.w.pa;obtain⟨K,O,U⟩:=ö (x:=p) M rm.TD (rm.TD.Bm ok.ok p);obtain⟨H,T⟩:=aDV (h:=h++d++j) (f:=194) (caps:=[.Cu [Pt bi 0]]) (q:=λk=>decide ((b.a.nd k).kind=4)) U (rm.TD.Bm ok.ok p) AM (λk _ u=>by have E:=g.Jn (u:=u);obtain⟨K3,Y,S,y,_,_⟩:=UZ E ok rm k;refine⟨S,?_⟩;rw[Ae,fM];simp only[B9,y.Ad])
   have i:B2 cx 192 [K,.func (.func 194) [] [.Cu [Pt bi 0]]] (h++d++j) (.bool ((b.a.nd p).Bm.any λk=>decide ((b.a.nd k).kind=4))) (h++d++j++H):=by rw[Ae,fL,<-zw];simp only[B9,T.Ad]
   have E:=g.Jn (u:=H);by_cases L:∃k∈(b.a.nd p).Bm,(b.a.nd k).kind=4
   .have N:((b.a.nd p).Bm.any λk=>decide ((b.a.nd k).kind=4))=true:=by simpa using L
    rw[N] at i;have z:b.a.HV x p bf=b.a:=by unfold Ar.HV;rw[Ag ⟨A,D,L⟩]
    refine⟨_,G,?_,E.self z,(w.D6.trans w1.D6).trans g.D6⟩;rw[Ae,Qe];simp only[abS,J.Ad,A,r2.Ad,D,g.l0,O.Ad,i.Ad]
   .have N:((b.a.nd p).Bm.any λk=>decide ((b.a.nd k).kind=4))=false:=by rw[aLu];intro k hk;simpa using λe=>L ⟨k,hk,e⟩
    rw[N] at i;have z:b.a.HV x p bf=b.a.IF p x bf:=by unfold Ar.HV;rw[Af (λh=>L h.2.2)]
    obtain⟨h',G',⟨s,y⟩,C,B⟩:=IE (h++d++j++H) ⟨d++j++H,Ax⟩;refine⟨h',G',?_,by rw[z];exact C,B⟩;rw[Ae,Qe];simp only[abS,J.Ad,A,r2.Ad,D,g.l0,O.Ad,i.Ad,E.l0,y.Ad]
  .have z:b.a.HV x p bf=b.a.IF p x bf:=by unfold Ar.HV;rw[Af (λh=>D h.2.1)]
   obtain⟨h',G',⟨s,y⟩,C,B⟩:=IE (h++d++j) ⟨d++j,Ax⟩;refine⟨h',G',?_,by rw[z];exact C,B⟩;rw[Ae,Qe];simp only[abS,J.Ad,A,r2.Ad,D,g.l0,y.Ad]
 .have z:b.a.HV x p bf=b.a.IF p x bf:=by unfold Ar.HV;rw[Af (λh=>A h.1)]
  obtain⟨h',G',⟨s,y⟩,C,B⟩:=IE (h++d) ⟨d,rfl⟩;refine⟨h',G',?_,by rw[z];exact C,B⟩;rw[Ae,Qe];simp only[abS,J.Ad,A,w1.l0,y.Ad]
def aDW(w:BX h bi a o c t G b)(ok:BA b)(rm:Cf b m)(p:Int):∃u,B2 cx 144 [Pt bi 0,I p] h (I (b.L3 p)) (h++u):=by
 obtain⟨n,j,d,f,_,_⟩:=UZ w ok rm p;have w1:=w.Jn (u:=d);unfold BS.L3;by_cases hc:(b.a.nd p).cont=0
 .refine⟨d,?_⟩;rw[Af (by simp[hc]),Ae,Vt];simp only[abS,f.Ad,hc,Cj,Ck,w1.l1];refine⟨λh1=>?_,λh1=>?_⟩;.rw[Ag h1]
  .rw[Af h1]
 .obtain⟨k,i,e,r2,_,_⟩:=UZ w1 ok rm (b.a.nd p).cont;have g:=w1.Jn (u:=e);refine⟨d++e,?_⟩;rw[Ag hc,<-AT,Ae,Vt];simp only[abS,f.Ad,r2.Ad,hc,Cj,g.l1];refine⟨λh1=>?_,λh1=>?_⟩;.rw[Ag h1]
  .rw[Af h1]
def XY(nm:Aj)(av:Aa)(r:List Aa):Prop:=∃n k j i g f e d kI wQ,r=[n,.str nm,k,j,i,g,f,e,av,d,kI,wQ]
def QR:Aa.agg Item.zero.row= .agg [I 0,I 0,S [],ff]:=rfl
variable{nm:Aj}{av:Aa}{l:List AZ}{r:List Aa}{sp p:Int}
def Cf.len{k:Nat}(rm:Cf b k)(hk:3<=k):b.a.len+3<=1000000000:=by have:=rm.n;unfold Ar.len;omega
def rq(w:BX h bi a o c t G b)(ok:BA b)(rm:Cf b (m+3))(hr:XY nm av r)(hv:A6 l av)(hl:E1 l)(hn:nm.length<=1000)(p sp:Int):
  ∃h' G',B2 cx 67 [Pt bi 0,.agg r,I sp,I p] h (.agg (b.Jq nm l sp).row) h'/\BX h' bi a o c t G' (b.E7 nm l sp p)/\EH h (BI bi G) h' (BI bi G'):=by
 obtain⟨O,N,M,L,K,J,H,E,kI,wQ,rfl⟩:=hr;by_cases hs:BS.JP sp
 .obtain⟨D,s,hu⟩:=aIf (h:=h) hv hl.1 sp;have w1:=w.Jn (u:=[.map (ft 11)]);obtain⟨j,r2⟩:=aDW w1 ok rm p;have g:=w1.Jn (u:=j);have hd:=TB ok (p:=p);have i:∀y∈l.map (DP sp),BS.JP y.Be:=by intro y hy;obtain⟨z,_,rfl⟩:=A4.1 hy;exact sP
  obtain⟨h',G',⟨f,_⟩,C,A⟩:=g.step (A':=b.a.elem (b.L3 p) sp (BS.MW sp nm) (l.map (DP sp))) (R:=λh'=>B2 cx 143 [Pt a 0,I (b.L3 p),I sp,.str (BS.MW sp nm),D] (h++[.map (ft 11)]++j) (.tuple [I (b.a.len+1),I 0]) h'/\True) (λn m ps B=>by obtain⟨h',n',m',Ot,r,wp,v,_⟩:=aDF B rm.TD (rm.len Ac) hd hs hu (by rw[Aw];have:=hl.1;omega) i (nm:=BS.MW sp nm);exact⟨h',n',m',Ot,⟨r,trivial⟩,wp,v⟩)
  have d:=f96 (h:=h') hu (λy hy=>by obtain⟨z,hz,rfl⟩:=A4.1 hy;rw[cz];have:=(hl.2 z hz).2;have:AJ=140737488355328:=rfl;omega) (by rw[Aw];have:=hl.1;omega) sp (BS.MW sp nm);have em:Az (.C2 [I 0,I 0,S [],ff] [(0,1),(1,1),(2,1),(3,1)]) [I (b.a.len+1),I sp,.str (BS.MW sp nm),.bool (Iu sp (BS.MW sp nm) (l.map (DP sp)))]=some (.agg (b.Jq nm l sp).row):=by rw[bt];unfold BS.Jq;rw[Ag hs]
  refine⟨h',G',?_,by unfold BS.E7;rw[Ag hs];exact C,(w.D6.trans w1.D6).trans A⟩;have q:¬sp<0:=by have:=hs.1;omega
  have k:¬7<sp:=by have:=hs.2;omega
  have hlen:=λ(y:Item)=>@Item.DW y;rw[Ae,cZ];by_cases h2:sp=2
  .have e:BS.MW sp nm=DH nm Nu:=by unfold BS.MW;rw[Ag h2]
   rw[e] at f d em;subst h2;simp only[abS,↓reduceIte,Bj,Jw,(Ie w).Ad,q,k,C0,s.Ad,DM,Ck,(f151 nm).Cb rfl rfl,w1.l0,r2.Ad,g.l0,Dj,f.Ad,Cj,d.Ad,em,hlen]
  .have e:BS.MW sp nm=nm:=by unfold BS.MW;rw[Af h2]
   rw[e] at f d em;simp only[abS,↓reduceIte,Bj,Jw,(Ie w).Ad,q,k,C0,s.Ad,h2,w1.l0,r2.Ad,g.l0,Dj,f.Ad,Cj,Ck,d.Ad,em,hlen]
 .refine⟨h,G,?_,by unfold BS.E7;rw[Af hs];exact w,.refl⟩;have e:b.Jq nm l sp=Item.zero:=by unfold BS.Jq;rw[Af hs]
  rw[e,QR,Ae,cZ];unfold BS.JP at hs;by_cases h1:sp<0;.simp only[abS,↓reduceIte,Bj,(Ie w).Ad,h1,DM]
  .simp only[abS,↓reduceIte,Bj,(Ie w).Ad,h1,C0,(Ac:7<sp),DM]
def BL{k:Nat}{v:Aa}:EH h (BI bi G) (put h bi k v) (BI bi G):=⟨by rw[LA];exact Ab _,λi _ hn=>CU λe=>hn (.inl e),λ_ h=> .inl h⟩
def BX.put{k:Nat}{v o' c' t':Aa}{b':BS}(w:BX h bi a o c t G b)(e:(PG a b o c t).set k v=PG a b' o' c' t')(ea:b'.a=b.a)(ho:Dy b'.AA o')(ht:SE b'.tm t'):BX (Am.put h bi k v) bi a o' c' t' G b':=
 ⟨by rw[HQ w.hb,e];exact AD w.lt,ho,ht,by rw[ea];exact w.w.E4 λi hi=>CU λe=>w.nb (e▸hi),w.nb⟩
def BX.Mo{u:Aa}{l:List Item}(w:BX h bi a o c t G b)(hu:Dy l u):BX (Am.put h bi 2 u) bi a u c t G {b with AA:=l}:=w.put rfl rfl hu w.t
def BX.PH{u:Aa}{l:List Ci}(w:BX h bi a o c t G b):BX (Am.put h bi 3 u) bi a o u t G {b with AY:=l}:=w.put rfl rfl w.o w.t
def BX.st{k:Nat}{v v0:Aa}(w:BX h bi a o c t G b)(hk:(PG a b o c t)[k]?=some v0)(hv:v.cells=[v]):CK h 1 (Pt bi k) v=some (Am.put h bi k v):=At.store (v:=v0) ⟨_,w.hb,hk⟩ hv
variable{nm:Aj}{av:Aa}{l:List AZ}{r:List Aa}{sp p:Int}
def aIg(w:BX h bi a o c t G b)(ok:BA b)(rm:Cf b (m+4))(hr:XY nm av r)(hv:A6 l av)(hl:E1 l)(hn:nm.length<=1000)(sp:Int):
  ∃h' o' G',B2 cx 109 [Pt bi 0,.func (.func 67) [Pt bi 0] [],.agg r,I sp] h (I (b.Nz sp)) h'/\BX h' bi a o' c t G' (b.DY nm l sp)/\EH h (BI bi G) h' (BI bi G'):=by
 obtain⟨v,q⟩:=zu w ok rm 0;have w1:=w.Jn (u:=v);obtain⟨h2,B,r2,n,j⟩:=rq (m:=m+1) w1 ok (rm.le Ac) hr hv hl hn (b.place 0).1 sp;have Hn:=hr;obtain⟨M,L,K,J,H,E,D,C,kI,wQ,rfl⟩:=hr;have ho:=rm.AA;by_cases hs:BS.JP sp
 .have f:=oh (nm:=nm) (at_:=l) (p:=(b.place 0).1) ok hs;have uH:=LC (m:=m+1) (nm:=nm) (sp:=sp) (p:=(b.place 0).1) (rm.le Ac) hl;have Ć:(b.Jq nm l sp).node=b.a.len+1:=by unfold BS.Jq;rw[Ag hs]
  have kE:¬(b.a.len+1=0):=by unfold Ar.len;omega
  have QD:(b.E7 nm l sp (b.place 0).1).AA=b.AA:=by unfold BS.E7;rw[Ag hs]
  obtain⟨z,A,y,k,s⟩:=nU (x:=b.a.len+1) (p:=(b.place 0).1) (bf:=(b.place 0).2) n f uH;obtain⟨v4,d,g⟩:=f95 k.sO (by simp only[QD];omega) (b.Jq nm l sp);refine⟨Am.put z bi 2 v4,v4,A,?_,?_,((w.D6.trans j).trans s).trans BL⟩
  .have i:b.Nz sp=b.a.len+1:=by unfold BS.Nz;rw[Ag hs]
   rw[Ae,Vo,i];simp only[abS,Nat.reduceAdd,↓reduceIte,Cc,Jw,q.Ad,(AM:(67:Nat)<=99999),r2.Ad,Ć,kE,Cj,y.Ad];have e:=@Item.UR (b.Jq nm l sp);rw[Ć] at e;rw[<-e] at d;simp only[e] at d⊢;simp only[d.Ad,B9]
  .have:=k.Mo g;unfold BS.DY;rw[Ag hs];exact this
 .refine⟨h2,o,B,?_,?_,w.D6.trans j⟩
  .have e:b.Jq nm l sp=Item.zero:=by unfold BS.Jq;rw[Af hs]
   have i:b.Nz sp=0:=by unfold BS.Nz;rw[Af hs]
   rw[e,QR] at r2;rw[Ae,Vo,i];simp only[abS,Nat.reduceAdd,↓reduceIte,Cc,Jw,q.Ad,(AM:(67:Nat)<=99999),r2.Ad,Cj,Ck]
  .have:b.DY nm l sp=b.E7 nm l sp (b.place 0).1:=by unfold BS.DY BS.E7;rw[Af hs,Af hs]
   rw[this];exact n
def aAb(w:BX h bi a o c t G b)(ok:BA b)(rm:Cf b (m+4))(hr:XY nm av r)(hv:A6 l av)(hl:E1 l)(hn:nm.length<=1000)(sp:Int):
  ∃h' o' G',B2 cx 49 [Pt bi 0,.agg r,I sp] h (I (b.Nz sp)) h'/\BX h' bi a o' c t G' (b.DY nm l sp)/\EH h (BI bi G) h' (BI bi G'):=by
 obtain⟨h',o',G',d,w',x'⟩:=aIg w ok rm hr hv hl hn sp;refine⟨h',o',G',?_,w',x'⟩;obtain⟨q,n,k,j,i,g,f,e,kI,wQ,rfl⟩:=hr;rw[Ae,sZ,t49];simp only[abS,(Ie w).Ad,d.Ad]
def di(w:BX h bi a o c t G b)(ok:BA b)(rm:Cf b (m+4))(hr:XY nm av r)(hv:A6 l av)(hl:E1 l)(hn:nm.length<=1000):
  ∃h' o' G',B2 cx 47 [Pt bi 0,.agg r] h (I (b.a.len+1)) h'/\BX h' bi a o' c t G' (b.DY nm l 1)/\EH h (BI bi G) h' (BI bi G'):=by
 obtain⟨h',o',G',d,w',x'⟩:=aAb w ok rm hr hv hl hn 1;refine⟨h',o',G',?_,w',x'⟩;have e:b.Nz 1=b.a.len+1:=by unfold BS.Nz;rw[Ag Lt]
 rw[e] at d;obtain⟨s,q,n,k,j,i,g,f,kI,wQ,rfl⟩:=hr;rw[Ae,sY];simp only[B9,d.Ad]
end
def Dn(l:List Ci)(v:Aa):Prop:=∃fs:List De,fs.map (·.c)=l/\EP fs v
def Ut{U Z:Type}{f:U->Z}{q:Z->Bool}{l:List U}:AW q (l.map f)=AW (λx=>q (f x)) l:=by unfold AW;rw[<-S3,List.findIdx?_map,Aw];rfl
def uI{U Z:Type}{f:U->Z}{l:List U}{k:Nat}:(Bv l k).map f=Bv (l.map f) k:=by unfold Bv;simp
def zx{fs:List De}:since fs=sF (fs.map (·.c)):=by unfold since sF;rw[Ut];rfl
def XZ{n:Int}{fs:List De}:Kp n fs=Fy n (fs.map (·.c)):=by unfold Kp Fy;rw[Ut];rfl
def xZ{nm:Aj}{fs:List De}:QL nm fs=E3 nm (fs.map (·.c)):=by
 unfold QL E3;rw[<-S3];generalize fs.reverse=r;induction r with
 |nil=>rfl
 |cons x r ih=>simp only[A9,xB,Xv,ih,Aw]
def aDX{e:Ci}{fs:List De}:YX e fs=xH e (fs.map (·.c)).reverse:=by
 unfold YX;rw[<-S3];generalize fs.reverse=r;induction r with
 |nil=>rfl
 |cons x r ih=>simp only[A9,yt,xH,ih]
def aDY{e:Ci}{fs:List De}:Rd e fs=nA e (fs.map (·.c)).reverse:=by
 unfold Rd;rw[<-S3];generalize fs.reverse=r;induction r with
 |nil=>rfl
 |cons x r ih=>simp only[A9,rZ,nA,ih,Aw]
def r_{e:Ci}{d:De}{fs:List De}(he:d.c=e):(Re e fs++[d]).map (·.c)=nB e (fs.map (·.c)):=by
 unfold Re nB;rw[aDX,aDY,BW,aJU,he];split;.rw[uI]
 .rfl
def i6{fs:List De}:(fs.take (HF fs)).map (·.c)=Fz (fs.map (·.c)):=by unfold Fz HF;rw[GM,zx]
def zy{l:List Ci}{fs:List De}(e:fs.map (·.c)=l)(h:∀x∈l,x.As.length<=1000):∀x∈fs,gj x:=by intro x hx;have:=h x.c (by rw[<-e];exact A4.2 ⟨x,hx,rfl⟩);unfold gj;omega
section
variable{h h':Ai}{bi a:Nat}{o c t:Aa}{G G' F:Nat->Prop}{b:BS}{x:Int}{m:Nat}
variable{nm:Aj}{av:Aa}{l:List AZ}{r:List Aa}{sp p:Int}
def aDZ(w:BX h bi a o c t G b)(hc:Dn b.AY c)(ok:E0 b)(rm:Cf b (m+5))(hr:XY nm av r)(hv:A6 l av)(hl:E1 l)(hn:nm.length<=1000):
  ∃h' o' c' G',B2 cx 50 [Pt bi 0,.agg r] h (I (b.a.len+1)) h'/\BX h' bi a o' c' t G' (b.FY nm l)/\Dn (b.FY nm l).AY c'/\EH h (BI bi G) h' (BI bi G'):=by
 obtain⟨h1,j,k,i,w1,g⟩:=di (m:=m+1) w ok (rm.le Ac) hr hv hl hn;obtain⟨fs,d,hf⟩:=hc;have ha:=rm.AY;have Iq:fs.length=b.AY.length:=by rw[<-d,Aw]
 obtain⟨u,n,lX,r2,hu⟩:=f30 (h:=h1) (id:=bi) (o:=3) (l:=fs) ⟨c,w1.pH,hf⟩ Ac (zy d λx hx=>((rm.DD x hx).2).1) (e:=⟨⟨b.a.len+1,nm,l⟩,av,hv⟩) (by unfold gj;have:=hl.1;simp only;omega);refine⟨_,j,u,k,?_,w1.PH (u:=u),?_,g.trans BL⟩
 .obtain⟨C,B,A,z,y,v,s,q,kI,wQ,rfl⟩:=hr;have kE:¬(b.a.len+1=0):=by unfold Ar.len;omega
  have f:B2 cx 110 [Pt bi 3,.agg [I (b.a.len+1),.str nm,av]] h1 (.tuple []) (put h1 bi 3 u):=r2;have vt:av.cells=[av]:=Bz.cells hv;rw[Ae,tC];simp only[abS,Nat.reduceLeDiff,↓reduceIte,Bj,i.Ad,kE,Cj,vt,f.Ad]
 .refine⟨_,?_,hu⟩;rw[r_ lX,d];unfold BS.FY;simp only;rw[EA]
end
def aD0:∀x:Fin 64,(BitVec.ofInt 8 192|||BitVec.ofInt 8 (x.val:Int)).toNat=192+x.val:=AM
def aD1:∀x:Fin 32,(BitVec.ofInt 8 224|||BitVec.ofInt 8 (x.val:Int)).toNat=224+x.val:=AM
def aD2:∀x:Fin 16,(BitVec.ofInt 8 240|||BitVec.ofInt 8 (x.val:Int)).toNat=240+x.val:=AM
def aD3:∀x:Fin 64,(BitVec.ofInt 8 128|||BitVec.ofInt 8 (x.val:Int)).toNat=128+x.val:=AM
def aD4:∀x:Fin 256,(BitVec.ofInt 8 (x.val:Int)&&& BitVec.ofInt 8 63).toNat=x.val%64:=AM
def yA{a b:Int}:Az (.int .or) [.int .u8 a,.int .u8 b]=some (.int .u8 (IntKind.u8.wrap (BitVec.ofInt 8 a|||BitVec.ofInt 8 b).toNat)):=rfl
def aAc{a b:Int}:Az (.int .and) [.int .u8 a,.int .u8 b]=some (.int .u8 (IntKind.u8.wrap (BitVec.ofInt 8 a&&& BitVec.ofInt 8 b).toNat)):=rfl
def sd{x:Nat}(h:x<64):Az (.int .or) [.int .u8 192,.int .u8 (x:Int)]=some (.int .u8 ((192+x:Nat):Int)):=by rw[yA,aD0 ⟨x,h⟩,IntKind.wrap_u8];congr 2;simp only;omega
def nV{x:Nat}(h:x<32):Az (.int .or) [.int .u8 224,.int .u8 (x:Int)]=some (.int .u8 ((224+x:Nat):Int)):=by rw[yA,aD1 ⟨x,h⟩,IntKind.wrap_u8];congr 2;simp only;omega
def sg{x:Nat}(h:x<16):Az (.int .or) [.int .u8 240,.int .u8 (x:Int)]=some (.int .u8 ((240+x:Nat):Int)):=by rw[yA,aD2 ⟨x,h⟩,IntKind.wrap_u8];congr 2;simp only;omega
def KW{x:Nat}(h:x<64):Az (.int .or) [.int .u8 128,.int .u8 (x:Int)]=some (.int .u8 ((128+x:Nat):Int)):=by rw[yA,aD3 ⟨x,h⟩,IntKind.wrap_u8];congr 2;simp only;omega
def KX{x:Nat}(h:x<256):Az (.int .and) [.int .u8 (x:Int),.int .u8 63]=some (.int .u8 ((x%64:Nat):Int)):=by rw[aAc,aD4 ⟨x,h⟩,IntKind.wrap_u8];congr 2;simp only;omega
def VR{n:Nat}:Az (.int .shr) [.int .i32 (n:Int),.int .u64 6]=some (.int .i32 ((n/64:Nat):Int)):=by rw[show Az (.int .shr) [.int .i32 (n:Int),.int .u64 6]=some (.int .i32 ((n:Int).fdiv 64)) from rfl,PT _ Ac];rfl
def X0{n:Nat}:Az (.int .shr) [.int .i32 (n:Int),.int .u64 12]=some (.int .i32 ((n/4096:Nat):Int)):=by rw[show Az (.int .shr) [.int .i32 (n:Int),.int .u64 12]=some (.int .i32 ((n:Int).fdiv 4096)) from rfl,PT _ Ac];rfl
def sj{n:Nat}:Az (.int .shr) [.int .i32 (n:Int),.int .u64 18]=some (.int .i32 ((n/262144:Nat):Int)):=by rw[show Az (.int .shr) [.int .i32 (n:Int),.int .u64 18]=some (.int .i32 ((n:Int).fdiv 262144)) from rfl,PT _ Ac];rfl
def X1{k:IntKind}{n:Nat}:Az (.conv .u8) [.int k (n:Int)]=some (.int .u8 ((n%256:Nat):Int)):=by rw[Vf,IntKind.wrap_u8];congr 2
def i7{n:Int}:Az (.conv .u32) [.int .i32 n]=some (.int .u32 (n%4294967296)):=by rw[Vf,IntKind.wrap_u32]
def wb{n:Nat}(h:n<256):((UInt8.ofNat n).toNat:Int)=(n:Int):=by rw[UInt8.toNat_ofNat'];congr 1;omega
def wc(b:UInt8):Aa:= .int .u8 (b.toNat:Int)
def Ks{h:Ai}{bs:Aj}(hb:bs≠[])(hl:bs.length<=8):FN h 1 1 .slnil (.sl 1 (CX bs))=some (h++[.cells (bs.map wc)],.CT h.length 0 bs.length 1):=by
 have Iq:∀bs:Aj,(CX bs).flatten=bs.map wc:=by
  intro bs;induction bs with
  |nil=>rfl
  |cons c bs ih=>show[wc c]++(CX bs).flatten=_;rw[ih];rfl
 cases bs with
 |nil=>exact absurd rfl hb
 |cons c bs=>
  have hm:AJ=140737488355328:=rfl;have hlen:(CX (c::bs)).length=(c::bs).length:=by simp[CX]
  have e:CX (c::bs)=[.int .u8 c.toNat]::CX bs:=rfl;have a:GX h 1 (.sl 1 (CX (c::bs)))=some (CX (c::bs)):=by simp[GX]
  unfold FN;rw[a,e];simp only
  rw[<-e,Ag (by rw[hlen];omega),Iq,hlen]
def aIi{h:Ai}(r:Int)(hr: -2147483648<=r/\r<=2147483647):B2 cx 114 [.slnil,.int .i32 r] h (.CT h.length 0 (L4 r).length 1) (h++[.cells ((L4 r).map wc)]):=by
 have one:∀{a:Nat} (h1:a<256),Az (.DX 1) [.int .u8 (a:Int)]=some (.sl 1 (CX [UInt8.ofNat a])):=by intro a h1;simp only[CX,A9,Dc,wb h1];rfl
 have K9:∀{a b:Nat} (h1:a<256) (h2:b<256),Az (.DX 1) [.int .u8 (a:Int),.int .u8 (b:Int)]=some (.sl 1 (CX [UInt8.ofNat a,UInt8.ofNat b])):=by intro a b h1 h2;simp only[CX,A9,Dc,wb h1,wb h2];rfl
 have Zp:∀{a b c:Nat} (h1:a<256) (h2:b<256) (d:c<256),Az (.DX 1) [.int .u8 (a:Int),.int .u8 (b:Int),.int .u8 (c:Int)]=some (.sl 1 (CX [UInt8.ofNat a,UInt8.ofNat b,UInt8.ofNat c])):=by intro a b c h1 h2 d;simp only[CX,A9,Dc,wb h1,wb h2,wb d];rfl
 have four:∀{a b c f:Nat} (h1:a<256) (h2:b<256) (d:c<256) (i:f<256),Az (.DX 1) [.int .u8 (a:Int),.int .u8 (b:Int),.int .u8 (c:Int),.int .u8 (f:Int)]=some (.sl 1 (CX [UInt8.ofNat a,UInt8.ofNat b,UInt8.ofNat c,UInt8.ofNat f])):=by intro a b c f h1 h2 d i;simp only[CX,A9,Dc,wb h1,wb h2,wb d,wb i];rfl
 have Ĝ:Az (.DX 1) [.int .u8 239,.int .u8 191,.int .u8 189]=some (.sl 1 (CX [239,191,189])):=rfl;rw[Ae,dR];simp only[B9,i7];by_cases h0:0<=r
 .obtain⟨n,rfl⟩:=S2 h0;have em:(n:Int)%4294967296=(n:Int):=Ac;rw[em];by_cases q:n<128
  .have e:L4 (n:Int)=[UInt8.ofNat n]:=by unfold L4;rw[Ag Ac];rfl
   have j:n%256=n:=Ac;rw[e];simp only[B9,YU,(Ac:(n:Int)<=127),X1,j,one (Ac:n<256),Ks (bs:=[UInt8.ofNat n]) Ax Ax]
  .have aAd:B2 cx 203 [.slnil,.int .i32 (n:Int)] h (.CT h.length 0 (L4 (n:Int)).length 1) (h++[.cells ((L4 (n:Int)).map wc)]):=by
    rw[Ae,VJ];simp only[B9,i7,em];by_cases p:n<2048
    .have e:L4 (n:Int)=[UInt8.ofNat (192+n/64),UInt8.ofNat (128+n%64)]:=by unfold L4;rw[Af Ac,Ag Ac];rfl
     rw[e];have a1:n/64%256=n/64:=Ac;have a2:n%256%64=n%64:=Ac;simp only[B9,YU,(Ac:(n:Int)<=2047),VR,X1,a1,sd (Ac:n/64<64),KX (Ac:n%256<256),a2,KW (Ac:n%64<64),K9 (Ac:192+n/64<256) (Ac:128+n%64<256),Ks (bs:=[UInt8.ofNat (192+n/64),UInt8.ofNat (128+n%64)]) Ax Ax]
    .by_cases o:n<65536/\¬(55296<=n/\n<57344)
     .have e:L4 (n:Int)=[UInt8.ofNat (224+n/4096),UInt8.ofNat (128+n/64%64),UInt8.ofNat (128+n%64)]:=by unfold L4;rw[Af Ac,Af Ac,Ag Ac];rfl
      rw[e];have a1:n/4096%256=n/4096:=Ac;have a2:n/64%256%64=n/64%64:=Ac;have a3:n%256%64=n%64:=Ac;have g:=Ks (h:=h) (bs:=[UInt8.ofNat (224+n/4096),UInt8.ofNat (128+n/64%64),UInt8.ofNat (128+n%64)]) Ax Ax;have t3:=Zp (Ac:224+n/4096<256) (Ac:128+n/64%64<256) (Ac:128+n%64<256);by_cases m:n<55296;.simp only[abS,(Ac:¬(n:Int)<=2047),(Ac:(n:Int)<55296),VR,X0,X1,a1,nV (Ac:n/4096<32),KX (Ac:n/64%256<256),a2,KW (Ac:n/64%64<64),KX (Ac:n%256<256),a3,KW (Ac:n%64<64),t3,g]
      .simp only[abS,(Ac:¬(n:Int)<=2047),(Ac:¬(n:Int)<55296),(Ac:(57343:Int)<n),(Ac:(n:Int)<=65535),VR,X0,X1,a1,nV (Ac:n/4096<32),KX (Ac:n/64%256<256),a2,KW (Ac:n/64%64<64),KX (Ac:n%256<256),a3,KW (Ac:n%64<64),t3,g]
     .by_cases l:65536<=n/\n<=1114111
      .have e:L4 (n:Int)=[UInt8.ofNat (240+n/262144),UInt8.ofNat (128+n/4096%64),UInt8.ofNat (128+n/64%64),UInt8.ofNat (128+n%64)]:=by unfold L4;rw[Af Ac,Af Ac,Af Ac,Ag Ac];rfl
       rw[e];have a0:n/262144%256=n/262144:=Ac;have a1:n/4096%256%64=n/4096%64:=Ac;have a2:n/64%256%64=n/64%64:=Ac;have a3:n%256%64=n%64:=Ac;have g:=Ks (h:=h) (bs:=[UInt8.ofNat (240+n/262144),UInt8.ofNat (128+n/4096%64),UInt8.ofNat (128+n/64%64),UInt8.ofNat (128+n%64)]) Ax Ax;have t4:=four (Ac:240+n/262144<256) (Ac:128+n/4096%64<256) (Ac:128+n/64%64<256) (Ac:128+n%64<256);simp only[abS,(Ac:¬(n:Int)<=2047),(Ac:¬(n:Int)<55296),(Ac:(57343:Int)<n),(Ac:¬(n:Int)<=65535),(Ac:(65535:Int)<n),(Ac:(n:Int)<=1114111),VR,X0,sj,X1,a0,sg (Ac:n/262144<16),KX (Ac:n/4096%256<256),a1,KW (Ac:n/4096%64<64),KX (Ac:n/64%256<256),a2,KW (Ac:n/64%64<64),KX (Ac:n%256<256),a3,KW (Ac:n%64<64),t4,g]
      .have e:L4 (n:Int)=[239,191,189]:=by unfold L4;rw[Af Ac,Af Ac,Af Ac,Af Ac]
       rw[e];have g:=Ks (h:=h) (bs:=[239,191,189]) Ax Ax;by_cases k:n<65536;.simp only[abS,(Ac:¬(n:Int)<=2047),(Ac:¬(n:Int)<55296),(Ac:¬(57343:Int)<n),(Ac:¬(65535:Int)<n),Ĝ,g]
       .simp only[abS,(Ac:¬(n:Int)<=2047),(Ac:¬(n:Int)<55296),(Ac:(57343:Int)<n),(Ac:¬(n:Int)<=65535),(Ac:(65535:Int)<n),(Ac:¬(n:Int)<=1114111),Ĝ,g]
   simp only[abS,(Ac:¬(n:Int)<=127),aAd.Ad]
 .have e:L4 r=[239,191,189]:=by unfold L4;rw[Af Ac,Af Ac,Af Ac,Af Ac]
  have g:=Ks (h:=h) (bs:=[239,191,189]) Ax Ax;have aAd:B2 cx 203 [.slnil,.int .i32 r] h (.CT h.length 0 (L4 r).length 1) (h++[.cells ((L4 r).map wc)]):=by rw[e,Ae,VJ];simp only[abS,i7,(Ac:¬(r%4294967296)<=2047),(Ac:¬(r%4294967296)<55296),(Ac:(57343:Int)<r%4294967296),(Ac:¬(r%4294967296)<=65535),(Ac:(65535:Int)<r%4294967296),(Ac:¬(r%4294967296)<=1114111),Ĝ,g]
  simp only[abS,(Ac:¬(r%4294967296)<=127),aAd.Ad]
def X2(r:Int):(L4 r).length<=4:=by unfold L4;split<;>(try split)<;>(try split)<;>(try split)<;>simp
def sk{l:List Int}{bf:Int}(hb:bf≠0->bf∈l):∃i,i<=l.length/\(bf=0->i=l.length)/\(bf≠0->BT (λy=>decide (bf=y)) 0 l=(i:Int))/\Tz l bf=if i=0 then none else l[i-1]?:=by
 by_cases h0:bf=0
 .refine⟨l.length,Ab _,λ_=>rfl,λh=>absurd h0 h,?_⟩;unfold Tz;rw[Ag h0,Qz];split;.rename_i h;rw[DQ Ac]
  .rfl
 .obtain⟨k,j,e,g,d,f⟩:=SB (hb h0);refine⟨k,Ac,λh=>absurd h h0,λ_=>e,?_⟩;unfold Tz;rw[Af h0,d,Qz,AB,Cx Ac];split;.rename_i h;subst h;simp
  .rw[Cg];rw[Ag Ac]
def yB{s u:Aj}(h:s.length+u.length<=2000000000):Az (.str .add) [.str s,.str u]=some (.str (s++u)):=by have:s.length+u.length<=9223372036854775807:=Ac;simp[Az,kN,this]
def Z8:∀s:Aj,(CX s).flatten=s.map wc
 |[]=>rfl
 |c::s=>by show[wc c]++(CX s).flatten=_;rw[Z8 s];rfl
section
variable{h h':Ai}{bi a:Nat}{o c t:Aa}{G G' F:Nat->Prop}{b:BS}{x:Int}{m:Nat}
variable{nm:Aj}{av:Aa}{l:List AZ}{r:List Aa}{sp p:Int}
def yC{k d:Int}{s:Aj}(ok:E0 b)(rm:Cf b (m+1))(hk:k=5\/k=6)(hd:b.a.has d/\(b.a.nd d).kind=1)(hs:s.length<=100000):E0 {b with a:=b.a.add {kind:=k,Cl:=d,data:=s}}/\Cf {b with a:=b.a.add {kind:=k,Cl:=d,data:=s}} m:=
 ⟨ok.Iw (cR ok.ok (by unfold Ar.len;omega) hd hk) Xy,rm.ID (k:=1) (KU (Bc _) hs)⟩
def aD5(w:BX h bi a o c t G b)(ok:E0 b)(rm:Cf b (m+5))(r:Int)(hr: -2147483648<=r/\r<=2147483647):
  ∃h' G',B2 cx 51 [Pt bi 0,.int .i32 r] h (.tuple []) h'/\BX h' bi a o c t G' (b.Mm r)/\EH h (BI bi G) h' (BI bi G'):=by
 obtain⟨f,D⟩:=zu w ok rm 0;have hbf:=oe (b:=b) (t:=0);have w1:=w.Jn (u:=f);unfold BS.Mm;generalize(b.place 0).1=p at*;generalize(b.place 0).2=bf at*;obtain⟨K,V,d,r2,X,_⟩:=UZ w1 ok rm p;have Z:=w1.Jn (u:=d);have x2:EH h (BI bi G) (h++f++d) (BI bi G):=w.D6.trans w1.D6;unfold BS.Oe;by_cases hk:(b.a.nd p).kind=4\/(b.a.nd p).kind=2;rotate_left
 .refine⟨_,G,?_,?_,x2⟩;.have k4:¬(b.a.nd p).kind=4:=λe=>hk (.inl e);have k2:¬(b.a.nd p).kind=2:=λe=>hk (.inr e);rw[Ae,TH];simp only[abS,(Ie w).Ad,D.Ad,r2.Ad,Cj,k4,k2]
  .rw[Af hk];exact Z
 have hp:b.a.has p:=by apply Qw;intro h;rw[L2 h] at hk;simp at hk
 rw[Ag hk];obtain⟨i,hi,þ,vz,hpv⟩:=sk (l:=(b.a.nd p).Bm) (bf:=bf) (λh=>by have:=hbf h;have h2:=(ok.ok.GH bf this.1 (by rw[this.2];have:=hp.1;omega)).2;rwa [this.2] at h2);rw[hpv];have Zq:=rm.TD.Bm ok.ok p;have H:=ź (h:=h++f++d) (x:=bf) X.Rm Zq;have g:=aIi (h:=h++f++d) r hr;have lG:=X2 r;generalize hs:L4 r=s at*;have f3:KK (h++f++d++[.cells (s.map wc)]) (.CT (h++f++d).length 0 s.length 1)=some (h++f++d++[.Dw],.sl 1 (CX s)):=by have Iq:=Z8 s;have:=Nt (h:=h++f++d++[.cells (s.map wc)]) (id:=(h++f++d).length) (z:=1) (Av:=CX s) (by intro q hq;obtain⟨y,_,rfl⟩:=A4.1 hq;rfl) (by rw[Iq];simp);rw[show(CX s).length=s.length by simp[CX]] at this;rw[this];congr 2;rw[B0 _ _ (Ab _),Eb];rfl
 have b3:Az .YB [.sl 1 (CX s)]=some (.str s):=by simp[Az,aP,Xf]
 have A:=Z.Jn (u:=[.Dw]);have x3:EH h (BI bi G) (h++f++d++[.Dw]) (BI bi G):=x2.trans Z.D6;have sm:=ok.ok.Cl p hp;have new:∀h3,(∃u,h3=h++f++d++[.Dw]++u)->∃h' J G',B2 cx 116 [Pt a 0,I (b.a.nd p).Cl,.str s] h3 (.tuple [I (b.a.len+1),I 0]) J/\B2 cx 103 [Pt bi 0,I (b.a.len+1),I p,I bf] J (.tuple []) h'/\BX h' bi a o c t G' {b with a:=(b.a.add {kind:=5,Cl:=(b.a.nd p).Cl,data:=s}).HV (b.a.len+1) p bf}/\EH h (BI bi G) h' (BI bi G'):=by
  rintro _ ⟨u,rfl⟩;have w4:=A.Jn (u:=u);obtain⟨J,G4,⟨C,_⟩,w5,x5⟩:=w4.step (A':=b.a.add (L8 5 (b.a.nd p).Cl s).x) (R:=λh'=>B2 cx 116 [Pt a 0,I (b.a.nd p).Cl,.str s] (h++f++d++[.Dw]++u) (.tuple [I (b.a.len+1),I 0]) h'/\True) (λn m ps S=>by obtain⟨h',r,wp,o1,l1⟩:=aH1 (s:=s) S rm.TD (by have:=rm.n;unfold Ar.len;omega) sm;exact⟨h',_,_,_,⟨r,trivial⟩,wp,S.Qj rfl o1 l1⟩)
  obtain⟨ok5,rm5⟩:=yC (m:=m) (k:=5) (s:=s) ok (rm.le Ac) (.inl rfl) sm Ac;obtain⟨h',G',B,N,L⟩:=nU (x:=b.a.len+1) (p:=p) (bf:=bf) w5 ok5.ba rm5;exact⟨h',J,G',C,B,N,(x3.trans A.D6).trans (x5.trans L)⟩
 have kl:=(X.Rm (h:=h++f++d)).len;have Qp:i<=1000000000:=Ac;by_cases hz:i=0
 .subst hz;obtain⟨h',J,G',C,B,N,L⟩:=new (h++f++d++[.Dw]) ⟨[],Ax⟩;simp only[↓reduceIte];refine⟨h',G',?_,N,L⟩;rw[Ae,TH];rcases hk with hk|hk<;>by_cases h0:bf=0
  all_goals first|(rw[<-þ h0] at kl;simp only[abS,(Ie w).Ad,D.Ad,r2.Ad,hk,Cj,Ck,(AM:¬(2:Int)=4),kl,A3 h0,g.Ad,f3,b3,(AM:¬(0:Int)<((0:Nat):Int)),A.l0,C.Ad,Ck,B.Ad];done)|(rw[vz h0] at H;simp only[abS,(Ie w).Ad,D.Ad,r2.Ad,hk,Cj,Ck,(AM:¬(2:Int)=4),kl,h0,g.Ad,f3,b3,(AM:¬(0:Int)<((0:Nat):Int)),A.l0,C.Ad,Ck,B.Ad,H.Ad])
 .obtain⟨j,rfl⟩:∃j,i=j+1:=⟨i-1,Ac⟩;have hj:j<(b.a.nd p).Bm.length:=Ac;rw[Af hz,Lq,Au hj];simp only
  have ht:=ok.ok.MU p hp _ (Bb hj);obtain⟨q,Q,Y⟩:=(X.Rm (h:=h++f++d++[.Dw])).at_ j hj;obtain⟨K7,V7,T,W,_,_⟩:=UZ A ok rm (b.a.nd p).Bm[j];have M:=A.Jn (u:=T);obtain⟨q',P,O⟩:=(X.Rm (h:=h++f++d++[.Dw]++T)).at_ j hj;rw[Q,Bx] at P;subst P;have U:Az (.int .sub) [I ((j+1:Nat):Int),I 1]=some (I (j:Int)):=by have:=MV (n:=j+1) Ac Ac;simpa using this
  generalize hte:(b.a.nd p).Bm[j]=v at*;by_cases E:(b.a.nd v).kind=5
  .rw[Ag E];have fy:=rm.data v;obtain⟨h8,G8,⟨r8,_⟩,w8,x8⟩:=M.step (A':=b.a.Si v ((b.a.nd v).data++s)) (R:=λh'=>B2 cx 115 [Pt a 0,I v,.str ((b.a.nd v).data++s)] (h++f++d++[.Dw]++T) (I 0) h'/\True) (λn m ps S=>by obtain⟨h',Ot,r,wp,xp⟩:=aH2 (s:=(b.a.nd v).data++s) S rm.TD ht.1 E;exact⟨h',n,m,Ot,⟨r,trivial⟩,wp,xp⟩)
   refine⟨h8,G8,?_,w8,(x3.trans A.D6).trans x8⟩;rw[Ae,TH];rcases hk with hk|hk<;>by_cases h0:bf=0
   all_goals first|(rw[<-þ h0] at kl;simp only[abS,(Ie w).Ad,D.Ad,r2.Ad,hk,Cj,Ck,(AM:¬(2:Int)=4),kl,A3 h0,g.Ad,f3,b3,(Ac:(0:Int)<((j+1:Nat):Int)),U,Q,Y,W.Ad,E,M.l0,O,yB (Ac:(b.a.nd v).data.length+s.length<=2000000000),Ck,r8.Ad];done)|(rw[vz h0] at H;simp only[abS,(Ie w).Ad,D.Ad,r2.Ad,hk,Cj,Ck,(AM:¬(2:Int)=4),kl,h0,g.Ad,f3,b3,(Ac:(0:Int)<((j+1:Nat):Int)),U,Q,Y,W.Ad,E,M.l0,O,yB (Ac:(b.a.nd v).data.length+s.length<=2000000000),Ck,r8.Ad,H.Ad])
  .rw[Af E];obtain⟨h',J,G',C,B,N,L⟩:=new _ ⟨T,rfl⟩;refine⟨h',G',?_,N,L⟩;rw[Ae,TH];rcases hk with hk|hk<;>by_cases h0:bf=0
   all_goals first|(rw[<-þ h0] at kl;simp only[abS,(Ie w).Ad,D.Ad,r2.Ad,hk,Cj,Ck,(AM:¬(2:Int)=4),kl,A3 h0,g.Ad,f3,b3,(Ac:(0:Int)<((j+1:Nat):Int)),U,Q,Y,W.Ad,E,M.l0,C.Ad,Ck,B.Ad];done)|(rw[vz h0] at H;simp only[abS,(Ie w).Ad,D.Ad,r2.Ad,hk,Cj,Ck,(AM:¬(2:Int)=4),kl,h0,g.Ad,f3,b3,(Ac:(0:Int)<((j+1:Nat):Int)),U,Q,Y,W.Ad,E,M.l0,C.Ad,Ck,B.Ad,H.Ad])
def X3{s:Aj}{p bf x:Int}{h0 h1:Ai}(hstart:(¬x=0/\p=x/\bf=0/\h1=h0)\/(x=0/\B2 cx 111 [Pt bi 0,I 0] h0 (.tuple [I p,I bf]) h1))
  (w0:BX h0 bi a o c t G b) (i:EH h0 (BI bi G) h1 (BI bi G)) (w:BX h1 bi a o c t G b) (ok:E0 b) (rm:Cf b (m+1)) (hs:s.length<=100000):
  ∃h' G',B2 cx 52 [Pt bi 0,.str s,I x] h0 (.tuple []) h'/\BX h' bi a o c t G' {b with a:=BS.Iv b.a s p bf}/\EH h0 (BI bi G) h' (BI bi G'):=by
 obtain⟨K,V,q,r2,L,_⟩:=UZ w ok rm p;have d:=w.Jn (u:=q);unfold BS.Iv;by_cases hk:Nx (b.a.nd p).kind
 .rw[Ag hk];have hp:b.a.has p:=by
   by_cases hp:b.a.has p;.exact hp
   .rw[L2 hp] at hk;unfold Nx at hk;simp at hk
  have sm:=ok.ok.Cl p hp;obtain⟨M,N,⟨y,_⟩,H,D⟩:=d.step (A':=b.a.add (L8 6 (b.a.nd p).Cl s).x) (R:=λh'=>B2 cx 117 [Pt a 0,I (b.a.nd p).Cl,.str s] (h1++q) (.tuple [I (b.a.len+1),I 0]) h'/\True) (λn m ps j=>by obtain⟨h',r,wp,J,l1⟩:=aDv (s:=s) j rm.TD (by have:=rm.n;unfold Ar.len;omega) sm;exact⟨h',_,_,_,⟨r,trivial⟩,wp,j.Qj rfl J l1⟩)
  obtain⟨g,e⟩:=yC (m:=m) (k:=6) (s:=s) ok rm (.inr rfl) sm hs;obtain⟨h',G',v,E,C⟩:=nU (x:=b.a.len+1) (p:=p) (bf:=bf) H g.ba e;refine⟨h',G',?_,E,(i.trans w.D6).trans (D.trans C)⟩;rw[Ae,cV];rcases hstart with⟨hx,rfl,rfl,rfl⟩|⟨hx,f⟩
  .rcases hk with hk|hk|hk<;>simp only[abS,(Ie w0).Ad,r2.Ad,hk,Cj,Ck,(AM:¬(2:Int)=1),(AM:¬(4:Int)=1),(AM:¬(4:Int)=2),d.l0,y.Ad,v.Ad,hx]
  .rcases hk with hk|hk|hk<;>simp only[abS,(Ie w0).Ad,r2.Ad,hk,Cj,Ck,(AM:¬(2:Int)=1),(AM:¬(4:Int)=1),(AM:¬(4:Int)=2),d.l0,y.Ad,v.Ad,A3 hx,f.Ad]
 .rw[Af hk];refine⟨_,G,?_,d,i.trans w.D6⟩;unfold Nx at hk;have B:¬(b.a.nd p).kind=1:=Ac;have A:¬(b.a.nd p).kind=2:=Ac;have z:¬(b.a.nd p).kind=4:=Ac;rw[Ae,cV];rcases hstart with⟨hx,rfl,rfl,rfl⟩|⟨hx,f⟩
  .simp only[abS,(Ie w0).Ad,r2.Ad,Cj,B,A,z,hx]
  .simp only[abS,(Ie w0).Ad,r2.Ad,Cj,B,A,z,A3 hx,f.Ad]
def aD6(w:BX h bi a o c t G b)(ok:E0 b)(rm:Cf b (m+1))(s:Aj)(hs:s.length<=100000)(x:Int):
  ∃h' G',B2 cx 52 [Pt bi 0,.str s,I x] h (.tuple []) h'/\BX h' bi a o c t G' (b.C1 s x)/\EH h (BI bi G) h' (BI bi G'):=by
 unfold BS.C1;by_cases h0:x=0;.rw[Ag h0];obtain⟨d,e⟩:=zu w ok rm 0;exact X3 (p:=(b.place 0).1) (bf:=(b.place 0).2) (.inr ⟨h0,e⟩) w w.D6 (w.Jn (u:=d)) ok rm hs
 .rw[Af h0];exact X3 (p:=x) (bf:=0) (.inl ⟨h0,rfl,rfl,rfl⟩) w .refl w ok rm hs
def aAe(w:BX h bi a o c t G b)(ok:BA b)(rm:Cf b (m+4))(hr:XY nm av r)(hv:A6 l av)(hl:E1 l)(hn:nm.length<=1000)(st:Int):
  ∃h' o' G',B2 cx 53 [Pt bi 0,.agg r,I st] h (.tuple []) h'/\BX h' bi a o' c t G' (b.Df nm l st)/\EH h (BI bi G) h' (BI bi G'):=by
 obtain⟨h1,d,e,u,w1,i⟩:=di w ok rm hr hv hl hn;have s:=w1.st (k:=18) (v:= I st) rfl rfl;have g:BX (put h1 bi 18 (I st)) bi a d c t e {b.DY nm l 1 with sw:=st}:=w1.put rfl rfl w1.o w1.t;have q:=g.st (k:=5) (v:= I (b.DY nm l 1).mode) rfl rfl;have f:BX (put (put h1 bi 18 (I st)) bi 5 (I (b.DY nm l 1).mode)) bi a d c t e {b.DY nm l 1 with sw:=st,Qu:=(b.DY nm l 1).mode}:=g.put rfl rfl w1.o w1.t;have n:=f.st (k:=4) (v:=I 8) rfl rfl;have j:BX (put (put (put h1 bi 18 (I st)) bi 5 (I (b.DY nm l 1).mode)) bi 4 (I 8)) bi a d c t e (b.Df nm l st):=f.put rfl rfl w1.o w1.t;refine⟨_,d,e,?_,j,((i.trans BL).trans BL).trans BL⟩;obtain⟨H,E,D,C,B,A,z,y,kI,wQ,rfl⟩:=hr;rw[Ae,tD];simp only[B9,(Ie w).Ad,u.Ad,w1.l4,s,q,n]
def aD7(w:BX h bi a o c t G b)(rm:Cf b m):
  ∃h' o',B2 cx 54 [Pt bi 0] h (.tuple []) h'/\BX h' bi a o' c t G b.B7/\EH h (BI bi G) h' (BI bi G):=by
 have ho:=rm.AA;have d:=aDi w.sA (Ac:b.AA.length<=1000000000) 3 (v:= .sl 1 ([wP].map B6)) (ws:=[wP]) CO AM;have em:Az (.DX 1) [S [112]]=some (.sl 1 ([wP].map B6)):=Ez (ws:=[wP]) rfl AM;unfold BS.B7;by_cases hs:Px (Bf [wP]) (Oa 3) b.AA.reverse=true;.rw[Ag hs];rw[hs] at d;obtain⟨g,r2,bD⟩:=ŷ w.sO Ac wP;have w1:=w.Mo bD;have Es:=cJ (b:=EG wP) (a:=Da) (l:=b.AA);obtain⟨e,f,Qs⟩:=f66 w1.sO Gw (w:= .sl 1 ([wP].map B6)) (ws:=[wP]) CO AM;refine⟨_,e,?_,w1.Mo Qs,BL.trans BL⟩;rw[Ae,cW];simp only[B9,(Ie w).Ad,em,d.Ad,r2.Ad,f.Ad]
 .rw[Af hs];rw[show Px (Bf [wP]) (Oa 3) b.AA.reverse=false by simpa using hs] at d;refine⟨h,o,?_,w,.refl⟩;rw[Ae,cW];simp only[B9,(Ie w).Ad,em,d.Ad]
end
section
variable{h h':Ai}{bi a:Nat}{o c t:Aa}{G G' F:Nat->Prop}{b:BS}{x:Int}{m:Nat}
variable{nm:Aj}{av:Aa}{l:List AZ}{r:List Aa}{sp p:Int}
def SF{U:Type}{l:List U}{n:Nat}(hn:n<l.length):(l.take (n+1)).reverse=l[n]::(l.take n).reverse:=by rw[AP hn,HY];rfl
def aAf(w:BX h bi a o c t G b)(rm:Cf b m)(nm:Aj):
  ∃h' o',B2 cx 56 [Pt bi 0,.str nm] h (.tuple []) h'/\BX h' bi a o' c t G (b.C6 nm)/\EH h (BI bi G) h' (BI bi G):=by
 have ho:=rm.AA;have OT:Ev cx 56 [Pt bi 0,.str nm] h λr h'=>r= .tuple []/\∃o',BX h' bi a o' c t G (b.C6 nm)/\EH h (BI bi G) h' (BI bi G):=by
  unfold Ev;rw[tF];simp only[abS,(Ie w).Ad,(Sw w.sA).Ad,DN (Ac: -9223372036854775808<=(b.AA.length:Int)-1) (Ac:(b.AA.length:Int)-1<9223372036854775808)];refine BM (λn:Nat=>[I ((n:Int)-1)]) (λn h1=>n<=b.AA.length/\(b.AA.reverse.find? λi=>Bf [nm] i||Dp i)=((b.AA.take n).reverse.find? λi=>Bf [nm] i||Dp i)/\h1=h) (λn=>n) b.AA.length rfl ⟨Ab _,by rw[BN],rfl⟩ ?_;rintro n h1 ⟨hn,ha,rfl⟩;cases n with
  |zero=>
   have e:b.C6 nm=b:=by unfold BS.C6;rw[ha];rfl
   simp only[abS,(Ac:¬(0:Int)<=((0:Nat):Int)-1)];exact⟨_,rfl,rfl,o,by rw[e];exact w,.refl⟩
  |succ n=>
   have hlt:n<b.AA.length:=Ac;have i1:((n+1:Nat):Int)-1=(n:Int):=Ac;have j:=Sx w.sA (n:Int);rw[HL hlt] at j;have em:Az (.DX 1) [.str nm]=some (.sl 1 ([nm].map B6)):=Ez (ws:=[nm]) rfl Ax;have r2:=uG (ws:=[nm]) CO Ax b.AA[n] h1;rw[SF hlt,Hz] at ha;generalize hi:b.AA[n]=i at*;rw[Item.row] at r2;simp only[abS,Jw,i1,(Ac:(0:Int)<=(n:Int)),j.Ad,em];have f:B2 cx 106 [.agg i.row,.sl 1 ([nm].map B6)] h1 (.bool (Bf [nm] i)) h1:=r2;rw[f.Ad,Nq,C8];refine⟨λh2=>?_,λh2=>?_⟩
   .obtain⟨u,s,bD⟩:=ŷ w.sO Ac nm;have w1:=w.Mo bD;have Es:=cJ (b:=EG nm) (a:=Da) (l:=b.AA);obtain⟨k,q,Qs⟩:=aDn w1.sO Gw i.node;simp only[B9,s.Ad,q.Ad];refine⟨_,rfl,rfl,k,?_,BL.trans BL⟩;have e:b.C6 nm={b with AA:=Gs i.node (Dd (EG nm) Da b.AA)}:=by unfold BS.C6;rw[ha];simp only[h2,OY,BE]
    rw[e];exact w1.Mo Qs
   .simp only[h2,I5] at ha;simp only[(zi i.Be i.name).Cb rfl rfl];rw[Nq,C8];refine⟨λg=>?_,λg=>?_⟩
    .have d:Dp i=true:=g;rw[d] at ha;have e:b.C6 nm=b:=by unfold BS.C6;rw[ha];simp only[h2,Ch,DR]
     simp only[B9];exact⟨_,rfl,rfl,o,by rw[e];exact w,.refl⟩
    .have d:Dp i=false:=g;rw[d] at ha;simp only[B9,DN (Ac: -9223372036854775808<=(n:Int)-1) (Ac:(n:Int)-1<9223372036854775808)];exact Br.next n rfl ⟨Ac,ha,rfl⟩ Ac
 obtain⟨r,h',hr,rfl,o',w',x'⟩:=OT.ret;exact⟨h',o',hr,w',x'⟩
def aD8(w:BX h bi a o c t G b)(rm:Cf b m){k:Nat}(hk:k<=b.AA.length):B2 cx 220 [Pt bi 0,I (k:Int)] h (I (BS.Qb (b.AA.take k))) h:=by
 have ho:=rm.AA;rw[Ae,gM];simp only[B9,DN (Ac: -9223372036854775808<=(k:Int)-1) (Ac:(k:Int)-1<9223372036854775808)];refine BM (λn:Nat=>[I 0,I ((n:Int)-1)]) (λn h1=>n<=k/\((b.AA.take k).reverse.find? λi=>Bf [A5] i||Bf [JN] i)=((b.AA.take n).reverse.find? λi=>Bf [A5] i||Bf [JN] i)/\h1=h) (λn=>n) k rfl ⟨Ab _,rfl,rfl⟩ ?_;rintro n h1 ⟨hn,ha,rfl⟩;cases n with
 |zero=>simp only[abS,(Ac:¬(0:Int)<=((0:Nat):Int)-1)];unfold BS.Qb;rw[ha];rfl
 |succ n=>
  have hlt:n<b.AA.length:=Ac;have i1:((n+1:Nat):Int)-1=(n:Int):=Ac;have g:=Sx w.sA (n:Int);rw[HL hlt] at g;have f:Az (.DX 1) [S A5]=some (.sl 1 ([A5].map B6)):=Ez (ws:=[A5]) rfl AM;have e:Az (.DX 1) [S JN]=some (.sl 1 ([JN].map B6)):=Ez (ws:=[JN]) rfl AM;have r2:=uG (ws:=[A5]) CO AM b.AA[n] h1;have j:=uG (ws:=[JN]) CO AM b.AA[n] h1;rw[SF hlt,Hz] at ha;simp only[abS,i1,(Ac:(0:Int)<=(n:Int)),g.Ad,f,r2.Ad,e,j.Ad,DN (Ac: -9223372036854775808<=(n:Int)-1) (Ac:(n:Int)-1<9223372036854775808)];rw[C8];refine⟨λh2=>?_,λh2=>?_⟩;.simp only[h2,OY] at ha;unfold BS.Qb;rw[ha];simp only[h2,BE]
  .simp only[h2,I5] at ha;rw[C8];refine⟨λd=>?_,λd=>?_⟩;.rw[d] at ha;unfold BS.Qb;rw[ha];simp only[h2,Ch,DR]
   .rw[d] at ha;exact Br.next n rfl ⟨Ac,ha,rfl⟩ Ac
def uJ(r:Aj×Int):List Aa:=[.str r.1,I r.2]
def jA{z:Nat}{Av:List (List Aa)}{args:List Aa}(e:args=Av.map Aa.agg)(hz:∀r∈Av,r.length=z)(hl:Av.length*z<=16777216):Az (.DX z) args=some (.sl z Av):=by
 subst e;have f:(Av.map Aa.agg).all (λa=>a.cells.length==z)=true:=by simp[Aa.cells];exact hz
 have d:(Av.map Aa.agg).map (·.cells)=Av:=by rw[List.map_map];exact List.map_id _
 rw[wU,f,d];simp[hl]
def sn{args:List Aa}(e:args=(JQ.map uJ).map Aa.agg):Az (.DX 2) args=some (.sl 2 (JQ.map uJ)):=jA e (λr hr=>by obtain⟨x,_,rfl⟩:=A4.1 hr;rfl) AM
def aD9:B2 cx 219 [] h (.sl 2 (JQ.map uJ)) h:=by rw[Ae,gL];simp only[abS,Nat.reduceLeDiff,↓reduceIte,Bj];exact(Cm (λz=>ZI z λv=>[v]=[Aa.sl 2 (JQ.map uJ)]) (sn rfl)).mpr (by rw[LY])
def Z9{s:Aj}{i:Item}:Bf [s] i=decide (i.Be=1/\i.name=s):=by unfold Bf;simp
def dj{i:Item}{k:Nat}:b.Og i k=match JQ.find? λr=>Bf [r.1] i with
  |some r=>some r.2
  |none=>if Bf [Of] i then some (BS.Qb (b.AA.take k)) else if Bf [ê,ë] i&&decide (0<k) then some 15 else if Bf [A5] i then some (b.tm.getLast?.getD 7) else if Bf [Xw] i&&decide (0<k) then some 4 else if Bf [F9] i then some (if b.head=0 then 3 else 6) else if k=0 then some 7 else none:=by
 unfold BS.Og;by_cases hs:i.Be=1
 .rw[Ag hs];have e:(λr:Aj×Int=>Bf [r.1] i)=λr=>decide (r.1=i.name):=by funext r;rw[Z9,C7];exact⟨λh=>h.2.symm,λh=>⟨hs,h.symm⟩⟩
  rw[e];cases hf:JQ.find? λr=>decide (r.1=i.name) with
  |some r=>rfl
  |none=>simp only[Bf,hs,PS,AF,M7,vo,A7,Co]
 .rw[Af hs];have e:(λr:Aj×Int=>Bf [r.1] i)=λ_=>false:=by funext r;rw[Z9,Ah (λh=>hs h.1)]
  rw[e];have d:JQ.find? (λ_=>false)=none:=AM;rw[d];simp only[Bf,hs,Ē,C0,Ch,DR,Bool.false_and]
def aEa(w:BX h bi a o c t G b)(rm:Cf b m)(i:Item){k:Nat}(hk:k<=b.AA.length):B2 cx 128 [Pt bi 0,.agg i.row,I (k:Int)] h (.tuple [I ((b.Og i k).getD 7),.bool (b.Og i k).isSome]) h:=by
 have ho:=rm.AA;have R:=rm.tm;have wB:Bz 2 (JQ.map uJ) (.sl 2 (JQ.map uJ)):= .mk;have C:=λws hw=>uG (ws:=ws) CO hw i h;rw[dj,Ae,eE];have hlen:JQ.length=9:=rfl;have Q:=wB.GO;rw[hlen] at Q;simp only[B9,↓reduceIte,Jw,aD9.Ad,Q];refine BM (λn:Nat=>[I 0,ff,I (n:Int)]) (λn h1=>n<=9/\(JQ.find? λr=>Bf [r.1] i)=((JQ.drop n).find? λr=>Bf [r.1] i)/\h1=h) (λn=>9 -n) 0 rfl ⟨Bc _,rfl,rfl⟩ ?_;rintro n h1 ⟨hn,ha,rfl⟩;rcases Bl n 9 with hlt|GS
 .have de:n<JQ.length:=hlt;have em:Az (.DX 1) [.str JQ[n].1]=some (.sl 1 ([JQ[n].1].map B6)):=Ez (ws:=[JQ[n].1]) rfl Ax;rw[Ay de,Hz] at ha;simp only[B9,Nat.reduceLeDiff,↓reduceIte,YU,(Ac:(n:Int)<((9:Nat):Int)),wB.DB de,uJ,em,(C [JQ[n].1] Ax).Ad,CE (Ac:n<9223372036854775807)];rw[C8];refine⟨λh2=>?_,λh2=>?_⟩;.rw[h2] at ha;rw[ha];simp
  .rw[h2] at ha;exact Br.next (n+1) rfl ⟨hlt,ha,rfl⟩ Ac
 .have T:n=9:=by omega
  subst T;have ha:(JQ.find? λr=>Bf [r.1] i)=none:=ha;rw[ha];have q:Az (.DX 1) [S aQQ]=some (.sl 1 ([Of].map B6)):=Ez (ws:=[Of]) rfl AM;have s:Az (.DX 1) [S [116,100],S [116,104]]=some (.sl 1 ([ê,ë].map B6)):=Ez (ws:=[ê,ë]) rfl AM;have u:Az (.DX 1) [S aQh]=some (.sl 1 ([A5].map B6)):=Ez (ws:=[A5]) rfl AM;have J:Az (.DX 1) [S aQj]=some (.sl 1 ([Xw].map B6)):=Ez (ws:=[Xw]) rfl AM;have L:Az (.DX 1) [S aQg]=some (.sl 1 ([F9].map B6)):=Ez (ws:=[F9]) rfl AM;have f:=C [Of] AM;have d:=C [ê,ë] AM;have g:=C [A5] AM;have y:=C [Xw] AM;have B:=C [F9] AM;have rs:=aD8 w rm hk;have lt:=(w.t.1.Rm (h:=h1));have j:¬((9:Nat):Int)<((9:Nat):Int):=AM;have l6:=w.l6;have H:b.tm≠[]->∃p,Az (.int .sub) [I (b.tm.length:Int),I 1]=some (I ((b.tm.length-1:Nat):Int))/\Az (.FG 1) [t,I ((b.tm.length-1:Nat):Int)]=some p/\Bd h1 none p=some (I (b.tm.getLast?.getD 7)):=by intro hne;have hpos:=Em.2 hne;obtain⟨p,E,D⟩:=lt.at_ (b.tm.length-1) Ac;refine⟨p,MV hpos Ac,E,?_⟩;rw[D,Qz,Au Ac];rfl
  by_cases g1:Bf [Of] i=true;.rw[g1] at f;simp only[abS,↓reduceIte,j,q,f.Ad,rs.Ad,g1,FD,aJQ]
  .have g1:Bf [Of] i=false:=by simpa using g1
   rw[g1] at f;by_cases A:0<k
   .have N:¬k=0:=by omega
    have z:¬(k:Int)=0:=Ac;have v:(0:Int)<(k:Int):=Ac;cases g2:Bf [ê,ë] i<;>rw[g2] at d;rotate_left;.simp only[B9,↓reduceIte,j,q,f.Ad,s,d.Ad,A,v,g1,Uo]
    cases g3:Bf [A5] i<;>rw[g3] at g;rotate_left
    .by_cases ht:b.tm=[];.simp only[B9,↓reduceIte,j,q,f.Ad,s,d.Ad,u,g.Ad,A,v,g1,Uo,l6,lt.len,ht,vF,aN,aLy]
     .obtain⟨p,E,D,M⟩:=H ht;have IN:¬b.tm.length=0:=λe=>ht (Ĕ.1 e);simp only[B9,↓reduceIte,j,q,f.Ad,s,d.Ad,u,g.Ad,A,v,g1,Uo,l6,lt.len,(Ac:(0:Int)<(b.tm.length:Int)),E,D,M]
    cases P:Bf [Xw] i<;>rw[P] at y;rotate_left;.simp only[B9,↓reduceIte,j,q,f.Ad,s,d.Ad,u,g.Ad,J,y.Ad,A,v,g1,Uo]
    all_goals cases O:Bf [F9] i<;>rw[O] at B
    all_goals first
     |simp only[B9,↓reduceIte,j,q,f.Ad,s,d.Ad,u,g.Ad,J,y.Ad,L,B.Ad,A,N,z,v,g1,Uo];done
     |by_cases K:b.head=0
      .simp only[B9,↓reduceIte,j,q,f.Ad,s,d.Ad,u,g.Ad,J,y.Ad,L,B.Ad,A,z,v,g1,Uo,w.l7,K]
      .simp only[B9,↓reduceIte,j,q,f.Ad,s,d.Ad,u,g.Ad,J,y.Ad,L,B.Ad,A,z,v,g1,Uo,w.l7,K]
   .have N:k=0:=by omega
    subst N;have v:¬(0:Int)<((0:Nat):Int):=AM;have z:((0:Nat):Int)=0:=rfl;by_cases g3:Bf [A5] i=true
    .rw[g3] at g;cases g2:Bf [ê,ë] i<;>rw[g2] at d<;>by_cases ht:b.tm=[];all_goals first
      |simp only[B9,↓reduceIte,j,q,f.Ad,s,d.Ad,u,g.Ad,z,g1,g3,Uo,l6,lt.len,ht,aN,aLy,Di];done
      |obtain⟨p,E,D,M⟩:=H ht
       have IN:¬b.tm.length=0:=λe=>ht (Ĕ.1 e);simp only[B9,↓reduceIte,j,q,f.Ad,s,d.Ad,u,g.Ad,z,g1,g3,Uo,l6,lt.len,(Ac:(0:Int)<(b.tm.length:Int)),E,D,M,Di]
    .have g3:Bf [A5] i=false:=by simpa using g3
     rw[g3] at g;cases g2:Bf [ê,ë] i<;>rw[g2] at d<;>cases P:Bf [Xw] i<;>rw[P] at y<;>cases O:Bf [F9] i<;>rw[O] at B<;>by_cases K:b.head=0;all_goals simp only[B9,↓reduceIte,j,q,f.Ad,s,d.Ad,u,g.Ad,J,y.Ad,L,B.Ad,z,g1,g3,Uo,w.l7,K,Di]
end
section
variable{h h':Ai}{bi a:Nat}{o c t:Aa}{G G' F:Nat->Prop}{b:BS}{x:Int}{m:Nat}
variable{nm:Aj}{av:Aa}{l:List AZ}{r:List Aa}{sp p:Int}
def BX.aEb(w:BX h bi a o c t G b):Bd h (some 4) (Pt bi 10)=some (.agg b.ctx.row):=by simp only[Bd,w.hb];rfl
def BX.aAg(w:BX h bi a o c t G b)(v:Int):BX (Am.put h bi 4 (I v)) bi a o c t G {b with mode:=v}:=w.put rfl rfl w.o w.t
def Cf.mode{v:Int}(rm:Cf b m):Cf {b with mode:=v} m:=⟨rm.n,rm.at_,rm.data,rm.AA,rm.AY,rm.tm,rm.DD,rm.Z4⟩
def so(w:BX h bi a o c t G b)(rm:Cf b m):
  ∃h',B2 cx 58 [Pt bi 0] h (.tuple []) h'/\BX h' bi a o c t G b.IW/\EH h (BI bi G) h' (BI bi G):=by
 have ho:=rm.AA;have OT:Ev cx 58 [Pt bi 0] h λr h'=>r= .tuple []/\BX h' bi a o c t G b.IW/\EH h (BI bi G) h' (BI bi G):=by
  unfold Ev;have w1:=w.aAg 7;rw[tG];simp only[abS,(Ie w).Ad,w.st (k:=4) (v:=I 7) rfl rfl,(Sw w1.sA).Ad,DN (Ac: -9223372036854775808<=(b.AA.length:Int)-1) (Ac:(b.AA.length:Int)-1<9223372036854775808)];refine BM (λn:Nat=>[I ((n:Int)-1)]) (λn h1=>n<=b.AA.length/\b.TA b.AA.length=b.TA n/\h1=Am.put h bi 4 (I 7)) (λn=>n) b.AA.length rfl ⟨Ab _,rfl,rfl⟩ ?_;rintro n h1 ⟨hn,ha,rfl⟩;cases n with
  |zero=>
   have e:b.IW={b with mode:=7}:=by unfold BS.IW;rw[ha];rfl
   simp only[abS,(Ac:¬(0:Int)<=((0:Nat):Int)-1)];exact⟨_,rfl,rfl,by rw[e];exact w1,BL⟩
  |succ n=>
   have hlt:n<b.AA.length:=Ac;have i1:((n+1:Nat):Int)-1=(n:Int):=Ac;have g:=Sx w1.sA (n:Int);rw[show DO ({b with mode:=7}:BS).AA (n:Int)=b.AA[n] from HL hlt] at g;have r2:∀i:Item,B2 cx 128 [Pt bi 0,.agg i.row,I (n:Int)] (Am.put h bi 4 (I 7)) (.tuple [I ((b.Og i n).getD 7),.bool (b.Og i n).isSome]) (Am.put h bi 4 (I 7)):=λi=>aEa w1 rm.mode i (k:=n) Gw;have d:=r2 (b.GU n);have IM:∀v,CK (Am.put h bi 4 (I 7)) 1 (Pt bi 4) (I v)=some (Am.put (Am.put h bi 4 (I 7)) bi 4 (I v)):=λv=>w1.st (k:=4) rfl rfl;have e:b.TA (n+1)=match b.Og (b.GU n) n with|some m=>m|none=>b.TA n:=rfl
   rw[e] at ha;have kJ:=w1.l9;have hlc:=w1.aEb;have WG:=DN (Ac: -9223372036854775808<=(n:Int)-1) (Ac:(n:Int)-1<9223372036854775808);cases hm:b.Og (b.GU n) n with
   |none=>
    rw[hm] at d ha;by_cases h0:n=0
    .have aa:((n:Int)=0)=True:=A3 Ac;cases hf:b.PC with
     |true=>
      have f:b.GU n=b.ctx:=by unfold BS.GU;rw[Ag ⟨h0,hf⟩]
      rw[f] at d;rw[show({b with mode:=7}:BS).PC=true from hf] at kJ;simp only[B9,Jw,i1,g.Ad,kJ,hlc,d.Ad,IM,Uo,(Ac:(0:Int)<=(n:Int)),aa,WG];exact Br.next n rfl ⟨Ac,ha,rfl⟩ Ac
     |false=>
      have f:b.GU n=b.AA[n]:=by unfold BS.GU;rw[Af (by simp[hf]),AK,Au hlt];rfl
      rw[f] at d;rw[show({b with mode:=7}:BS).PC=false from hf] at kJ;simp only[B9,Jw,i1,g.Ad,kJ,hlc,d.Ad,IM,Uo,(Ac:(0:Int)<=(n:Int)),aa,WG];exact Br.next n rfl ⟨Ac,ha,rfl⟩ Ac
    .have f:b.GU n=b.AA[n]:=by unfold BS.GU;rw[Af (by simp[h0]),AK,Au hlt];rfl
     rw[f] at d;have aa:¬(n:Int)=0:=Ac;simp only[B9,Jw,i1,g.Ad,d.Ad,IM,Uo,(Ac:(0:Int)<=(n:Int)),aa,WG];exact Br.next n rfl ⟨Ac,ha,rfl⟩ Ac
   |some v=>
    rw[hm] at d ha;have e:b.IW={b with mode:=v}:=by unfold BS.IW;rw[ha]
    have j:BX (Am.put (Am.put h bi 4 (I 7)) bi 4 (I v)) bi a o c t G b.IW:=by rw[e];exact w1.aAg v
    by_cases h0:n=0
    .have aa:((n:Int)=0)=True:=A3 Ac;cases hf:b.PC with
     |true=>
      have f:b.GU n=b.ctx:=by unfold BS.GU;rw[Ag ⟨h0,hf⟩]
      rw[f] at d;rw[show({b with mode:=7}:BS).PC=true from hf] at kJ;simp only[B9,Jw,i1,g.Ad,kJ,hlc,d.Ad,IM,Uo,(Ac:(0:Int)<=(n:Int)),aa];exact⟨_,rfl,rfl,j,BL.trans BL⟩
     |false=>
      have f:b.GU n=b.AA[n]:=by unfold BS.GU;rw[Af (by simp[hf]),AK,Au hlt];rfl
      rw[f] at d;rw[show({b with mode:=7}:BS).PC=false from hf] at kJ;simp only[B9,Jw,i1,g.Ad,kJ,hlc,d.Ad,IM,Uo,(Ac:(0:Int)<=(n:Int)),aa];exact⟨_,rfl,rfl,j,BL.trans BL⟩
    .have f:b.GU n=b.AA[n]:=by unfold BS.GU;rw[Af (by simp[h0]),AK,Au hlt];rfl
     rw[f] at d;have aa:¬(n:Int)=0:=Ac;simp only[B9,Jw,i1,g.Ad,d.Ad,IM,Uo,(Ac:(0:Int)<=(n:Int)),aa];exact⟨_,rfl,rfl,j,BL.trans BL⟩
 obtain⟨r,h',hr,rfl,w',x'⟩:=OT.ret;exact⟨h',hr,w',x'⟩
def dk{h0 u:Ai}{V:Aa}{L:List AZ}{N:Nat}(j:N=h0.length)(g:F7 (h0++u) V L)(i:Up N V)(hb:L.length<=1000000000)(y:AZ):
  ∃f d,FN (h0++u) 3 40 V (.sl 3 [y.row])=some (h0++f,d)/\F7 (h0++f) d (L++[y])/\Up N d:=by
 subst j;have yl:AJ=140737488355328:=rfl;rcases g with⟨rfl,rfl⟩|⟨id,rfl,hc,hl⟩
 .refine⟨u++[.cells (([y]:List AZ).map AZ.row).flatten],.CT (h0++u).length 0 1 3,by rw[<-AT];rfl,.inr ⟨(h0++u).length,rfl,Ax,Ax⟩,λid k e=>by injection e with e;rw[<-e,Ao];omega⟩
 .have Ik:h0.length<=id:=i id _ rfl;have hg:=N7 (b:=40) (Av:=L.map AZ.row) (r2:=[y.row]) (v:= .sl 3 [y.row]) (qp L) AM hc .mk Ax (by rw[Aw];simp;omega);rw[Aw] at hg;have e:(h0++u).set id .Dw++[.cells (L.map AZ.row++[y.row]).flatten]=h0++(u.set (id-h0.length) .Dw++[.cells ((L++[y]).map AZ.row).flatten]):=by rw[B0 _ _ Ik,AT,BW];rfl
  rw[e] at hg;have pF:(h0++(u.set (id-h0.length) EN.Dw++[.cells ((L++[y]).map AZ.row).flatten]))=(h0++u.set (id-h0.length) EN.Dw)++[.cells ((L++[y]).map AZ.row).flatten]:=by rw[AT]
  have gh:(h0++u.set (id-h0.length) EN.Dw).length=(h0++u).length:=Ax;refine⟨_,_,hg,.inr ⟨(h0++u).length,Ax,?_,?_⟩,λid k e=>by injection e with e;rw[<-e,Ao];omega⟩;.rw[pF,<-gh,Bw (Ab _),Eb];rfl
  .rw[pF];simp only[Ao,BY,AG,Bk];omega
def aEc(y c:AZ)(h:Ai):B2 cx 130 [.agg c.row,.Cu y.row] h (.bool (decide (Db ⟨0,y.name,y.value⟩=Db c))) h:=by
 rw[Ae,eF,AZ.row,AZ.row];simp only[B9];refine⟨λh1=>?_,λh1=>?_⟩;.congr 2;rw[C7];simp[Db,h1];exact gu
 .rw[Ah (λe=>h1 (by simp[Db] at e;exact e.1.symm))]
def AZ.dm{y:AZ}:(⟨0,y.name,y.value⟩:AZ).row=[I 0,.str y.name,.str y.value]:=rfl
def TK(k:Int×Aj):∀{l out:List AZ},(Gu out l).any (λz=>decide (k=Db z))=(out++l).any λz=>decide (k=Db z)
 |[],out=>by simp[Gu]
 |y::l,out=>by
  rw[Gu];split
  .rename_i h;rw[TK k,fm,fm,Rt];by_cases hk:k=Db y;.subst hk;rw[h];rfl
   .simp[hk]
  .rw[TK k,AT];rfl
def sq(k:Int×Aj)(l:List AZ):(CC l).any (λz=>decide (k=Db z))=l.any λz=>decide (k=Db z):=TK k
def Ql{l:List AZ}{y:AZ}:CC (l++[y])=if(CC l).any (λz=>decide (Db y=Db z)) then CC l else CC l++[y]:=XU
def aEd(w:BX h bi a o c t G b)(ok:E0 b)(rm:Cf b (m+1000))(hr:XY nm av r)(hv:A6 l av)(hl:E1 l)(x:Int):
  ∃h' G',B2 cx 59 [Pt bi 0,.agg r,I x] h (.tuple []) h'/\BX h' bi a o c t G' (b.Fh l x)/\EH h (BI bi G) h' (BI bi G'):=by
 obtain⟨K1,V1,d,B,_,_⟩:=UZ w ok rm x;have w1:=w.Jn (u:=d);obtain⟨Y,X,W,U,T,S,Q,P,kI,wQ,rfl⟩:=hr;have v:EH h (BI bi G) (h++d) (BI bi G):=w.D6;by_cases hk:(b.a.nd x).kind=4;rotate_left;.refine⟨h++d,G,?_,by unfold BS.Fh;rw[Af hk];exact w1,v⟩;rw[Ae,cY];simp only[abS,↓reduceIte,(Ie w).Ad,B.Ad,Cj,hk]
 obtain⟨K2,Z,A,r2,_,f,g⟩:=UZ w1 ok rm x;have w2:=w1.Jn (u:=A);have x2:EH h (BI bi G) (h++d++A) (BI bi G):=v.trans w1.D6;have hx:b.a.has x:=by
  by_cases hp:b.a.has x;.exact hp
  .rw[L2 hp] at hk;simp at hk
 have kD:=rm.at_ x;have vZ:=hl.1;have OT:Ev cx 59 [Pt bi 0,.agg [Y,.str nm,X,W,U,T,S,Q,av,P,kI,wQ],I x] h λr h'=>r= .tuple []/\∃G',BX h' bi a o c t G' (b.Fh l x)/\EH h (BI bi G) h' (BI bi G'):=by
  unfold Ev;rw[cY];have hvl:=Bz.GO hv;simp only[abS,↓reduceIte,(Ie w).Ad,B.Ad,r2.Ad,Cj,hk,hvl];refine BM (λs:Aa×Nat=>[s.1,I (s.2:Int)]) (λs h1=>∃u L,h1=h++d++u/\s.2<=l.length/\F7 h1 s.1 L/\Up (h++d).length s.1/\CC L=CC ((b.a.nd x).As++BS.plain (l.take s.2))/\(∀y∈L,BS.JP y.Be)/\L.length<=(b.a.nd x).As.length+s.2) (λs=>l.length-s.2) (Z,0) rfl ⟨A,(b.a.nd x).As,rfl,Bc _,f,g,?_,?_,Ax⟩ ?_;.simp[BS.plain]
  .exact λy hy=>(ok.ok.QN x hx).nv y hy
  rintro⟨V,n⟩ h1 ⟨u,L,rfl,hn,f,g,j,hs,Es⟩;simp only at hn f g j Es;rcases Bl n l.length with hlt|GS
  .have E:=Bz.DB (k:= .i64) hv hlt;rw[AZ.row] at E;have i:=ü f.in_ Ac (F:= .func (.func 130) [] [.Cu l[n].row]) (q:=λc=>decide (Db ⟨0,l[n].name,l[n].value⟩=Db c)) ⟨_,_,rfl,AM,λc=>aEc l[n] c _⟩;rw[AZ.row] at i;obtain⟨O,V',g1,g2,g3⟩:=dk (N:=(h++d).length) rfl f g Ac ⟨0,l[n].name,l[n].value⟩;rw[AZ.dm] at g1;have em:Az (.DX 3) [.agg [I 0,.str l[n].name,.str l[n].value]]=some (.sl 3 [[I 0,.str l[n].name,.str l[n].value]]):=rfl;have H:CC ((b.a.nd x).As++BS.plain (l.take (n+1)))=CC (L++[⟨0,l[n].name,l[n].value⟩]):=by rw[AP hlt,BS.plain,BW,<-AT,aJU,Ql,Ql,j];rfl
   have D:CC (L++[⟨0,l[n].name,l[n].value⟩])=if L.any (λz=>decide (Db ⟨0,l[n].name,l[n].value⟩=Db z)) then CC L else CC L++[⟨0,l[n].name,l[n].value⟩]:=by rw[Ql,sq]
   simp only[abS,Nat.reduceLeDiff,↓reduceIte,Bj,(Ac:(n:Int)<(l.length:Int)),E,i.Ad,em,g1,CE (Ac:n<9223372036854775807)];rw[C8];refine⟨λh2=>?_,λh2=>?_⟩
   .refine Br.next (V',n+1) rfl ⟨O,_,rfl,hlt,g2,g3,H.symm,?_,Ek⟩ Gw;intro y hy;rcases Aq.1 hy with hy|hy
    .exact hs y hy
    .simp at hy;subst hy;exact⟨Gw,Gw⟩
   .have h2:(L.any λz=>decide (Db ⟨0,l[n].name,l[n].value⟩=Db z))=true:=by simpa using h2
    rw[Ag h2] at D;exact Br.next (V,n+1) rfl ⟨u,L,rfl,hlt,f,g,by rw[H,D],hs,Gw⟩ Gw
  .have Qp:n=l.length:=by omega
   subst Qp;rw[BN] at j;simp only[abS,↓reduceIte,(Ac:¬(l.length:Int)<(l.length:Int)),(w1.Jn (u:=u)).l0];obtain⟨C,G3,i,M,J⟩:=(w1.Jn (u:=u)).step (A':=b.a.L5 x L) (R:=λC=>B2 cx 131 [Pt a 0,I x,V] (h++d++u) (I 0) C) λn m ps K=>by obtain⟨h',Ot,f1,f2,f3⟩:=aDx K rm.TD hx hk f.in_ Ac hs;exact⟨h',n,m,Ot,f1,f2,f3⟩
   have e:b.Fh l x={b with a:=b.a.L5 x L}:=by unfold BS.Fh;rw[Ag hk];unfold Ar.L5;rw[j]
   simp only[B9,i.Ad];refine⟨_,rfl,rfl,G3,?_,?_⟩;.rw[e];exact M
   .exact(v.trans w1.D6).trans J
 obtain⟨r,h',hr,rfl,G',w',x'⟩:=OT.ret;exact⟨h',G',hr,w',x'⟩
end
section
variable{h h':Ai}{bi a:Nat}{o c t:Aa}{G G' F:Nat->Prop}{b b':BS}{x:Int}{m:Nat}
variable{nm:Aj}{av:Aa}{l:List AZ}{r:List Aa}{sp p:Int}
def Cf.sub(rm:Cf b m)(ha:b'.a=b.a)(ho:b'.AA.Sublist b.AA)(hc:b'.AY.Sublist b.AY)(ht:b'.tm.length<=b.tm.length):Cf b' m:=
 ⟨by rw[ha];exact rm.n,by rw[ha];exact rm.at_,by rw[ha];exact rm.data,by have:=rm.AA;have:=ho.length_le;omega,by have:=rm.AY;have:=hc.length_le;omega,by have:=rm.tm;omega,λe he=>rm.DD e (hc.subset he),λi hi=>rm.Z4 i (ho.subset hi)⟩
def z_{v:Aa}{l:List Int}(hv:SD l v)(hb:l.length<=1000000000)(h:Ai):∃u,B2 cx 81 [v] h u h/\SE l u:=by
 have hm:AJ=140737488355328:=rfl;have e0:Az (.EI 1) []=some (.EI 1):=rfl;rcases hv with hv|⟨rfl,rfl⟩
 .have Hq:Bz 1 (l.map CM) v:=hv;rcases Hq with rfl|⟨rfl,h0⟩
  .cases l with
   |nil=>refine⟨.EI 1,?_,.inr ⟨rfl,rfl⟩,nofun⟩;rw[Ae,TI];simp only[B9,Dc,show Az (.Fe false .sl) [.sl 1 [],.slnil]=some (.bool false) from rfl,e0,show Az (.append 1 8) [.EI 1,.sl 1 []]=some (.EI 1) from rfl]
   |cons x l=>
    have OS:((x::l).map CM).length*8<=AJ:=by rw[Aw];omega
    have d:Az (.append 1 8) [.EI 1,.sl 1 ((x::l).map CM)]=some (.sl 1 ((x::l).map CM)):=by simp only[A9] at OS⊢;simp only[Az,HA,BE,Dm];rw[Ag ⟨trivial,OS⟩]
    refine⟨_,?_,.inl .mk,λe=>by injection e with _ e;simp at e⟩;rw[Ae,TI];simp only[B9,show Az (.Fe false .sl) [.sl 1 ((x::l).map CM),.slnil]=some (.bool false) from rfl,e0,d]
  .refine⟨.slnil,?_,.inl (.inr ⟨rfl,h0⟩),nofun⟩;rw[Ae,TI];simp only[B9,show Az (.Fe false .sl) [.slnil,.slnil]=some (.bool true) from rfl]
 .refine⟨.EI 1,?_,.inr ⟨rfl,rfl⟩,nofun⟩;rw[Ae,TI];simp only[B9,show Az (.Fe false .sl) [.EI 1,.slnil]=some (.bool false) from rfl,e0,show Az (.append 1 8) [.EI 1,.EI 1]=some (.EI 1) from rfl]
def BX.sr{u:Aa}{l:List Int}(w:BX h bi a o c t G b)(hu:SE l u):BX (Am.put h bi 6 u) bi a o c u G {b with tm:=l}:=w.put rfl rfl w.o hu
def yD:Az (.DX 1) [S aQh]=some (.sl 1 ([A5].map B6)):=Ez (ws:=[A5]) rfl AM
def aEe(w:BX h bi a o c t G b)(hc:Dn b.AY c)(rm:Cf b m):
  ∃h' o' c' t',B2 cx 60 [Pt bi 0] h (.tuple []) h'/\BX h' bi a o' c' t' G b.CR/\Dn b.CR.AY c'/\EH h (BI bi G) h' (BI bi G):=by
 have ho:=rm.AA;have XG:=rm.AY;have P:=rm.tm;have A:=zk w.sA Ac A5;by_cases Jz:AW (Bf [A5]) b.AA<0;.refine⟨h,o,c,t,?_,by unfold BS.CR;rw[Ag Jz];exact w,by unfold BS.CR;rw[Ag Jz];exact hc,.refl⟩;rw[Ae,XJ];simp only[abS,(Ie w).Ad,A.Ad,Jz]
 obtain⟨y,r2,bD⟩:=aHO w.sO Ac;have w1:=w.Mo bD;have l1:(Dd DT Da b.AA).length<=b.AA.length:=cJ;obtain⟨f,J,Qs⟩:=f66 w1.sO Gw (CO (ws:=[A5])) AM;have E:=w1.Mo Qs;obtain⟨fs,JF,hcs⟩:=hc;have Iq:fs.length=b.AY.length:=by rw[<-JF,Aw]
 obtain⟨d,H,C⟩:=f65 (show Tv _ bi 3 fs from⟨c,E.pH,hcs⟩) Ac;have j:=E.PH (u:=d) (l:=Fz b.AY);have YO:Dn (Fz b.AY) d:=⟨_,by rw[i6,JF],C⟩;have lt:=w.t.1.len;have l6:=j.l6;have e:b.CR=BS.IW {b with AA:=Dd Da (Bf [A5]) (Dd DT Da b.AA),AY:=Fz b.AY,tm:=b.tm.dropLast}:=by unfold BS.CR;rw[Af Jz]
 have sO:(Dd Da (Bf [A5]) (Dd DT Da b.AA)).Sublist b.AA:=(Cq (p:=Da) (q:=Bf [A5]) (l:=Dd DT Da b.AA)).trans Cq;have D:EH h (BI bi G) (put (put (put h bi 2 y) bi 2 f) bi 3 d) (BI bi G):=(BL.trans BL).trans BL;by_cases h0:b.tm=[]
 .have v:BX (put (put (put h bi 2 y) bi 2 f) bi 3 d) bi a f d t G {b with AA:=Dd Da (Bf [A5]) (Dd DT Da b.AA),AY:=Fz b.AY,tm:=b.tm.dropLast}:=by
   have:b.tm.dropLast=b.tm:=by rw[h0];rfl
   rw[this];exact j
  obtain⟨R,z,s,L⟩:=so v (rm.sub (b':={b with AA:=Dd Da (Bf [A5]) (Dd DT Da b.AA),AY:=Fz b.AY,tm:=b.tm.dropLast}) rfl sO (Ca _ _) Ax);refine⟨R,f,d,t,?_,by rw[e];exact s,by rw[e];exact YO,D.trans L⟩;have B:Az (.len false) [t]=some (I 0):=by rw[lt,h0];rfl
  rw[Ae,XJ];simp only[abS,(Ie w).Ad,A.Ad,Jz,r2.Ad,yD,J.Ad,H.Ad,l6,B,z.Ad,Uo]
 .have hpos:=Em.2 h0;obtain⟨T,S,i⟩:=Bz.Sd (w.t.1.ne h0) (k:= .i64) (n:=b.tm.length-1) Ac;rw[<-U5] at i;obtain⟨N,z,g⟩:=z_ (.inl i) Ek (put (put (put h bi 2 y) bi 2 f) bi 3 d);have s:=j.sr g;obtain⟨Q,O,M,K⟩:=so s (rm.sub (b':={b with AA:=Dd Da (Bf [A5]) (Dd DT Da b.AA),AY:=Fz b.AY,tm:=b.tm.dropLast}) rfl sO (Ca _ _) Ax);refine⟨Q,f,d,N,?_,by rw[e];exact M,by rw[e];exact YO,(D.trans BL).trans K⟩;rw[Ae,XJ];simp only[abS,(Ie w).Ad,A.Ad,Jz,r2.Ad,yD,J.Ad,H.Ad,l6,lt,(Ac:(0:Int)<(b.tm.length:Int)),MV hpos (Ac:b.tm.length<9223372036854775807),S,z.Ad,j.st (k:=6) (v0:=t) rfl g.1.cells,O.Ad,Uo]
def aEi(w:BX h bi a o c t G b):∃h',B2 cx 61 [Pt bi 0] h (.tuple []) h'/\BX h' bi a o c t G {b with stop:=true}/\EH h (BI bi G) h' (BI bi G):=by refine⟨_,?_,w.put (k:=19) (v:= .bool true) rfl rfl w.o w.t,BL⟩;rw[Ae,tH];simp only[B9,(Ie w).Ad,w.st (k:=19) (v:=tt) rfl rfl]
def A_(w:BX h bi a o c t G b)(rm:Cf b m):∃h' o',B2 cx 64 [Pt bi 2] h (.agg b.sK.row) h'/\BX h' bi a o' c t G b.Hj/\EH h (BI bi G) h' (BI bi G):=by
 have ho:=rm.AA;have ld:Bd h none (Pt bi 2)=some o:=w.ld 2;have lo:=Bz.GO w.o;unfold BS.Hj BS.sK;by_cases h2:b.AA.length<2;.refine⟨h,o,?_,by rw[Ag h2];exact w,.refl⟩;rw[Ag h2,Ae,XK];simp only[abS,↓reduceIte,Bj,(Sw w.sA).Ad,(Ac:(b.AA.length:Int)<2)];rfl
 .obtain⟨u,e,hu⟩:=Bz.Sd w.o (k:= .i64) (n:=b.AA.length-1) Ac;refine⟨_,u,?_,by rw[Af h2];exact w.Mo hu,BL⟩;rw[Af h2,Ae,XK];simp only[abS,↓reduceIte,Bj,Jw,(Sw w.sA).Ad,(Ac:¬(b.AA.length:Int)<2),(f39 w.sA Ac).Ad,ld,lo,MV (Ac:0<b.AA.length) (Ac:b.AA.length<9223372036854775807),e,w.st (k:=2) (v0:=o) rfl (Bz.cells hu)]
end
def SG{U:Type}(enc:U->List Aa)(DL:U->Ai->Prop)(Z:U->Nat)(i:Nat)(IE:U->Ai->Prop)(s:U):JE:=
 λx vs h1=>(x= .normal/\∃s',vs=enc s'/\DL s' h1/\Z s'<Z s)\/(x= .exit i/\∃s',vs=enc s'/\IE s' h1)
def SG.next{U:Type}{enc:U->List Aa}{DL IE:U->Ai->Prop}{Z:U->Nat}{i:Nat}{s:U}{vs:List Aa}{h:Ai}(s':U)(e:vs=enc s')(hi:DL s' h)(hl:Z s'<Z s):SG enc DL Z i IE s .normal vs h:= .inl ⟨rfl,s',e,hi,hl⟩
def SG.IE{U:Type}{enc:U->List Aa}{DL IE:U->Ai->Prop}{Z:U->Nat}{i:Nat}{s:U}{vs:List Aa}{h:Ai}(s':U)(e:vs=enc s')(hi:IE s' h):SG enc DL Z i IE s (.exit i) vs h:= .inr ⟨rfl,s',e,hi⟩
def E2{C:Fx}{Q:JE}{h:Ai}{U:Type}{key i:Nat}{init:List Aa}{body:List Aa->IT}{k:DV->List Aa->IT}(enc:U->List Aa)(DL:U->Ai->Prop)(Z:U->Nat)(IE:U->Ai->Prop)(s0:U)(h0:init=enc s0)(hi:DL s0 h)
  (round:∀s h,DL s h->W C (body (enc s)) (SG enc DL Z i IE s) h) (hk:∀s h,IE s h->W C (k (.exit i) (enc s)) Q h):W C (.loop key init body k) Q h:=by
 refine BM enc DL Z s0 h0 hi λs h hs=>W.mono (round s h hs) ?_;rintro x vs h1 (hn|⟨rfl,s',rfl,hf⟩);.exact .inl hn
 .exact .inr ⟨Ax,hk s' h1 hf⟩
def TL{h:Ai}{id z:Nat}{Av:List (List Aa)}(hr:∀r∈Av,r.length=z)(hc:h[id]?=some (.cells Av.flatten)){i:Nat}(hi:i<Av.length):Bd h (some z) (Pt id (i*z))=some (.agg Av[i]):=by
 have hl:i*z+z<=Av.flatten.length:=by rw[HE hr];have:=D1 z (Ac:i+1<=Av.length);rwa [BC,Eo] at this
 simp only[Bd,hc,My];rw[Ag hl,It hr,Ay hi,CB,Dz (by rw[hr _ (Bb hi)];exact Ab _),A8 (by rw[hr _ (Bb hi)];exact Ab _)]
section
variable{h h':Ai}{bi a:Nat}{o c t:Aa}{G G' F:Nat->Prop}{b b':BS}{x:Int}{m:Nat}
variable{nm:Aj}{av:Aa}{l:List AZ}{r:List Aa}{sp p:Int}
def su(e:De)(h:Ai):∃r,B2 cx 122 [.agg e.row] h (.agg r) h/\XY e.c.name e.v r:=by have hv:e.v.cells=[e.v]:=Bz.cells e.ok;refine⟨_,?_,I 2,ff,S [],ff,S [],ff,ff,ff,S [],.int .i32 0,rfl⟩;rw[Ae,eA,De.row];simp only[abS,Nat.reduceLeDiff,↓reduceIte,Bj,hv]
def aA:∀{l:List Ci} {b:BS} {m:Nat},Cf b (m+4*l.length)->(∀e∈l,e.name.length<=1000/\E1 e.As)->Cf (BS.Ke l b).2 m
 |[],b,m,r,_=>by simpa[BS.Ke] using r
 |e::l,b,m,r,hl=>by have h1:=hl e Ax;rw[BS.Ke];exact aA (JR (m:=m+4*l.length) (r.le Ek) h1.2 h1.1) λx hx=>hl x (by simp[hx])
def jB:b.OU<=b.AY.length:=by unfold BS.OU;rcases D5 (q:=b.settled) (l:=b.AY) with⟨h,_⟩|⟨n,h1,h2,_⟩<;>omega
structure jC(h:Ai)(bi a:Nat)(t:Aa)(G0:Nat->Prop)(b:BS)(fs:List De)(id m k:Nat)(h1:Ai):Prop where
 le:k<=fs.length
 low:b.OU<=k
 ex:∃(o:Aa) (G:Nat->Prop) (b1:BS) (Yy:List De),BX h1 bi a o (.CT id 0 fs.length 3) t G b1/\E0 b1/\Cf b1 (m+4*(fs.length-k))/\h1[id]?=some (.cells (Yy.map De.row).flatten)/\Yy.length=fs.length/\Yy.drop k=fs.drop k/\
  BS.AU b={(BS.Ke (b.AY.drop k) b1).2 with AY:=(Yy.take k).map (·.c)++(BS.Ke (b.AY.drop k) b1).1}/\¬BI bi G id/\EH h (BI bi G0) h1 (BI bi G)
def BX.jD(w:BX h bi a o c t G {b with AY:=b.AY}):BX h bi a o c t G b:=w
def X4{h1:Ai}{id:Nat}{v v':Aa}(ha:At h id 3 v)(hf:KK h v=some (h1,v'))(he:h1[id]?=h[id]?):Kk h 3 (Pt id 0)=some (Am.put h1 id 3 v'):=by obtain⟨cs,hc,e⟩:=ha;rw[hc] at he;unfold Kk;simp only[hc,BB,e,hf,Cd,he];rw[HQ he]
def B_{v:Aa}{l:List De}(hv:EP l v):KK h v=some (h,v):=by rcases hv with rfl|⟨rfl,_⟩<;>rfl
def aEj{v:Aa}(hv:EP [] v)(h:Ai):∃u,B2 cx 121 [v] h u h/\EP [] u:=by
 have d:=mR (h:=h) (s:= .sl 3 []) (b:=48) (.inr rfl) hv;rcases hv with rfl|⟨rfl,h0⟩
 .refine⟨.sl 3 [],?_,.mk⟩;rw[Ae,Sn];simp only[Dc] at d;simp only[B9,Dc,show Az (.Fe false .sl) [.sl 3 [],.slnil]=some (.bool false) from rfl,show Az (.DX 3) []=some (.sl 3 []) from rfl,d]
 .refine⟨.slnil,?_,.inr ⟨rfl,rfl⟩⟩;rw[Ae,Sn];simp only[B9,show Az (.Fe false .sl) [.slnil,.slnil]=some (.bool true) from rfl]
def jC.init(w:BX h bi a o c t G b)(ok:E0 b)(rm:Cf b (m+4*b.AY.length)){fs:List De}(JF:fs.map (·.c)=b.AY):
  jC h bi a t G b fs h.length m b.OU (Am.put (h++[.cells (fs.map De.row).flatten]) bi 3 (.CT h.length 0 fs.length 3)):=by
 have Iq:b.AY.length=fs.length:=by rw[<-JF,Aw]
 have hk:=jB (b:=b);have hne:h.length≠bi:=Nat.ne_of_gt w.lt;refine⟨Ac,Ab _,o,G,b,fs,((w.Jn (u:=[.cells (fs.map De.row).flatten])).PH (l:=b.AY)).jD,ok,rm.le Ac,?_,rfl,rfl,?_,?_,w.D6.trans BL⟩;.rw[CU hne];simp
 .unfold BS.AU;simp only;rw[GM,JF]
 .rintro(rfl|hg);.exact hne rfl
  .exact absurd (w.w.lt hg) (Di _)
def jC.step{fs:List De}{id k:Nat}{h1:Ai}(JF:fs.map (·.c)=b.AY)(Ri:∀e∈b.AY,e.name.length<=1000/\E1 e.As)(hi:h.length<=id)(hlt:k<fs.length)(i:jC h bi a t G b fs id m k h1):
  ∃(r:List Aa) (h2:Ai) (n:Int),Bd h1 none (Pt bi 3)=some (.CT id 0 fs.length 3)/\Bd h1 (some 3) (Pt id (k*3))=some (.agg fs[k].row)/\B2 cx 122 [.agg fs[k].row] h1 (.agg r) h1/\B2 cx 47 [Pt bi 0,.agg r] h1 (I n) h2/\Bd h2 none (Pt bi 3)=some (.CT id 0 fs.length 3)/\
   CK h2 1 (Pt id (k*3)) (I n)=some (Am.put h2 id (k*3) (I n))/\jC h bi a t G b fs id m (k+1) (Am.put h2 id (k*3) (I n)):=by
 obtain⟨E,H,b1,Yy,w1,i5,f,YJ,az,Ś,q,RO,g⟩:=i.ex;have dr:k<Yy.length:=Ac;have Iq:b.AY.length=fs.length:=by rw[<-JF,Aw]
 have aEk:k<b.AY.length:=Ac;have s:Yy[k]=fs[k]:=by have:=Cm (λl=>l[0]?) Ś;simp only[Cn,Bp] at this;rw[Au dr,Au hlt] at this;exact D3 this
 have z:b.AY[k]=fs[k].c:=by simp only[<-JF,FE]
 have ĵ:=TL (cM Yy) YJ (i:=k) (by simpa using dr);rw[FE,s] at ĵ;have Ri:=Ri fs[k].c (by rw[<-z];exact Bb aEk);obtain⟨r,B,hr⟩:=su fs[k] h1;obtain⟨h2,C,A,r2,y,d⟩:=di (m:=m+4*(fs.length-(k+1))) w1 i5.ba (f.le Ac) hr fs[k].ok Ri.2 Ri.1;have xl:id<h1.length:=(Al.1 YJ).1;have KS:h2[id]?=some (.cells (Yy.map De.row).flatten):=by rw[d.old id xl RO];exact YJ
 have j9:¬BI bi A id:=λhg=>by
  rcases d.BI id hg with hg|hg
  .exact RO hg
  .omega
 have w:At h2 id (k*3) (I fs[k].c.node):=⟨_,KS,by have:=PF (k:=0) (cM Yy) AM (i:=k) (r:=fs[k].row) (by rw[CA,Au dr,s];rfl);rw[Bp] at this;rw[this];rfl⟩
 let u:De:=⟨{fs[k].c with node:=b1.a.len+1},fs[k].v,fs[k].ok⟩
 have hrow:(Yy.map De.row).flatten.set (k*3) (I (b1.a.len+1))=((Yy.set k u).map De.row).flatten:=by have:=Z5 (Av:=Yy.map De.row) (i:=k) (k:=0) (v:= I (b1.a.len+1)) (cM Yy) (by simpa using dr) AM;rw[Bp] at this;rw[IL,Ce,Ag (by rw[HE (cM Yy),Aw];omega)];rw[AT] at this;rw[show u.row=((Yy.map De.row)[k]'(by simpa using dr)).set 0 (I (b1.a.len+1)) by rw[FE,s];rfl];exact this
 have D:id≠bi:=λe=>j9 (.inl e);refine⟨r,h2,b1.a.len+1,w1.l3,ĵ,B,r2,y.l3,w.store rfl,⟨hlt,by have:=i.low;omega,C,A,_,Yy.set k u,y.E4 λj hj=>CU λe=>j9 (e▸hj),Rh i5,JR (m:=m+4*(fs.length-(k+1))) (f.le Ac) Ri.2 Ri.1,?_,by rw[BY];exact az,?_,?_,j9,⟨by rw[LA];exact(g.trans d).len,λj hj hn=>(CU Ac).trans ((g.trans d).old j hj hn),(g.trans d).BI⟩⟩⟩;.rw[HQ KS,AD (by have:=d.len;omega),hrow]
 .rw[aGm (SZ k)];have:=Cm (λl=>l.drop 1) Ś;simpa[ED] using this
 .rw[q,Ay aEk,z,BS.Ke];simp only
  congr 1
  rw[AP (by rw[BY];exact dr),List.getElem_set_self,BW,Za (Ab k),AT];rfl
def aEl(w:BX h bi a o c t G b)(hc:Dn b.AY c)(ok:E0 b)(rm:Cf b (m+4*b.AY.length)):
  ∃h' o' c' G',B2 cx 55 [Pt bi 0] h (.tuple []) h'/\BX h' bi a o' c' t G' b.AU/\Dn b.AU.AY c'/\EH h (BI bi G) h' (BI bi G'):=by
 have ho:=rm.AA;have XG:=rm.AY;obtain⟨fs,JF,hcs⟩:=hc;have Iq:b.AY.length=fs.length:=by rw[<-JF,Aw]
 have OT:Ev cx 55 [Pt bi 0] h λr h'=>r= .tuple []/\∃o' c' G',BX h' bi a o' c' t G' b.AU/\Dn b.AU.AY c'/\EH h (BI bi G) h' (BI bi G'):=by
  unfold Ev;have l3:=w.l3;have lc:=Bz.GO hcs;rw[tE];simp only[abS,(Ie w).Ad,l3,lc];refine E2 (i:=0) (λn:Nat=>[I (n:Int)]) (λn h1=>n<=fs.length/\AW b.settled b.AY=AW b.settled (b.AY.take n)/\h1=h) (λn=>n) (λn h1=>n=b.OU/\h1=h) fs.length rfl ⟨Ab _,by rw[<-Iq,BN],rfl⟩ ?_ ?_
  .rintro n h1 ⟨hn,ha,rfl⟩;cases n with
   |zero=>simp only[abS,(AM:¬(0:Int)<((0:Nat):Int))];refine .IE 0 rfl ⟨?_,rfl⟩;unfold BS.OU;rw[ha];rfl
   |succ n=>
    have hlt:n<b.AY.length:=Ac;have de:n<fs.length:=Ac;rw[N9 hlt] at ha;have i1:=MV (n:=n+1) (Ac:0<n+1) (Ac:n+1<9223372036854775807);rw[Lq] at i1;have d:=Bz.DB (k:= .i64) hcs de;have en:fs[n].c.node=b.AY[n].node:=by simp only[<-JF,FE]
    have f:=YZ w.sA Ac b.AY[n].node;have g:b.settled b.AY[n]=true->n+1=b.OU:=by intro hs;rw[Ag hs] at ha;unfold BS.OU;rw[ha];omega
    rw[De.row,en] at d;simp only[abS,(Ac:(0:Int)<((n+1:Nat):Int)),l3,i1,d,f.Ad,Cj];refine⟨λh1=>⟨λh2=>?_,λh2=>?_⟩,λh1=>?_⟩
    .have hs:b.settled b.AY[n]=false:=by unfold BS.settled;rw[Ah];omega
     rw[Af (by rw[hs];decide)] at ha;exact .next n rfl ⟨Ac,ha,rfl⟩ Ac
    .exact .IE (n+1) rfl ⟨g (by unfold BS.settled;rw[Ak];omega),rfl⟩
    .exact .IE (n+1) rfl ⟨g (by unfold BS.settled;rw[Ak];omega),rfl⟩
  .rintro n h1 ⟨rfl,Q⟩;rw[Q];by_cases hne:fs=[]
   .subst hne;have ha:b.AY=[]:=JF.symm;have g:b.OU=0:=by have:=jB (b:=b);rw[ha] at this;exact Nat.le_zero.1 this
    have hb:b.AU=b:=by unfold BS.AU;rw[ha];simp only[List.drop_nil,BS.Ke,List.take_nil,BR];rw[<-ha]
    obtain⟨u,f,hu⟩:=aEj hcs h;have w1:=(w.PH (u:=u) (l:=b.AY)).jD;have d:=X4 w1.pH (B_ hu) rfl;have C:=Bz.GO hu;have y:=w1.l3;rw[Bk] at C;have hz:(b.OU:Int)=((0:Nat):Int):=by rw[g]
    simp only[abS,l3,f.Ad,w.st (k:=3) (v0:=c) rfl (Bz.cells hu)];refine E2 (i:=2) (λn:Nat=>[I (n:Int)]) (λn h1=>n=0/\h1=Am.put h bi 3 u) (λn=>n) (λn h1=>n=0/\h1=Am.put h bi 3 u) 0 (by rw[hz]) ⟨rfl,rfl⟩ ?_ ?_;.rintro n h1 ⟨rfl,rfl⟩;simp only[abS,y,C,(AM:¬((0:Nat):Int)<((0:Nat):Int))];exact .IE 0 rfl ⟨rfl,rfl⟩
    .rintro n h1 ⟨rfl,rfl⟩;simp only[B9,d];refine⟨_,rfl,rfl,o,u,G,?_,⟨[],by rw[hb,ha];rfl,hu⟩,BL.trans BL⟩;rw[hb];exact(w1.PH (l:=b.AY)).jD
   .have i0:=jC.init (m:=m) w ok rm JF;have f:=Ÿ (h:=h) hcs hne Ac;have w0:=w.Jn (u:=[.cells (fs.map De.row).flatten]);simp only[abS,l3,f.Ad,w0.st (k:=3) (v:= .CT h.length 0 fs.length 3) (v0:=c) rfl rfl];refine E2 (i:=2) (λn:Nat=>[I (n:Int)]) (λk h1=>jC h bi a t G b fs h.length m k h1) (λk=>fs.length-k) (λk h1=>k=fs.length/\jC h bi a t G b fs h.length m k h1) b.OU rfl i0 ?_ ?_
    .intro k h1 i;have Es:=i.le;have D:Az (.len false) [.CT h.length 0 fs.length 3]=some (I (fs.length:Int)):=rfl;rcases Bl k fs.length with hlt|GS
     .obtain⟨r,h2,n,O,N,M,L,K,J,H⟩:=jC.step JF rm.DD (Ab _) hlt i;have d:Az (.FG 3) [.CT h.length 0 fs.length 3,I (k:Int)]=some (Pt h.length (k*3)):=Ge hlt;simp only[abS,O,D,(Ac:(k:Int)<(fs.length:Int)),d,N,M.Ad,Dj,L.Ad,K,J,CE (Ac:k<9223372036854775807)];exact .next (k+1) rfl H Ac
     .obtain⟨s,B,b1,Yy,w1,_⟩:=i.ex;simp only[abS,w1.l3,D,(Ac:¬(k:Int)<(fs.length:Int))];exact .IE k rfl ⟨Ac,i⟩
    .rintro k h1 ⟨rfl,i⟩;obtain⟨s,B,b1,Yy,w1,i5,P,YJ,az,Ś,A,RO,q⟩:=i.ex;have hf:=Nt (cM Yy) YJ;rw[Aw,az] at hf;have z:h.length≠bi:=λe=>RO (.inl e);have d:=X4 w1.pH hf (by rw[Ap z]);have E:BX (h1.set h.length .Dw) bi a s _ t B b1:=w1.E4 λj hj=>Ap λe=>RO (by rw[e];exact hj);simp only[B9,d];have hb:b.AU={b1 with AY:=Yy.map (·.c)}:=by rw[A,AV Ac,A8 Ac];simp only[BS.Ke,Bs]
     refine⟨_,rfl,rfl,s,_,B,by rw[hb];exact E.PH,⟨Yy,by rw[hb],.mk⟩,?_⟩;refine EH.trans ⟨by rw[BY];exact q.len,λj hj hn=>?_,q.BI⟩ BL;rw[Ap Ac];exact q.old j hj hn
 obtain⟨r,h',hr,rfl,o',c',G',w',OZ,x'⟩:=OT.ret;exact⟨h',o',c',G',hr,w',OZ,x'⟩
end
def C_{id l k:Nat}(hl:0<l)(hk:k<=l):Az (.PU 3 false false true) [.CT id 0 l 3,I (k:Int)]=some (.CT id 0 k 3):=by
 have d:En (k:Int) l=some k:=by unfold En;rw[Ag Ac];rfl
 simp[Az,Im,Dx,d];omega
def D_{id l k:Nat}(hk:k<=l):Az (.PU 3 false true false) [.CT id 0 l 3,I (k:Int)]=some (if k<l then .CT id (k*3) (l-k) 3 else .sl 3 []):=by
 have d:En (k:Int) l=some k:=by unfold En;rw[Ag Ac];rfl
 simp[Az,Im,Dx,d];split<;>rfl
def Ja{U:Type}{l:List U}{k:Nat}(hk:k<l.length):(Bv l k).length=l.length-1:=by unfold Bv;rw[Ao,AB,Bi];omega
def aEm{h:Ai}{id k:Nat}{Av:List (List Aa)}(hr:∀r∈Av,r.length=3)(hc:h[id]?=some (.cells Av.flatten))(hk:k<Av.length)(hb:Av.length<=1000000000):
  ∃GB,B2 cx 264 [.CT id 0 Av.length 3,I (k:Int),I ((k+1:Nat):Int)] h (.CT id 0 (Av.length-1) 3) (h.set id (.cells ((Bv Av k).flatten++GB))):=by
 have Ik:=(Al.1 hc).1;have Ž:=Ja hk;have kJ:=HE hr;have s:∀r∈Bv Av k,r.length=3:=λr hm=>hr r (by
  unfold Bv at hm;rcases Aq.1 hm with hm|hm
  .exact A0 hm
  .exact Bu hm)
 have vX:=HE s;rw[Ž] at vX;have T6:(Av.take k).flatten=Av.flatten.take (k*3):=(ZP hr).symm;have ĳ:(Av.drop (k+1)).flatten=Av.flatten.drop ((k+1)*3):=(It hr).symm;obtain⟨RU,v,hcl⟩:∃RU,FN h 3 48 (.CT id 0 k 3) (if k+1<Av.length then .CT id ((k+1)*3) (Av.length-(k+1)) 3 else .sl 3 [])=some (h.set id (.cells ((Bv Av k).flatten++RU)),.CT id 0 (Av.length-1) 3)/\RU.length=3:=by
  have f:GX h 3 (if k+1<Av.length then .CT id ((k+1)*3) (Av.length-(k+1)) 3 else .sl 3 [])=some (Av.drop (k+1)):=by
   by_cases Zq:k+1<Av.length;.rw[Ag Zq];have j:=ZQ hr (n:=Av.length-(k+1)) (off:=k+1) Ac;rw[A8 (by rw[Bi];exact Ab _)] at j;simp only[GX,BE,hc,j];rw[Ag (by rw[kJ];omega)]
   .rw[Af Zq,AV Ac];rfl
  by_cases aDI:k+1=Av.length
  .refine⟨Av.flatten.drop (k*3),?_,by rw[Bi,kJ];omega⟩;have g:Av.drop (k+1)=[]:=AV Ac;rw[g] at f;have u:(Bv Av k).flatten++Av.flatten.drop (k*3)=Av.flatten:=by unfold Bv;rw[g,Bs,T6,Cw]
   have A:h.set id (.cells ((Bv Av k).flatten++Av.flatten.drop (k*3)))=h:=by rw[u];obtain⟨pF,z⟩:=Al.1 hc;rw[<-z,Jg]
   simp only[FN,f,BE];rw[A,(Ac:Av.length-1=k)]
  .obtain⟨y,q,hd⟩:∃y q,Av.drop (k+1)=y::q:=⟨_,_,Ay (Ac:k+1<Av.length)⟩;have nR:(y::q).length=Av.length-(k+1):=by rw[<-hd,Bi]
   refine⟨Av.flatten.drop ((Av.length-1)*3),?_,by rw[Bi,kJ];omega⟩;rw[hd] at f;simp only[FN,f,hc,BE];rw[nR,Ag (by rw[kJ];omega)];rw[<-hd,ĳ,BB,BB,(Ac:k+(Av.length-(k+1))=Av.length-1)];unfold Bv;rw[OO,T6,ĳ]
 generalize ÿ:h.set id (.cells ((Bv Av k).flatten++RU))=h2 at v;have KS:h2[id]?=some (.cells ((Bv Av k).flatten++RU)):=by rw[<-ÿ];exact AD Ik
 have uE:((Bv Av k).flatten++RU).length=Av.length*3:=by rw[Ao,vX,hcl];omega
 have g:DZ (.zC 3 true true) h2 [.CT id 0 (Av.length-1) 3,I ((Av.length-1:Nat):Int),I (Av.length:Int)]=some (h2,.CT id ((Av.length-1)*3) 1 3):=by
  simp only[DZ,kP,KS];have B:En (Av.length:Int) ((((Bv Av k).flatten++RU).length-0)/3)=some Av.length:=by unfold En;rw[Ag (by rw[uE];omega)];rfl
  have j:En ((Av.length-1:Nat):Int) Av.length=some (Av.length-1):=by unfold En;rw[Ag Ac];rfl
  rw[Ag ⟨trivial,trivial,Bc _⟩];simp only[Dx,B,j,Cd,BJ];rw[Ag (by rw[uE];omega)];congr 3
  .omega
  .omega
 have w:DZ (.clear 3 [I 0,S [],.slnil]) h2 [.CT id ((Av.length-1)*3) 1 3]=some (h.set id (.cells ((Bv Av k).flatten++[I 0,S [],.slnil])),.bool true):=by
  simp only[DZ,VX,KS];rw[Ag ⟨trivial,rfl,by rw[uE];omega⟩];congr 2
  rw[<-ÿ,Mh];congr 2
  rw[I0 vX,AV (by rw[uE];omega)];simp
 refine⟨[I 0,S [],.slnil],?_⟩;have d:∀i n,Az (.len false) [.CT i 0 n 3]=some (I (n:Int)):=λ_ _=>rfl;have u:DZ (.pL 3) h [.CT id 0 Av.length 3,I (k:Int),I ((k+1:Nat):Int),I (Av.length:Int)]=some (h,.bool true):=by simp only[DZ,VY];simp;omega
 rw[Ae,iL];simp only[abS,d,u,(Ac:¬(k:Int)=((k+1:Nat):Int)),C_ (id:=id) (Ac:0<Av.length) (Ac:k<=Av.length),D_ (id:=id) (Ac:k+1<=Av.length),v,g,w]
def SH{z:Nat}:∀{Av:List (List Aa)} {cs Tm:List Aa},(∀r∈Av,r.length=z)->Cp (Tm++(Av.flatten++cs)) z Tm.length Av.length=Av
 |[],_,_,_=>rfl
 |x::Av,cs,Tm,h=>by have hx:=h x Ax;have:=SH (Av:=Av) (cs:=cs) (Tm:=Tm++x) (λr hr=>h r (by simp[hr]));simp only[AT,Ao,hx] at this;simp only[CB,AG,Cp,AT];rw[La rfl,I0 hx,this]
def uK{h:Ai}{id z:Nat}{Av:List (List Aa)}{cs:List Aa}(hr:∀r∈Av,r.length=z)(hc:h[id]?=some (.cells (Av.flatten++cs))):KK h (.CT id 0 Av.length z)=some (h.set id .Dw,.sl z Av):=by unfold KK;simp only[hc,BB];have:=SH (cs:=cs) (Tm:=[]) hr;simp only[BR,Bk] at this;rw[Ag (by rw[Ao,HE hr];omega),this]
def Fp(e:De)(at_ mk:Int)(anc far:Item)(last:Int):List Aa:=
 [I e.c.node,.str e.c.name,e.v,I at_,I mk,I anc.node,I anc.Be,.str anc.name,.bool anc.OI,I far.node,I far.Be,.str far.name,.bool far.OI,I last]
def Mp(ai bi:Nat)(G:Nat->Prop):Nat->Prop:=λi=>i=ai\/BI bi G i
section
variable{h h':Ai}{bi a ai:Nat}{o c t:Aa}{G G' F:Nat->Prop}{b b':BS}{x:Int}{m:Nat}
variable{nm:Aj}{av:Aa}{l:List AZ}{r:List Aa}{sp p:Int}{e:De}{at_ mk last:Int}{anc far:Item}
def EB(x:EH h (BI bi G) h' (BI bi G'))(ai:Nat):EH h (Mp ai bi G) h' (Mp ai bi G'):=
 ⟨x.len,λi hi hn=>x.old i hi λhg=>hn (.inr hg),λi hi=>by
  rcases hi with hi|hi
  .exact .inl (.inl hi)
  .rcases x.BI i hi with h|h
   .exact .inl (.inr h)
   .exact .inr h⟩
def PI{k:Nat}{v:Aa}:EH h (Am.Mp ai bi G) (put h ai k v) (Am.Mp ai bi G):=⟨by rw[LA];exact Ab _,λi _ hn=>CU λe=>hn (.inl e),λ_ h=> .inl h⟩
def Jr{id k:Nat}{v:Aa}{cs:List Aa}(hc:h[id]?=some (.cells cs)):(put h id k v)[id]?=some (.cells (cs.set k v)):=by rw[HQ hc,AD (Al.1 hc).1]
def down(k:Nat)(x:Int):Int:=if(k:Int)<x then x-1 else x
def yE(w:BX h bi a o c t G b)(hc:Dn b.AY c)(rm:Cf b m)(ha:h[ai]?=some (.cells (Fp e at_ mk anc far last)))(hn:¬BI bi G ai){k:Nat}(hk:k<b.AY.length)(h1:0<=at_/\at_<=1000000000)(h2:0<=mk/\mk<=1000000000):
  ∃h' c',B2 cx 213 [Pt ai 0,Pt bi 0,I (k:Int)] h (.tuple []) h'/\BX h' bi a o c' t G {b with AY:=Bv b.AY k}/\Dn (Bv b.AY k) c'/\h'[ai]?=some (.cells (Fp e (down k at_) (down k mk) anc far last))/\EH h (Mp ai bi G) h' (Mp ai bi G):=by
 obtain⟨fs,JF,hcs⟩:=hc;have XG:=rm.AY;have Iq:b.AY.length=fs.length:=by rw[<-JF,Aw]
 have hne:fs≠[]:=by intro e;rw[Iq,e] at hk;exact absurd hk (Nat.not_lt_zero _)
 have bo:ai≠bi:=λe=>hn (.inl e);have z:ai<h.length:=(Al.1 ha).1;have C:=Ÿ (h:=h) hcs hne Ac;have hX:(h++[EN.cells (fs.map De.row).flatten])[h.length]?=some (.cells (fs.map De.row).flatten):=Ax;obtain⟨GB,r2⟩:=aEm (cM fs) hX (k:=k) Ek Ek;rw[Aw] at r2;have e2:(h++[EN.cells (fs.map De.row).flatten]).set h.length (.cells ((Bv (fs.map De.row) k).flatten++GB))=h++[.cells ((Bv (fs.map De.row) k).flatten++GB)]:=by rw[B0 _ _ (Ab _),Eb];rfl
 rw[e2] at r2;generalize A:h++[EN.cells ((Bv (fs.map De.row) k).flatten++GB)]=H at r2;have w1:BX H bi a o c t G b:=by rw[<-A];exact w.Jn
 have mb:H[ai]?=some (.cells (Fp e at_ mk anc far last)):=by rw[<-A,An z];exact ha
 have Q:H[h.length]?=some (.cells ((Bv (fs.map De.row) k).flatten++GB)):=by rw[<-A];simp
 have hL:H.length=h.length+1:=by rw[<-A];simp
 have Z:EH h (Mp ai bi G) H (Mp ai bi G):=by rw[<-A];exact EB w.D6 ai
 have s:bi≠h.length:=OX w.lt;have kD:ai≠h.length:=OX z;have B:=w1.st (k:=3) (v:= .CT h.length 0 (fs.length-1) 3) (v0:=c) rfl rfl;have w2:=w1.PH (u:= .CT h.length 0 (fs.length-1) 3) (l:=b.AY);have Tn:(put H bi 3 (.CT h.length 0 (fs.length-1) 3))[ai]?=some (.cells (Fp e at_ mk anc far last)):=by rw[CU bo];exact mb
 have P:(put H bi 3 (.CT h.length 0 (fs.length-1) 3))[h.length]?=some (.cells ((Bv (fs.map De.row) k).flatten++GB)):=by rw[CU (DC s)];exact Q
 have Y:EH h (Mp ai bi G) (put H bi 3 (.CT h.length 0 (fs.length-1) 3)) (Mp ai bi G):=Z.trans (EB BL ai);generalize R:put H bi 3 (.CT h.length 0 (fs.length-1) 3)=f at*;have hL2:f.length=h.length+1:=by rw[<-R,LA,hL]
 have t3:At f ai 3 (I at_):=⟨_,Tn,rfl⟩;have mg:=Jr (k:=3) (v:= I (down k at_)) Tn;have E:put f ai 3 (I (down k at_))=if(k:Int)<at_ then put f ai 3 (I (at_-1)) else f:=by
  unfold down;split;.rfl
  .exact t3.same
 have w3:BX (put f ai 3 (I (down k at_))) bi a o _ t G _:=w2.E4 λj hj=>CU λe=>hn (e▸hj);have O:(put f ai 3 (I (down k at_)))[h.length]?=_:=(CU (DC kD)).trans P;have X:=Y.trans (PI (k:=3) (v:= I (down k at_)));generalize hH3:put f ai 3 (I (down k at_))=d at*;have t4:At d ai 4 (I mk):=⟨_,mg,rfl⟩;have M:=Jr (k:=4) (v:= I (down k mk)) mg;have q:put d ai 4 (I (down k mk))=if(k:Int)<mk then put d ai 4 (I (mk-1)) else d:=by
  unfold down;split;.rfl
  .exact t4.same
 have T:BX (put d ai 4 (I (down k mk))) bi a o _ t G _:=w3.E4 λj hj=>CU λe=>hn (e▸hj);have N:(put d ai 4 (I (down k mk)))[h.length]?=_:=(CU (DC kD)).trans O;have J:=X.trans (PI (k:=4) (v:= I (down k mk)));generalize hH4:put d ai 4 (I (down k mk))=S at*;have L:∀r∈Bv (fs.map De.row) k,r.length=3:=λr hm=>cM fs r (by
  unfold Bv at hm;rcases Aq.1 hm with hm|hm
  .exact A0 hm
  .exact Bu hm)
 have f4:=uK L N;rw[Ja Ek,Aw] at f4;have D:=X4 T.pH f4 (by rw[Ap (DC s)]);have w5:BX (S.set h.length .Dw) bi a o _ t G {b with AY:=b.AY}:=T.E4 λj hj=>Ap λe=>by
  subst e;rcases hj with hj|hj
  .exact s hj.symm
  .exact absurd (w.w.lt hj) (Di _)
 have ed:Bv (fs.map De.row) k=(Bv fs k).map De.row:=by unfold Bv;rw[BW,GM,K5]
 have ec:(Bv fs k).map (·.c)=Bv b.AY k:=by unfold Bv;rw[BW,GM,K5,JF]
 refine⟨_,.sl 3 (Bv (fs.map De.row) k),?_,w5.PH (l:=Bv b.AY k),⟨Bv fs k,ec,by rw[ed];exact .mk⟩,?_,?_⟩
 .have i:Bd f none (Pt ai 3)=some (I at_):=t3.load;have g:Bd d none (Pt ai 4)=some (I mk):=t4.load;have inc:=CE (Ac:k<9223372036854775807);have W:=DN (Ac: -9223372036854775808<=at_-1) (Ac:at_-1<9223372036854775808);have V:=DN (Ac: -9223372036854775808<=mk-1) (Ac:mk-1<9223372036854775808);rw[Ae,gE];by_cases y:(k:Int)<at_
  .rw[Ag y] at E;have U:CK f 1 (Pt ai 3) (I (at_-1))=some d:=by rw[E];exact t3.store rfl
   by_cases n:(k:Int)<mk
   .rw[Ag n] at q;have K:CK d 1 (Pt ai 4) (I (mk-1))=some S:=by rw[q];exact t4.store rfl
    simp only[abS,w.l3,C.Ad,inc,r2.Ad,B,i,y,W,U,g,n,V,K,D]
   .rw[Af n] at q;subst q;simp only[abS,w.l3,C.Ad,inc,r2.Ad,B,i,y,W,U,g,n,D]
  .rw[Af y] at E;subst E;by_cases n:(k:Int)<mk
   .rw[Ag n] at q;have K:CK d 1 (Pt ai 4) (I (mk-1))=some S:=by rw[q];exact t4.store rfl
    simp only[abS,w.l3,C.Ad,inc,r2.Ad,B,i,y,g,n,V,K,D]
   .rw[Af n] at q;subst q;simp only[abS,w.l3,C.Ad,inc,r2.Ad,B,i,y,g,n,D]
 .rw[CU bo,Ap (DC kD),M];rfl
 .refine EH.trans ⟨by rw[BY];exact J.len,λj hj hn=>?_,J.BI⟩ (EB BL ai);rw[Ap Ac];exact J.old j hj hn
end
section
variable{U:Type}{q:U->Bool}{l:List U}
def Jb{p:Nat}(hp:p<l.length)(h1:q l[p]=true)(h2:∀j (hj:j<l.length),p<j->q l[j]=false):AW q l=(p:Int):=by
 rcases D5 (q:=q) (l:=l) with⟨e,h⟩|⟨n,hn,e,d,f⟩
 .rw[h _ (Bb hp)] at h1;exact absurd h1 AM
 .rcases aLz n p with h|h|h
  .have:=f p hp h;rw[this] at h1;exact absurd h1 AM
  .rw[e,h]
  .have:=h2 n hn h;rw[this] at d;exact absurd d AM
def KY{p:Nat}(e:AW q l=(p:Int)):∃hp:p<l.length,q l[p]=true/\∀j (hj:j<l.length),p<j->q l[j]=false:=by
 rcases D5 (q:=q) (l:=l) with⟨g,h⟩|⟨n,hn,g,f,d⟩
 .omega
 .have:n=p:=by omega
  subst this;exact⟨hn,f,λj hj h=>d j hj h⟩
def nW{k j:Nat}(hk:k<l.length):(Bv l k)[j]?=if j<k then l[j]? else l[j+1]?:=by
 unfold Bv;by_cases h:j<k;.rw[Ag h,An (by rw[AB];omega),Cg,Ag h]
 .rw[Af h,Bw (by rw[AB];omega),Cn];congr 1
  rw[AB];omega
def Ou{k j:Nat}(hk:k<l.length)(hj:j<(Bv l k).length):(Bv l k)[j]=if h:j<k then l[j]'(by omega) else l[j+1]'(by rw[Ja hk] at hj;omega):=by
 have hl:=Ja hk;have:=nW (j:=j) hk;rw[Au hj] at this;by_cases h:j<k;.rw[o7 h];rw[Ag h,Au Ac] at this;exact D3 this
 .rw[dif_neg h];rw[Af h,Au Ac] at this;exact D3 this
def jE{p k:Nat}(e:AW q l=(p:Int))(hk:k<l.length)(hne:k≠p):AW q (Bv l k)=down k p:=by
 obtain⟨hp,h1,h2⟩:=KY e;have hl:=Ja hk;unfold down;by_cases d:k<p
 .rw[Ag Ac,(Ac:(p:Int)-1=((p-1:Nat):Int))];refine Jb Ac ?_ ?_;.rw[Ou hk,dif_neg Ac];have:p-1+1=p:=Ac;simp only[this,h1]
  .intro j hj h;rw[Ou hk,dif_neg Ac];exact h2 _ _ Ac
 .rw[Af Ac];refine Jb Ac ?_ ?_;.rw[Ou hk,o7 Ac];exact h1
  .intro j hj h;rw[Ou hk];split;.exact h2 _ _ h
   .exact h2 _ _ Ac
def nX{p k:Nat}{x:U}(e:AW q l=(p:Int))(hne:k≠p)(hx:q x=false):AW q (l.set k x)=(p:Int):=by
 obtain⟨hp,h1,h2⟩:=KY e;refine Jb (by rw[BY];exact hp) ?_ ?_;.rw[List.getElem_set_ne hne];exact h1
 .intro j hj h;rw[List.getElem_set];split;.exact hx
  .rw[BY] at hj;exact h2 j hj h
end
def nY{l:List Item}{i:Nat}(hi:i<l.length)(h0:1<=i):l[i]∈l.tail:=by
 cases l with
 |nil=>simp at hi
 |cons y l=>obtain⟨i,rfl⟩:∃k,i=k+1:=⟨i-1,Ac⟩;simp
def jF{l:List Item}(hn:(l.tail.map Item.node).Nodup){i:Nat}(hi:i<l.length)(h0:1<=i):AW (BK l[i].node) l=(i:Int):=by
 refine Jb hi (by simp[BK]) λj hj h=>?_;by_cases he:l[i].node=l[j].node
 .cases l with
  |nil=>simp at hi
  |cons y l=>
   obtain⟨i,rfl⟩:∃k,i=k+1:=⟨i-1,Ac⟩;obtain⟨j,rfl⟩:∃k,j=k+1:=⟨j-1,Ac⟩;simp only[AG,Nat.add_lt_add_iff_right] at hi hj;have h2:(l.map Item.node)[i]'(by simpa using hi)=(l.map Item.node)[j]'(by simpa using hj):=by simpa using he
   exact absurd h2 (QA.1 hn i j (by simpa using hi) (by simpa using hj) Ac)
 .unfold BK;simpa using λe=>he e.symm
def JV{n:Int}{l:List Ci}(h:0<=Fy n l):∃p:Nat,∃hp:p<l.length,Fy n l=(p:Int)/\n≠0/\l[p].node=n/\AW (Xu n) l=(p:Int):=by
 unfold Fy at h⊢;split at h;.omega
 .rename_i h0;rw[Af h0];obtain⟨p,hp⟩:∃p:Nat,AW (Xu n) l=(p:Int):=⟨_,(HX h).symm⟩;obtain⟨h1,h2,_⟩:=KY hp;exact⟨p,h1,hp,h0,by simpa[Xu] using h2,hp⟩
def du{n:Int}{l:List Ci}{k:Nat}(h:0<=Fy n l)(hk:k<l.length)(hne:l[k].node≠n):Fy n (Bv l k)=down k (Fy n l):=by obtain⟨p,hp,e,h0,h1,h2⟩:=JV h;rw[e,<-jE h2 hk (by rintro rfl;exact hne h1)];unfold Fy;rw[Af h0]
def sx{n:Int}{l:List Ci}{k:Nat}{x:Ci}(h:0<=Fy n l)(hk:k<l.length)(hne:l[k].node≠n)(hx:x.node≠n):Fy n (l.set k x)=Fy n l:=by obtain⟨p,hp,e,h0,h1,h2⟩:=JV h;rw[e,<-nX (x:=x) (k:=k) h2 (by rintro rfl;exact hne h1) (by simp[Xu];exact hx)];unfold Fy;rw[Af h0]
def dv{n:Int}{l:List Ci}(hn:((l.map Ci.node).filter λn=>decide (n≠0)).Nodup)(h:0<=Fy n l):Fy n (Bv l (Fy n l).toNat)<0:=by
 obtain⟨p,hp,e,h0,h1,h2⟩:=JV h;rw[e,By];refine Int.not_le.1 λi=>?_;obtain⟨g,f,j,_,d,_⟩:=JV i;have:l=l.take p++l[p]::l.drop (p+1):=by rw[<-Ay hp,Cw]
 rw[this,BW,A9,ES,GR,Ag (by simpa[h1] using h0),BP,BV] at hn;have hm:=Bb f;generalize(Bv l p)[g]=y at hm d;unfold Bv at hm;rcases Aq.1 hm with hm|hm
 .exact hn.2.2 y.node (Dl.2 ⟨Zh hm,by simpa[d] using h0⟩) l[p].node Ax (by rw[d,h1])
 .exact hn.2.1.1 (Dl.2 ⟨by rw[h1,<-d];exact Zh hm,by simpa[h1] using h0⟩)
section
variable{h h':Ai}{bi a ai:Nat}{o c t:Aa}{G G' F:Nat->Prop}{b b':BS}{x:Int}{m:Nat}
variable{nm:Aj}{av:Aa}{l:List AZ}{r:List Aa}{sp p:Int}{e:De}{at_ mk last:Int}{anc far:Item}
def X5{blk anc:Int}{far i:Nat}{l:Int}{mk m:Nat}(r:Cf b (m+4)):Cf (BS.Hc blk anc far i b l mk).1 m:=by
 unfold BS.Hc;simp only
 split;.exact(r.le Ac).sub rfl CZ (AE _) (Ab _)
 .split;.exact(r.le Ac).sub rfl CZ CZ (Ab _)
  .rename_i he _;obtain⟨p,hp,f,_,_,_⟩:=JV (TV.1 he);rw[f,By,AK,Au hp,FD];have Ri:=r.DD _ (Bb hp);have d:=LC (m:=m+1) (nm:=b.AY[p].name) (l:=b.AY[p].As) (sp:=1) (p:=anc) (r.le Ac) Ri.2;have r2:=(d.le (m':=m) Ac).Iw (Kr (p:=(b.Jq b.AY[p].name b.AY[p].As 1).node) (x:=l) (bf:=0));refine⟨r2.n,r2.at_,r2.data,by simp only[BY];exact r2.AA,by simp only[BY];exact r2.AY,r2.tm,λe he=>?_,λi hi=>?_⟩
   .rcases DA he with he|rfl
    .exact r2.DD e he
    .exact Ri
   .rcases DA hi with hi|rfl
    .exact r2.Z4 i hi
    .exact PD Ri.1
end
def TM{A:Ar}{x p bf:Int}(h:(A.nd p).kind=4):A.HV x p bf=A.IF p x bf:=by unfold Ar.HV;rw[Af (by rw[h];intro h;exact absurd h.1 AM)]
section
variable{h h':Ai}{bi a ai:Nat}{o c t:Aa}{G G' F:Nat->Prop}{b b':BS}{x:Int}{m:Nat}
variable{nm:Aj}{av:Aa}{l:List AZ}{r:List Aa}{sp p:Int}{e:De}{at_ mk last:Int}{anc far:Item}
def Dn.at(hc:Dn b.AY c)(w:BX h bi a o c t G b)(rm:Cf b m)(n:Int):B2 cx 126 [Pt bi 3,I n] h (I (Fy n b.AY)) h:=by obtain⟨fs,JF,hv⟩:=hc;have ha:=rm.AY;have:=f41 w.pH hv (by rw[<-JF,Aw] at ha;omega) n;rwa [XZ,JF] at this
structure nZ(h:Ai)(bi a ai:Nat)(t:Aa)(G0:Nat->Prop)(fe:De)(anc far:Item)(k N m:Nat)(s0:BS×Int×Nat)(n:Nat)(h1:Ai)(o c:Aa)(G:Nat->Prop)(s:BS×Int×Nat):Prop where
 le:n<=N
 w:BX h1 bi a o c t G s.1
 hc:Dn s.1.AY c
 ok:E0 s.1
 rm:Cf s.1 (m+4*n)
 last:s.1.a.has s.2.1
 st:h1[ai]?=some (.cells (Fp fe (Fy fe.c.node s.1.AY) (s.2.2:Int) anc far s.2.1))
 hn:¬BI bi G ai
 x:EH h (Mp ai bi G0) h1 (Mp ai bi G)
 gd:0<=Fy fe.c.node s.1.AY
 mkb:s.2.2<=1000000000
 AA:s.1.AA.take (k+n+1)=s0.1.AA.take (k+n+1)
 len:k+n+1<=s.1.AA.length
 eq:BS.MY far.node anc.node (k+1+N) k N s0=BS.MY far.node anc.node (k+1+N) k n s
 fe:s.1.a.has fe.c.node
def dw{blk anc:Int}{far i:Nat}{l:Int}{mk:Nat}(hi:i<b.AA.length):(BS.Hc blk anc far i b l mk).1.AA.take i=b.AA.take i/\i<=(BS.Hc blk anc far i b l mk).1.AA.length:=by
 have h1:(Bv b.AA i).take i=b.AA.take i/\i<=(Bv b.AA i).length:=by refine⟨?_,by rw[Ja hi];omega⟩;unfold Bv;rw[Dz (by rw[AB];omega),F5,Nat.min_self]
 unfold BS.Hc;simp only
 split;.exact h1
 .split;.exact h1
  .have QD:∀nm l p,(b.E7 nm l 1 p).AA=b.AA:=λnm l p=>by unfold BS.E7;rw[Ag Lt]
   simp only[QD];exact⟨Za (Ab i),by rw[BY];omega⟩
def nZ.step{h1 h2:Ai}{C D A z:Aa}{B u:Nat->Prop}{fe:De}{k N n:Nat}{s0 s s':BS×Int×Nat}(i:nZ h bi a ai t G fe anc far k N m s0 (n+1) h1 C D B s)(e:s'=BS.Hc far.node anc.node (k+1+N) (k+(n+1)) s.1 s.2.1 s.2.2)
  (w:BX h2 bi a A z t u s'.1) (hc:Dn s'.1.AY z) (st:h2[ai]?=some (.cells (Fp fe (Fy fe.c.node s'.1.AY) (s'.2.2:Int) anc far s'.2.1))) (hn:¬BI bi u ai) (x:EH h1 (Mp ai bi B) h2 (Mp ai bi u)) (gd:0<=Fy fe.c.node s'.1.AY) (mk:s'.2.2<=1000000000):
  nZ h bi a ai t G fe anc far k N m s0 n h2 A z u s':=by
 obtain⟨g,last',j⟩:=nI (blk:=far.node) (anc:=anc.node) (far:=k+1+N) (i:=k+(n+1)) (m:=s.2.2) i.ok i.last;have hl:=i.len;obtain⟨f,v⟩:=dw (blk:=far.node) (anc:=anc.node) (far:=k+1+N) (i:=k+(n+1)) (l:=s.2.1) (mk:=s.2.2) (b:=s.1) Ac;have d:=X5 (blk:=far.node) (anc:=anc.node) (far:=k+1+N) (i:=k+(n+1)) (l:=s.2.1) (mk:=s.2.2) (m:=m+4*n) (i.rm.le Ac);have QD:=i.AA;have y:BS.MY far.node anc.node (k+1+N) k (n+1) s=BS.MY far.node anc.node (k+1+N) k n (BS.Hc far.node anc.node (k+1+N) (k+(n+1)) s.1 s.2.1 s.2.2):=rfl;have q:=i.eq.trans y;rw[<-e] at g last' j f v d q;refine⟨by have:=i.le;omega,w,hc,g,d,last',st,hn,i.x.trans x,gd,mk,?_,Ac,q,j.has _ i.fe⟩;have:=Cm (λl=>l.take (k+(n+1))) QD;simp only[F5] at this;rw[(Ac:k+n+1=k+(n+1)),f];rwa [Cx Ac] at this
def aEo{fe:De}{k N:Nat}{s0:BS×Int×Nat}(i0:nZ h bi a ai t G fe anc far k N m s0 N h o c G s0)(pA:1<=k)(Zq:AW (BK fe.c.node) s0.1.AA=(k:Int))(hN:k+1+N<s0.1.AA.length):
  ∃h' o' c' G' s',B2 cx 216 [Pt bi 0,Pt ai 0,I (k:Int),I ((k+1+N:Nat):Int)] h (.tuple []) h'/\s'=BS.MY far.node anc.node (k+1+N) k N s0/\nZ h bi a ai t G fe anc far k N m s0 0 h' o' c' G' s':=by
 have ho:=i0.rm.AA;have OT:Ev cx 216 [Pt bi 0,Pt ai 0,I (k:Int),I ((k+1+N:Nat):Int)] h λr h'=>r= .tuple []/\∃o' c' G' s',s'=BS.MY far.node anc.node (k+1+N) k N s0/\nZ h bi a ai t G fe anc far k N m s0 0 h' o' c' G' s':=by
  unfold Ev;rw[gH];have i1:=DN (a:=((k+1+N:Nat):Int)) (b:=1) Ac Ac;rw[(Ac:((k+1+N:Nat):Int)-1=((k+N:Nat):Int))] at i1;simp only[B9,i1];refine BM (λn:Nat=>[I ((N-n:Nat):Int),I ((k+n:Nat):Int)]) (λn h1=>∃o c G1 s,nZ h bi a ai t G fe anc far k N m s0 n h1 o c G1 s) (λn=>n) N (by rw[Eb];rfl) ⟨o,c,_,s0,i0⟩ ?_;rintro n h1 ⟨o1,c1,G1,s,i⟩;cases n with
  |zero=>simp only[abS,↓reduceIte,(Ac:¬(k:Int)<(k:Int))];exact⟨_,rfl,rfl,o1,c1,G1,s,i.eq.symm,i⟩
  |succ n=>
   have hnN:=i.le;have hlen:=i.len;have B:k+(n+1)<s.1.AA.length:=Ac;have hwo:=i.rm.AA;have hwa:=i.rm.AY;have bo:ai≠bi:=λe=>i.hn (.inl e);have hai:ai<h1.length:=(Al.1 i.st).1;have L:=Sx i.w.sA ((k+(n+1):Nat):Int);rw[HL B] at L;have V:=jF i.ok.ob B Ac;have hxf:s.1.AA[k+(n+1)].node≠fe.c.node:=by have h2:=Cm (λl=>l[k+(n+1)]?) i.AA;simp only[Cg] at h2;rw[Ag Ac,Ag Ac,Au B,Au Ac] at h2;obtain⟨_,_,M⟩:=KY Zq;have g:=M (k+(n+1)) Ac Ac;rw[D3 h2];intro h5;unfold BK at g;rw[h5] at g;simp at g
   have sy:s.1.AA.getD (k+(n+1)) Item.zero=s.1.AA[k+(n+1)]:=by rw[AK,Au B];rfl
   generalize s.1.AA[k+(n+1)]=x at*;have r2:=i.hc.at i.w i.rm x.node;obtain⟨q,hq,zt,hq0,hq2,hq3⟩:=JV i.gd;have inc:Az (.int .add) [I ((N-(n+1):Nat):Int),I 1]=some (I ((N-n:Nat):Int)):=by have:=CE (n:=N-(n+1)) Ac;rwa [(Ac:N-(n+1)+1=N-n)] at this
   have dec:Az (.int .sub) [I ((k+(n+1):Nat):Int),I 1]=some (I ((k+n:Nat):Int)):=by have:=MV (n:=k+(n+1)) Ac Ac;rwa [(Ac:k+(n+1)-1=k+n)] at this
   have y:(k:Int)<((k+(n+1):Nat):Int):=Ac;have X:∀l:List Item,l=s.1.AA->Cv x.node l=Bv l (k+(n+1)):=by intro l e;subst e;unfold Cv;rw[V,Af Ac,By]
   by_cases he:Fy x.node s.1.AY<0
   .obtain⟨u,D,hu⟩:=ql i.w.sO Ac x.node;rw[X _ rfl] at hu;have z:=i.w.Mo hu;have es:({s.1 with AA:=Bv s.1.AA (k+(n+1))},s.2.1,s.2.2)=BS.Hc far.node anc.node (k+1+N) (k+(n+1)) s.1 s.2.1 s.2.2:=by unfold BS.Hc;simp only[sy];rw[Ag he]
    have E:=i.step es z i.hc ((CU bo).trans i.st) i.hn (EB BL ai) i.gd i.mkb;by_cases YO:(3:Int)<((N-n:Nat):Int);.simp only[abS,↓reduceIte,Jw,y,L.Ad,inc,r2.Ad,YO,he,(Ac:¬(0:Int)<=Fy x.node s.1.AY),D.Ad,dec];exact Br.next n rfl ⟨_,_,_,_,E⟩ Ac
    .simp only[abS,↓reduceIte,Jw,y,L.Ad,inc,r2.Ad,YO,he,D.Ad,dec];exact Br.next n rfl ⟨_,_,_,_,E⟩ Ac
   .obtain⟨p,hp,ep,hx0,gl,hp3⟩:=JV (TV.1 he);have GS:(0:Int)<=(p:Int):=Ac;rw[ep] at r2;have Y:s.1.AY[p].node≠fe.c.node:=by rw[gl];exact hxf
    have H:(Fy x.node s.1.AY).toNat=p:=by rw[ep,By]
    by_cases YO:(3:Int)<((N-n:Nat):Int)
    .obtain⟨h2,c2,D,z,KS,s_,J⟩:=yE i.w i.hc i.rm i.st i.hn hp ⟨i.gd,Ac⟩ ⟨Ac,by have:=i.mkb;omega⟩;have uH:Cf {s.1 with AY:=Bv s.1.AY p} (m+4*(n+1)):=i.rm.sub rfl (AE _) CZ (Ab _);have r4:=Dn.at (b:={s.1 with AY:=Bv s.1.AY p}) KS z uH x.node;have wE:Fy x.node (Bv s.1.AY p)<0:=by have:=dv (n:=x.node) i.ok.xK (TV.1 he);rwa [H] at this
     obtain⟨u,r5,hu⟩:=ql z.sO Gw x.node;rw[X _ rfl] at hu;have O:=z.Mo hu;have ta:(((if p<s.2.2 then s.2.2 -1 else s.2.2:Nat)):Int)=down p (s.2.2:Int):=by unfold down;split<;>split<;>omega
     have es:({s.1 with AY:=Bv s.1.AY p,AA:=Bv s.1.AA (k+(n+1))},s.2.1,if p<s.2.2 then s.2.2 -1 else s.2.2)=BS.Hc far.node anc.node (k+1+N) (k+(n+1)) s.1 s.2.1 s.2.2:=by unfold BS.Hc;simp only[sy];rw[Af he,Ag (Ac:k+(n+1)+3<k+1+N),H]
     have aEq:=du i.gd hp Y;have hd0:0<=down p (Fy fe.c.node s.1.AY):=by unfold down;split<;>omega
     have E:=i.step es O KS (by rw[CU bo,s_];simp only;rw[aEq,ta]) i.hn (J.trans (EB BL ai)) (by simp only;rw[aEq];exact hd0) (by have:=i.mkb;simp only;split<;>omega);simp only[abS,↓reduceIte,Jw,y,L.Ad,inc,r2.Ad,YO,GS,D.Ad,r4.Ad,wE,r5.Ad,dec];exact Br.next n rfl ⟨_,_,_,_,E⟩ Ac
    .obtain⟨fs,JF,hv⟩:=i.hc;have Iq:s.1.AY.length=fs.length:=by rw[<-JF,Aw]
     have aIo:p<fs.length:=Ac;have efp:fs[p].c=s.1.AY[p]:=by simp only[<-JF,FE]
     have l3:=i.w.l3;have e1:=Bz.DB (k:= .i64) hv aIo;have l5:Bd h1 none (Pt ai 5)=some (I anc.node):=At.load ⟨_,i.st,rfl⟩;obtain⟨r,D,hr⟩:=su fs[p] h1;have Ri:=i.rm.DD _ (Bb hp);rw[<-efp] at Ri;obtain⟨h2,G2,r4,z,J⟩:=rq (m:=m+4*n) i.w i.ok.ba (i.rm.le Ac) hr fs[p].ok Ri.2 Ri.1 anc.node 1;obtain⟨ok2,f,le2⟩:=Ur (nm:=fs[p].c.name) (at_:=fs[p].c.As) (p:=anc.node) i.ok Lt;have uH:=LC (m:=m+4*n+1) (nm:=fs[p].c.name) (l:=fs[p].c.As) (sp:=1) (p:=anc.node) (i.rm.le Ac) Ri.2;have QD:(s.1.E7 fs[p].c.name fs[p].c.As 1 anc.node).AA=s.1.AA:=by unfold BS.E7;rw[Ag Lt]
     have XG:(s.1.E7 fs[p].c.name fs[p].c.As 1 anc.node).AY=s.1.AY:=by unfold BS.E7;rw[Ag Lt]
     have es0:BS.Hc far.node anc.node (k+1+N) (k+(n+1)) s.1 s.2.1 s.2.2=({s.1.E7 fs[p].c.name fs[p].c.As 1 anc.node with a:=(s.1.E7 fs[p].c.name fs[p].c.As 1 anc.node).a.IF (s.1.Jq fs[p].c.name fs[p].c.As 1).node s.2.1 0,AA:=(s.1.E7 fs[p].c.name fs[p].c.As 1 anc.node).AA.set (k+(n+1)) (s.1.Jq fs[p].c.name fs[p].c.As 1),AY:=(s.1.E7 fs[p].c.name fs[p].c.As 1 anc.node).AY.set p {fs[p].c with node:=(s.1.Jq fs[p].c.name fs[p].c.As 1).node}},(s.1.Jq fs[p].c.name fs[p].c.As 1).node,if s.2.1=far.node then p+1 else s.2.2):=by unfold BS.Hc;simp only[sy];rw[Af he,Af Ac,H,AK,Au hp,FD,<-efp]
     have ji:=Qd i.ok f;have hna:=TC i.ok f;have hnf:(s.1.Jq fs[p].c.name fs[p].c.As 1).node≠fe.c.node:=λe2=>f.new (by rw[e2];exact i.fe);have aIq:=le2.has _ i.last;have aIr:(s.1.Jq fs[p].c.name fs[p].c.As 1).name.length<=1000:=PD Ri.1;generalize s.1.Jq fs[p].c.name fs[p].c.As 1=d at*;generalize s.1.E7 fs[p].c.name fs[p].c.As 1 anc.node=b2 at*;have j9:¬BI bi G2 ai:=λhg=>by
      rcases J.BI ai hg with hg|hg
      .exact i.hn hg
      .omega
     have s_:h2[ai]?=_:=(J.old ai hai i.hn).trans i.st;obtain⟨K,P,r5,bD⟩:=aHS z.sO (by have:=uH.AA;omega) x.node d;have aIs:Py x.node d b2.AA=b2.AA.set (k+(n+1)) d:=by unfold Py;rw[QD,V,Af Ac,By]
     rw[aIs] at bD;have O:=(z.Mo bD).Jn (u:=P);have x3:EH h1 (Mp ai bi G1) (put h2 bi 2 K++P) (Mp ai bi G2):=(EB J ai).trans (EB (BL.trans (z.Mo bD).D6) ai);have ai2:ai<h2.length:=by have:=J.len;omega
     have st3:(put h2 bi 2 K++P)[ai]?=_:=(An (by rw[LA];exact ai2)).trans ((CU bo).trans s_);have ai3:ai<(put h2 bi 2 K++P).length:=by rw[Ao,LA];omega
     generalize put h2 bi 2 K++P=M at*;have aIt:=(Ri.2).1;obtain⟨C,t2,e2,he2,r6,Qs⟩:=aHY (h:=M) (id:=bi) (o:=3) (l:=fs) ⟨c1,O.pH,hv⟩ Ac x.node (e:=⟨{fs[p].c with node:=d.node},fs[p].v,fs[p].ok⟩) (by unfold gj;simp only;omega);have hei:Kp x.node fs=(p:Int):=by rw[XZ,JF,ep]
     rw[hei,Af Ac,By] at Qs;have w4:=(O.PH (u:=C) (l:=b2.AY.set p {fs[p].c with node:=d.node})).Jn (u:=t2);have hc4:Dn (b2.AY.set p {fs[p].c with node:=d.node}) C:=⟨_,by rw[IL,JF,he2,XG],Qs⟩;have x4:=x3.trans (EB ((BL (k:=3) (v:=C)).trans (BX.D6 (u:=t2) (O.PH (u:=C) (l:=b2.AY.set p {fs[p].c with node:=d.node})))) ai);have A:(put M bi 3 C++t2)[ai]?=_:=(An (by rw[LA];exact ai3)).trans ((CU bo).trans st3);generalize put M bi 3 C++t2=g at*;have ok3:=ok2.om (i:=d) (k:=k+(n+1)) ⟨f.has,f.kind⟩ (by rw[QD];exact ji);have î:=ok3.ou (e:={fs[p].c with node:=d.node}) (k:=p) ⟨f.has,f.kind⟩ (by simp only[XG];exact hna);have rm4:Cf {b2 with AA:=b2.AA.set (k+(n+1)) d,AY:=b2.AY.set p {fs[p].c with node:=d.node}} (m+4*n+1):=by
      refine⟨uH.n,uH.at_,uH.data,by simp only[BY];exact uH.AA,by simp only[BY];exact uH.AY,uH.tm,λe he=>?_,λi hi=>?_⟩
      .rcases DA he with he|rfl
       .exact uH.DD e he
       .exact Ri
      .rcases DA hi with hi|rfl
       .exact uH.Z4 i hi
       .exact aIr
     have T:Bd g none (Pt ai 13)=some (I s.2.1):=At.load ⟨_,A,rfl⟩;have l9:Bd g none (Pt ai 9)=some (I far.node):=At.load ⟨_,A,rfl⟩;have t4:At g ai 4 (I (s.2.2:Int)):=⟨_,A,rfl⟩;obtain⟨jG,dx⟩:∃jG:Nat,jG=if s.2.1=far.node then p+1 else s.2.2:=⟨_,rfl⟩
     have e5:put g ai 4 (I (jG:Int))=if s.2.1=far.node then put g ai 4 (I ((p+1:Nat):Int)) else g:=by
      rw[dx];split;.rfl
      .exact t4.same
     have R:=Jr (k:=4) (v:= I (jG:Int)) A;have w5:BX (put g ai 4 (I (jG:Int))) bi a K C t G2 {b2 with AA:=b2.AA.set (k+(n+1)) d,AY:=b2.AY.set p {fs[p].c with node:=d.node}}:=w4.E4 λj hj=>CU λe=>j9 (e▸hj);have x5:=x4.trans (PI (k:=4) (v:= I (jG:Int)));have ai5:ai<(put g ai 4 (I (jG:Int))).length:=by have:=x5.len;omega
     have t5:Bd (put g ai 4 (I (jG:Int))) none (Pt ai 13)=some (I s.2.1):=At.load ⟨_,R,rfl⟩;generalize hh5:put g ai 4 (I (jG:Int))=h5 at*;obtain⟨h6,G6,r7,w6,x6⟩:=nU (x:=s.2.1) (p:=d.node) (bf:=0) w5 î.ba rm4;rw[TM (by exact f.kind)] at w6;have Z:¬BI bi G6 ai:=λhg=>by
      rcases x6.BI ai hg with hg|hg
      .exact j9 hg
      .omega
     have Q:h6[ai]?=_:=(x6.old ai ai5 j9).trans R;have t6:At h6 ai 13 (I s.2.1):=⟨_,Q,rfl⟩;have st7:=Jr (k:=13) (v:= I d.node) Q;have w7:BX (put h6 ai 13 (I d.node)) bi a K C t G6 _:=w6.E4 λj hj=>CU λe=>Z (e▸hj);have x7:=(x5.trans (EB x6 ai)).trans (PI (k:=13) (v:= I d.node));have dy:Fy fe.c.node (b2.AY.set p {fs[p].c with node:=d.node})=Fy fe.c.node s.1.AY:=by rw[XG];exact sx i.gd hp Y hnf
     rw[<-dx] at es0;have E:=i.step es0.symm w7 hc4 (by simp only;rw[st7,dy];rfl) Z x7 (by simp only;rw[dy];exact i.gd) (by simp only;rw[dx];have:=i.mkb;split<;>omega);have W:fs[p].v.cells=[fs[p].v]:=Bz.cells fs[p].ok;have U:=CE (Ac:p<9223372036854775807);have S:B2 cx 267 [Pt bi 3,I x.node,.agg [I d.node,.str fs[p].c.name,fs[p].v]] M (.bool (decide (0<=Kp x.node fs))) g:=r6;rw[De.row] at e1 D;by_cases kJ:s.2.1=far.node
     .rw[Ag kJ] at e5;have s5:CK g 1 (Pt ai 4) (I ((p+1:Nat):Int))=some h5:=by rw[e5];exact t4.store rfl
      simp only[abS,Nat.reduceLeDiff,↓reduceIte,Bj,Jw,y,L.Ad,inc,r2.Ad,YO,GS,(Ac:¬(p:Int)<0),l3,e1,l5,D.Ad,Dj,r4.Ad,r5.Ad,W,S.Ad,T,l9,A3 kJ,U,s5,t5,r7.Ad,t6.store (u:= I d.node) rfl,dec];exact Br.next n rfl ⟨_,_,_,_,E⟩ Ac
     .rw[Af kJ] at e5;subst e5;simp only[abS,Nat.reduceLeDiff,↓reduceIte,Bj,Jw,y,L.Ad,inc,r2.Ad,YO,GS,(Ac:¬(p:Int)<0),l3,e1,l5,D.Ad,Dj,r4.Ad,r5.Ad,W,S.Ad,T,l9,kJ,r7.Ad,t6.store (u:= I d.node) rfl,dec];exact Br.next n rfl ⟨_,_,_,_,E⟩ Ac
 obtain⟨r,h',hr,rfl,o',c',G',s',e',i'⟩:=OT.ret;exact⟨h',o',c',G',s',hr,e',i'⟩
end
end Go.Am
end
