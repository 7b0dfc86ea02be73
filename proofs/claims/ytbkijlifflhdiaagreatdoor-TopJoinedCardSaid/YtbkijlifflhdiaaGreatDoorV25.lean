/- Lemmas -/
import Derived.Test.YtbkijlifflhdiaaGreatDoorV24
set_option linter.all false
set_option maxHeartbeats 0
set_option maxRecDepth 100000
section
namespace Go.Am
open Go
section
variable{h h':Ag}{a n:Nat}{m:Option Nat}{ps:List PN}{A:Ar}{x:Int}{F:Nat->Prop}
def ZA{p:PN}(w:PA h a n m ps A)(hx:A.has x){i:Nat}(hi:i∈Eh a n m (ps.set (x.toNat-1) p)):i∈Eh a n m ps\/Gd p.kv=some i:=by
 obtain⟨e1,b⟩:=Ua w hx p;unfold Eh at hi⊢;rw[b,DJ] at hi;simp only[Az,Al,BR] at hi⊢;rcases hi with h1|h1|h1|⟨q,h1,h2⟩|⟨q,h1,h2⟩
 .exact .inl (.inl h1)
 .exact .inl (.inr (.inl h1))
 .exact .inl (.inr (.inr (.inl h1)))
 .exact .inl (.inr (.inr (.inr ⟨q,AN h1,h2⟩)))
 .rcases h1 with rfl|h1
  .exact .inr h2
  .exact .inl (.inr (.inr (.inr ⟨q,A7 h1,h2⟩)))
def uX{kv:Aa}{l:List Int}{k:Nat}(hk:Iv h kv l)(Vo:k<=l.length)(hb:l.length<=1000000000)(y:Int):
  ∃h1,D4 .kM h [kv,I (k:Int),.sl 1 [[I y]]]=some (h1,.CG h.length 0 (l.length+1) 1)/\h1[h.length]?=some (.cells ((l.take k++y::l.drop k).map (Aa.int .i64)))/\(∀i,i<h.length->Gd kv≠some i->h1[i]?=h[i]?)/\h1.length=h.length+1:=by
 rcases hk with⟨rfl,rfl⟩|⟨id,cs,rfl,hc⟩
 .have:k=0:=by simpa using Vo
  subst this;exact⟨h++[.cells [I y]],rfl,Au,λi hi _=>Ai hi,Au⟩
 .have Hm:=(Ae.1 hc).1;refine⟨h.set id .Ec++[.cells ((l.take k++y::l.drop k).map (Aa.int .i64))],?_,by rw[BG Au];simp,λi hi hn=>?_,Au⟩
  .simp only[D4,Nv,hc];rw[Ad (by have:AO=140737488355328:=rfl;simp;omega)];simp only[Bw];have e1:(l.map (Aa.int .i64)++cs).take k=(l.take k).map (Aa.int .i64):=by rw[CY (by simpa using Vo),HO]
   have b:(l.map (Aa.int .i64)++cs).take l.length=l.map (Aa.int .i64):=HI Au;rw[e1,b];simp
  .rw[Ai (by simpa using hi),Aj];intro e;exact hn (by rw[e];rfl)
def NL{p b:Int}(hf:¬oj A p x b):A.Hs p x b=A:=by unfold Ar.Hs;rw[Ac hf]
def uY{l:List Int}{b y:Int}{k:Nat}(hb:b=0->k=l.length)(h2:b≠0->l.takeWhile (λy=>decide (y≠b))=l.take k/\l.dropWhile (λy=>decide (y≠b))=l.drop k):JM l b y=l.take k++y::l.drop k:=by
 unfold JM;by_cases h0:b=0;.rw[Ad h0,hb h0];simp
 .rw[Ac h0,(h2 h0).1,(h2 h0).2]
open Classical in
def Ď{e p b:Int}(w:PA h a n m ps A)(d:J1 A)(ok:C8 A e):
  ∃U h' KD,Cm cx 100 [Pt a 0,I p,I x,I b] h (I U) h'/\PA h' a n m KD (A.Hs p x b)/\ED h (λi=>i∈Eh a n m ps) h' (λi=>i∈Eh a n m KD):=by
 by_cases o7:A.has p/\A.has x;rotate_left;.refine⟨3,h,ps,?_,by rw[NL (λf=>o7 ⟨f.hp,f.hn⟩)];exact w,.refl⟩;rw[Ak,K4,Xv];simp only[abS,EA,(JF (x:=p) (y:=x) w).Ah,Ac o7,CF,(Be:¬(3:Int)=0)]
 obtain⟨hp,hx⟩:=o7;by_cases hb:b≠0/\¬A.has b;.refine⟨3,h,ps,?_,by rw[NL (λf=>hb.2 (f.hb hb.1).1)];exact w,.refl⟩;rw[Ak,K4,Xv];simp only[abS,EA,(JF (x:=p) (y:=x) w).Ah,Ad (And.intro hp hx),CF,B0,hb.1,(RQ (x:=b) w).Ah,Bk hb.2,Ee]
 have P2:b=0\/(b≠0/\A.has b):=by
  by_cases h0:b=0;.exact .inl h0
  .refine .inr ⟨h0,?_⟩;by_cases h1:A.has b;.exact h1
   .exact absurd ⟨h0,h1⟩ hb
 by_cases kp:Mz (A.nd p).kind;rotate_left
 .refine⟨4,h,ps,?_,by rw[NL (λf=>kp f.kp)];exact w,.refl⟩;unfold Mz at kp;have c:¬(A.nd p).kind=1:=λe=>kp (.inl e);have q:¬(A.nd p).kind=2:=λe=>kp (.inr (.inl e));have z:¬(A.nd p).kind=4:=λe=>kp (.inr (.inr e));rw[Ak,K4,Xv];rcases P2 with h0|⟨h0,M4⟩
  .simp only[abS,EA,(JF (x:=p) (y:=x) w).Ah,Ad (And.intro hp hx),CF,B0,(Hk w d hp).Ah,(Hk w d hx).Ah,w.f0 hp,w.f0 hx,c,Ee,h0,q,z]
  .simp only[abS,EA,(JF (x:=p) (y:=x) w).Ah,Ad (And.intro hp hx),CF,B0,(Hk w d hp).Ah,(Hk w d hx).Ah,w.f0 hp,w.f0 hx,c,Ee,h0,(RQ (x:=b) w).Ah,Bs M4,q,z]
 by_cases kn:(A.nd x).kind=1\/(A.nd x).kind=2
 .refine⟨4,h,ps,?_,by rw[NL (λf=>by have:=f.kn;omega)];exact w,.refl⟩;rw[Ak,K4,Xv];rcases kp with c|c|c<;>rcases kn with q|q<;>rcases P2 with h0|⟨h0,M4⟩
  all_goals first|(simp only[abS,EA,(JF (x:=p) (y:=x) w).Ah,Ad (And.intro hp hx),CF,B0,(Hk w d hp).Ah,(Hk w d hx).Ah,w.f0 hp,w.f0 hx,c,(Be:¬(2:Int)=1),(Be:¬(4:Int)=1),(Be:¬(4:Int)=2),Ee,h0,q];done)|simp only[abS,EA,(JF (x:=p) (y:=x) w).Ah,Ad (And.intro hp hx),CF,B0,(Hk w d hp).Ah,(Hk w d hx).Ah,w.f0 hp,w.f0 hx,c,(Be:¬(2:Int)=1),(Be:¬(4:Int)=1),(Be:¬(4:Int)=2),Ee,h0,(RQ (x:=b) w).Ah,Bs M4,q]
 have tc:¬(A.nd x).kind=1:=λe=>kn (.inl e);have iz:¬(A.nd x).kind=2:=λe=>kn (.inr e);have l:=Ć w ok hx hp;by_cases re:Reach A x p
 .refine⟨4,h,ps,?_,by rw[NL (λf=>f.re re)];exact w,.refl⟩;rw[Bs re] at l;rw[Ak,K4,Xv];rcases kp with c|c|c<;>rcases P2 with h0|⟨h0,M4⟩
  all_goals first|(simp only[abS,EA,(JF (x:=p) (y:=x) w).Ah,Ad (And.intro hp hx),CF,B0,(Hk w d hp).Ah,(Hk w d hx).Ah,w.f0 hp,w.f0 hx,c,(Be:¬(2:Int)=1),(Be:¬(4:Int)=1),(Be:¬(4:Int)=2),Ee,h0,tc,iz,l.Ah];done)|simp only[abS,EA,(JF (x:=p) (y:=x) w).Ah,Ad (And.intro hp hx),CF,B0,(Hk w d hp).Ah,(Hk w d hx).Ah,w.f0 hp,w.f0 hx,c,(Be:¬(2:Int)=1),(Be:¬(4:Int)=1),(Be:¬(4:Int)=2),Ee,h0,(RQ (x:=b) w).Ah,Bs M4,tc,iz,l.Ah]
 rw[Bk re] at l;by_cases g:b≠0/\(b=x\/(A.nd b).ER≠p)
 .refine⟨5,h,ps,?_,by rw[NL (λf=>by have:=f.hb g.1;rcases g.2 with h|h;exact this.2.1 h;exact h this.2.2)];exact w,.refl⟩;obtain⟨h0,g⟩:=g;have M4:=(P2.resolve_left h0).2;rw[Ak,K4,Xv];by_cases gd:b=x;.have aHm:=gd;rcases kp with c|c|c<;>simp only[abS,EA,(JF (x:=p) (y:=x) w).Ah,Ad (And.intro hp hx),CF,B0,(Hk w d hp).Ah,(Hk w d hx).Ah,w.f0 hp,w.f0 hx,c,(Be:¬(2:Int)=1),(Be:¬(4:Int)=1),(Be:¬(4:Int)=2),Ee,tc,iz,l.Ah,gd,show¬x=0 from gd▸h0,Bs hx,(RQ (x:=x) w).Ah]
  .have g:=g.resolve_left gd;rcases kp with c|c|c<;>simp only[abS,EA,(JF (x:=p) (y:=x) w).Ah,Ad (And.intro hp hx),CF,B0,(Hk w d hp).Ah,(Hk w d hx).Ah,w.f0 hp,w.f0 hx,c,(Be:¬(2:Int)=1),(Be:¬(4:Int)=1),(Be:¬(4:Int)=2),Ee,h0,(RQ (x:=b) w).Ah,Bs M4,tc,iz,l.Ah,gd,(Hk w d M4).Ah,w.f1 M4,g]
 have fits:oj A p x b:=⟨hp,hx,λh0=>⟨(P2.resolve_left h0).2,λe=>g ⟨h0,.inl e⟩,by
  by_cases h1:(A.nd b).ER=p;.exact h1
  .exact absurd ⟨h0,.inr h1⟩ g⟩,kp,⟨tc,iz⟩,re⟩
 have S:A.Hs p x b=(A.cut x).Mr p x b:=by unfold Ar.Hs;rw[Ad fits]
 obtain⟨h1,QD,J,w1,N⟩:=Ċ w d ok hx;have o8:=sF ok hx iz;have ic:=d.cut (x:=x);have Zz:(A.cut x).has p:=Mg.2 hp;have Qm:(A.cut x).has x:=Mg.2 hx;have C:x≠p:=by rintro rfl;exact re .refl
 have NS:=ic.AP o8 p;obtain⟨k,Vo,u,xF⟩:∃k,k<=((A.cut x).nd p).AP.length/\(b=0->k=((A.cut x).nd p).AP.length)/\(b≠0->B5 (λy=>decide (b=y)) 0 ((A.cut x).nd p).AP=(k:Int)/\((A.cut x).nd p).AP.takeWhile (λy=>decide (y≠b))=((A.cut x).nd p).AP.take k/\((A.cut x).nd p).AP.dropWhile (λy=>decide (y≠b))=((A.cut x).nd p).AP.drop k):=by
  by_cases h0:b=0;.exact⟨_,Af _,λ_=>rfl,λh=>absurd h0 h⟩
  .have r:=fits.hb h0;have ď:((A.cut x).nd b).ER=p:=by
    rw[TO ok hx,Ac r.2.1];split;.exact r.2.2
    .exact r.2.2
   have bx:b∈((A.cut x).nd p).AP:=by have:=(o8.ER b (Mg.2 r.1) (by rw[ď];have:=hp.1;omega)).2;rwa [ď] at this
   obtain⟨k,c,q,_,z,Q⟩:=XJ bx;exact⟨k,Ab,λh=>absurd h h0,λ_=>⟨q,z,Q⟩⟩
 have Ou:=uY (y:=x) u λh=>(xF h).2;have KU:=w1.KU Zz;obtain⟨h2,E,Jr,gB,Z8⟩:=uX KU Vo NS x;have D:=(w1.pn Zz).2.1;obtain⟨o,uZ⟩:∃o:PN,o=⟨{(A.cut x).nd p with AP:=JM ((A.cut x).nd p).AP b x},.CG h1.length 0 (((A.cut x).nd p).AP.length+1) 1,(pN QD p).av,w1.att Zz⟩:=⟨_,rfl⟩;have t:o.x={(A.cut x).nd p with AP:=JM ((A.cut x).nd p).AP b x}:=by rw[uZ]
 have hrow:o.row=(pN QD p).row.set 2 (.CG h1.length 0 (((A.cut x).nd p).AP.length+1) 1):=by rw[uZ];simp only[PN.row];rw[D];rfl
 have Đ:n∈Eh a n m QD:=by simp[Eh]
 have yu:Gd (pN QD p).kv≠some n:=by intro e1;have:=w1.nd;unfold Eh at this;simp only[By,Az,OO] at this;exact this.2.1 (Al.2 (.inr (BR.2 ⟨_,(w1.pn Zz).2.2,e1⟩)))
 have B:=w1.sto Zz (k:=2) Be (v:= .CG h1.length 0 (((A.cut x).nd p).AP.length+1) 1) rfl hrow (gB n (w1.lt n Đ) yu);have hlen:(JM ((A.cut x).nd p).AP b x).length=((A.cut x).nd p).AP.length+1:=by rw[Ou,Ao,AH,Av,AW];omega
 have s:=w1.oL Zz (p:=o) (h1:=h2) (λi hi hn=>gB i (w1.lt i hi) hn) (by rw[uZ];refine .inr ⟨h1.length,[],by simp only[hlen],?_⟩;simp only[Ou,BN];exact Jr) (.inr λj hj=>by rw[uZ] at hj;cases hj;exact Af _)
 have S6:∀i,i∈Eh a n m (QD.set (p.toNat-1) o)->i∈Eh a n m QD\/i=h1.length:=by
  intro i hi;rcases ZA w1 Zz hi with h|h
  .exact .inl h
  .rw[uZ] at h;cases h;exact .inr rfl
 generalize Ő:h2.set n (.cells ((QD.set (p.toNat-1) o).map PN.row).flatten)=T at B s;generalize aHp:QD.set (p.toNat-1) o=XI at s S6;rw[t] at s;have WU:((A.cut x).set p {(A.cut x).nd p with AP:=JM ((A.cut x).nd p).AP b x}).has x:=HN.2 Qm;have XX:((A.cut x).set p {(A.cut x).nd p with AP:=JM ((A.cut x).nd p).AP b x}).nd x=(A.cut x).nd x:=by rw[GP,Ac (λh=>C h.1)]
 have o7:=(s.pn WU).2.1;obtain⟨L,G,O,R,P,l4⟩:=s.wr WU (k:=1) Be (v:= I p) rfl (p:=⟨{(A.cut x).nd x with ER:=p},(pN XI x).kv,(pN XI x).av,by have:=(pN XI x).ok;rw[o7,XX] at this;exact this⟩) (by simp only[PN.row];rw[o7,XX];rfl) rfl (B1 DB.AP XX).symm;have đ:(A.cut x).Mr p x b=((A.cut x).set p {(A.cut x).nd p with AP:=JM ((A.cut x).nd p).AP b x}).set x {(A.cut x).nd x with ER:=p}:=by unfold Ar.Mr;simp only;rw[XX]
 refine⟨0,L,_,?_,by rw[S,đ];exact O,?_⟩
 .rw[Ak,K4,Xv];by_cases h0:b=0;.rw[u h0] at E;have kl:=KU.len;rcases kp with c|c|c<;>simp only[abS,EA,(JF (x:=p) (y:=x) w).Ah,Ad (And.intro hp hx),CF,B0,(Hk w d hp).Ah,(Hk w d hx).Ah,w.f0 hp,w.f0 hx,c,(Be:¬(2:Int)=1),(Be:¬(4:Int)=1),(Be:¬(4:Int)=2),Ee,h0,tc,iz,l.Ah,J.Ah,w1.f2 Zz,kl,FY,E,B,G]
  .have r:=fits.hb h0;have M4:=r.1;have H:=sy KU.RR NS b;rw[(xF h0).1] at H;have kl:=KU.len;rcases kp with c|c|c<;>simp only[abS,EA,(JF (x:=p) (y:=x) w).Ah,Ad (And.intro hp hx),CF,B0,(Hk w d hp).Ah,(Hk w d hx).Ah,w.f0 hp,w.f0 hx,c,(Be:¬(2:Int)=1),(Be:¬(4:Int)=1),(Be:¬(4:Int)=2),Ee,h0,(RQ (x:=b) w).Ah,Bs M4,tc,iz,l.Ah,r.2.1,(Hk w d M4).Ah,w.f1 M4,r.2.2,J.Ah,w1.f2 Zz,kl,H.Ah,FY,E,B,G]
 .have X3:T.length=h1.length+1:=by rw[<-Ő,Bz,Z8]
  have M:ED h1 (λi=>i∈Eh a n m QD) L (λi=>i∈Eh a n m (XI.set (x.toNat-1) ⟨{(A.cut x).nd x with ER:=p},(pN XI x).kv,(pN XI x).av,by have:=(pN XI x).ok;rw[o7,XX] at this;exact this⟩)):=by
   refine⟨Ab,λi hi R5=>?_,λi hi=>?_⟩;.have K:i≠n:=λe1=>R5 (e1▸Đ);rw[P i K,<-Ő,Aj (Dv K)];exact gB i hi λe1=>R5 (Jk (w1.pn Zz).2.2 e1)
   .rw[R] at hi;rcases S6 i hi with h|h
    .exact .inl h
    .exact .inr Ab
  exact N.trans M
end
def OL(a:Nat)(b:BS)(o c t:Aa):List Aa:=[Pt a 0,I b.CD,o,c,I b.mode,I b.yU,t,I b.head,I b.TS,.bool b.Nj,I b.ctx.node,I b.ctx.AY,.str b.ctx.name,.bool b.ctx.Nc,.bool b.fs,.bool b.FX,.str b.M_,.bool b.skip,I b.sw,.bool b.stop]
def RS(l:List Int)(v:Aa):Prop:=Hu l v\/(v= .EV 1/\l=[])
def UW(l:List Int)(v:Aa):Prop:=RS l v/\v≠ .sl 1 []
section
variable{h:Ag}{l:List Int}{v:Aa}
def RS.cells(t:RS l v):v.cells=[v]:=by
 rcases t with t|⟨rfl,_⟩
 .exact Bu.cells t
 .rfl
def RS.len(t:RS l v):Ax (.len false) [v]=some (I (l.length:Int)):=by
 rcases t with t|⟨rfl,rfl⟩
 .exact Bu.GF t
 .rfl
def RS.ne(t:RS l v)(hne:l≠[]):Hu l v:=by
 rcases t with t|⟨_,e⟩
 .exact t
 .exact absurd e hne
def RS.RR(t:RS l v):OK h v l:=⟨t.len,λk hk=>(Hu.RR (t.ne (λe=>by rw[e] at hk;simp at hk))).at_ k hk⟩
def RS.Nd(t:RS l v)(hb:l.length*8<=AO):∃u,Ax (.append 1 8) [.slnil,v]=some u/\Hu l u:=by
 rcases t with t|⟨rfl,rfl⟩
 .exact Bu.Nd t hb
 .exact⟨.slnil,rfl,.inr ⟨rfl,rfl⟩⟩
def UW.qV{m:Int}:UW (l++[m]) (.sl 1 ((l++[m]).map Eo)):=⟨.inl .mk,λe=>by injection e with _ e;simp at e⟩
def UW.nil:UW [] .slnil:=⟨.inl (.inr ⟨rfl,rfl⟩),nofun⟩
end
structure BX(h:Ag)(bi a:Nat)(o c t:Aa)(G:Nat->Prop)(b:BS):Prop where
 hb:h[bi]?=some (.cells (OL a b o c t))
 o:CW b.A3 o
 t:UW b.tm t
 w:PW h G a b.a
 nb:¬G bi
section
variable{h:Ag}{bi a:Nat}{o c t:Aa}{G F:Nat->Prop}{b:BS}{x:Int}{m:Nat}
def BX.lt(w:BX h bi a o c t G b):bi<h.length:=(Ae.1 w.hb).1
def BX.DH{h':Ag}(w:BX h bi a o c t G b)(hf:∀i,i=bi\/G i->h'[i]?=h[i]?):BX h' bi a o c t G b:=
 ⟨by rw[hf bi (.inl rfl)];exact w.hb,w.o,w.t,w.w.DH λi hi=>hf i (.inr hi),w.nb⟩
def BX.J5(w:BX h bi a o c t G b){u:Ag}:BX (h++u) bi a o c t G b:=w.DH λi hi=>Ai (by rcases hi with rfl|hi;exact w.lt;exact w.w.lt hi)
def BX.ld(w:BX h bi a o c t G b)(k:Nat):BE h none (Pt bi k)=(OL a b o c t)[k]?:=by simp only[BE,w.hb,Ji]
def BX.l0(w:BX h bi a o c t G b):BE h none (Pt bi 0)=some (Pt a 0):=w.ld 0
def BX.l1(w:BX h bi a o c t G b):BE h none (Pt bi 1)=some (I b.CD):=w.ld 1
def BX.l4(w:BX h bi a o c t G b):BE h none (Pt bi 4)=some (I b.mode):=w.ld 4
def BX.l7(w:BX h bi a o c t G b):BE h none (Pt bi 7)=some (I b.head):=w.ld 7
def BX.l9(w:BX h bi a o c t G b):BE h none (Pt bi 9)=some (.bool b.Nj):=w.ld 9
def BX.i_(w:BX h bi a o c t G b):BE h none (Pt bi 15)=some (.bool b.FX):=w.ld 15
def BX.l3(w:BX h bi a o c t G b):BE h none (Pt bi 3)=some c:=w.ld 3
def BX.l6(w:BX h bi a o c t G b):BE h none (Pt bi 6)=some t:=w.ld 6
def BX.atO(w:BX h bi a o c t G b):At h bi 2 o:=⟨_,w.hb,rfl⟩
def BX.u0(w:BX h bi a o c t G b):At h bi 3 c:=⟨_,w.hb,rfl⟩
def BX.sO(w:BX h bi a o c t G b):JY h bi 2 b.A3:=⟨o,w.atO,w.o⟩
def BX.sA(w:BX h bi a o c t G b):oW h (Pt bi 2) b.A3:=w.sO.at
def GV(w:BX h bi a o c t G b):Cm cx 25 [Pt bi 0] h (.bool true) h:=by rw[Ak,tC,t25];simp only[abS,w.l0]
def PW.pa{A:Ar}(w:PW h G a A):∃n m ps,PA h a n m ps A:=let⟨n,m,ps,w,_⟩:=w;⟨n,m,ps,w⟩
def RT(w:BX h bi a o c t G b)(ok:BA b)(rm:Ci b m)(x:Int):∃K V u,Cm cx 48 [Pt bi 0,I x] h (.agg [I (b.a.nd x).kind,I (b.a.nd x).ER,K,I (b.a.nd x).CD,I (b.a.nd x).AY,.str (b.a.nd x).name,V,.str (b.a.nd x).data,.str (b.a.nd x).L_,.str (b.a.nd x).sys,.bool (b.a.nd x).CB,I (b.a.nd x).cont,I (b.a.nd x).D0]) (h++u)/\Hu (b.a.nd x).AP K/\Hl (h++u) V (b.a.nd x).AB/\Up h.length V:=by obtain⟨n,m',ps,d⟩:=w.w.pa;obtain⟨r,u,e,K,V,rfl,hK,f⟩:=bu (x:=x) d rm.TZ (rm.TZ.AP ok.ok x);refine⟨K,V,u,?_,hK,f⟩;rw[Ak,tI,t48];simp only[abS,w.l0,e.Ah]
def Ē(w:BX h bi a o c t G b)(rm:Ci b m):Cm cx 14 [Pt bi 0] h (.agg (GO b.A3).row) h:=by have:=rm.A3;rw[Ak,sX,t14];simp only[abS,Ic,(GV w).Ah,(f39 w.sA Ab).Ah]
def ē(w:BX h bi a o c t G b)(ok:BA b)(rm:Ci b m):Cm cx 95 [Pt bi 0] h (.tuple [I b.JB.1,I b.JB.2]) h:=by
 have hl:=rm.A3;obtain⟨n,m',ps,g⟩:=w.w.pa;have f:=f144 w.sA (Ab:b.A3.length<=1000000000) Gz;have r2:=f144 w.sA (Ab:b.A3.length<=1000000000) BC;have b1:=Ku (q:=BF [Gz]) (l:=b.A3);have b2:=Ku (q:=BF [BC]) (l:=b.A3);unfold BS.JB;simp only
 generalize AM (BF [Gz]) b.A3=d at f b1⊢;generalize AM (BF [BC]) b.A3=i at r2 b2⊢;rw[Ak,uA,t95];simp only[Ch,f.Ah,r2.Ah];refine⟨λh1=>?_,λh1=>⟨λh2=>?_,λh2=>?_⟩⟩;.rw[Ad h1];simp only[Ch,Ic,(T6 w.sA i).Ah]
 .rw[Ac h1,Ad h2];simp only[Ch,Ic,(T6 w.sA 0).Ah]
 .rw[Ac h1,Ac h2];simp only[abS,Ic,(T6 w.sA d).Ah,w.l0,(ù (x:=(Ir b.A3 d).node) g rm.TZ).Ah];refine⟨λe=>?_,λe=>?_⟩;.rw[Ad e]
  .rw[Ac e];have e1:(if d-1<0 then 0 else d-1)=max (d-1) 0:=Ab;simp only[Ch,Ic,DP (Ab: -9223372036854775808<=d-1) (Ab:d-1<9223372036854775808),Xa,e1,(T6 w.sA (max (d-1) 0)).Ah]
def V8:Ax (.Cd 1) [S Gz,S dD,S dE,S dF,S wTr]=some (.sl 1 (Ht.map CK)):=Eu (ws:=Ht) rfl Be
def eR{v:Aa}{ws:List Aq}(hv:Jz ws v)(hn:ws.length<=1000000000)(a:Item)(h:Ag):Cm cx 93 [.agg a.row,v] h (.bool (BF ws a)) h:=by rw[Ak,tZ,t93];simp only[Ch,Ic,(ï hv hn _ h).Ah,BF];refine⟨λh1=>by simp[h1],λh1=>by simp[h1]⟩
def u9{A:Ar}{x:Int}(hk:(A.nd x).kind=4)(ws:List Aq):BF ws ⟨0,(A.nd x).AY,(A.nd x).name,false⟩=decide (Zl ws A x):=by
 by_cases h:Zl ws A x;.rw[Bs h];unfold BF;rw[Bs];exact⟨h.2.1,h.2.2⟩
 .rw[Bk h];unfold BF;rw[Bk];exact λh2=>h ⟨hk,h2.1,h2.2⟩
def cf(w:BX h bi a o c t G b)(ok:BA b)(rm:Ci b m)(x:Int):∃u,Cm cx 47 [Pt bi 0,I x] h (.tuple [I (b.place x).1,I (b.place x).2]) (h++u):=by
 have hl:=rm.A3;by_cases A:x=0/\b.A3=[]
 .refine⟨[],?_⟩;have e1:b.place x=(b.CD,0):=by unfold BS.place;rw[Ad A]
  rw[e1,BN,Ak,dV,Ś];simp only[abS,(GV w).Ah,A.1,A.2,B0,(f104 w.sA).Ah,Int.natCast_zero,w.l1]
 .obtain⟨t',ht⟩:∃t',t'=if x=0 then(GO b.A3).node else x:=⟨_,rfl⟩
  obtain⟨X,U,p,R,_,_⟩:=RT w ok rm t';have w1:=w.J5 (u:=p);have e1:b.place x=if(b.a.nd (if b.FX=true/\Zl Ht b.a t' then b.JB else(t',0)).1).cont≠0 then((b.a.nd (if b.FX=true/\Zl Ht b.a t' then b.JB else(t',0)).1).cont,0) else if b.FX=true/\Zl Ht b.a t' then b.JB else(t',0):=by unfold BS.place;rw[Ac A,<-ht]
  obtain⟨B,sU⟩:∃B,B=if b.FX=true/\Zl Ht b.a t' then b.JB else(t',0):=⟨_,rfl⟩
  rw[<-sU] at e1;obtain⟨V,T,N,r2,_,_⟩:=RT w1 ok rm B.1;have Q:=ē w1 ok rm;have r:=eR (ws:=Ht) DA Be ⟨0,(b.a.nd t').AY,(b.a.nd t').name,false⟩ (h++p);have em:∀s n,Ax (.B4 [I 0,I 0,S [],ff] [(1,1),(2,1)]) [I s,.str n]=some (.agg (Item.row ⟨0,s,n,false⟩)):=λ_ _=>rfl;refine⟨p++N,?_⟩;rw[<-AI];have last:∀(y:Int×Int),y=B->W cx (.call 48 [Pt bi 0,I y.1] λj=> .cells 13 j λĔ=> .op (.int .neq) [g Ĕ 11,I 0] λf=> .A4 f (.ret .ret [.tuple [g Ĕ 11,I 0]]) (.ret .ret [.tuple [I y.1,I y.2]])) (λd vs h1=>d=EW.ret/\vs=[.tuple [I (b.place x).1,I (b.place x).2]]/\h1=h++p++N) (h++p):=by
   rintro _ rfl;rw[e1];simp only[Ch,r2.Ah];refine⟨λh1=>?_,λh1=>?_⟩;.rw[Ad h1]
   .rw[Ac h1]
  rw[Ak,dV,Ś];have i_:=w1.i_;have vA:W cx (.call 48 [Pt bi 0,I t'] λM=> .cells 13 M λk=> .EM 200009 (.op .J9 [Pt bi 0] λL=> .op (.FE 15) [L] λv16=> .load none v16 λK=> .A4 K (.op (.int .eql) [g k 0,I 4] λJ=> .A4 J (.op (.B4 [I 0,I 0,S [],ff] [(1,1),(2,1)]) [g k 4,g k 5] λH=> .op (.Cd 1) [S aJs,S aJI,S aJE,S aJJ,S [116,114]] λv20=> .call 93 [H,v20] λE=> .ret .normal [E]) (.ret .normal [ff])) (.ret .normal [ff])) (λx P=>match x with
    | .normal=> .EM 100046 (.A4 (g P 0) (.call 95 [Pt bi 0] λq=> .op (.ext 0) [q] λD=> .op (.ext 1) [q] λC=> .ret .normal [D,C]) (.ret .normal [I t',I 0])) (λx ĕ=>match x with
     | .normal=> .call 48 [Pt bi 0,g ĕ 0] λj=> .cells 13 j λĔ=> .op (.int .neq) [g Ĕ 11,I 0] λf=> .A4 f (.ret .ret [.tuple [g Ĕ 11,I 0]]) (.ret .ret [.tuple [g ĕ 0,g ĕ 1]])
     | .exit i=> .fail
     | .ret=> .ret .ret [.tuple [g ĕ 0,g ĕ 1]])
    | .exit i=> .fail
    | .ret=> .ret .ret [.tuple [I t',I 0]])) (λd vs h1=>d=EW.ret/\vs=[.tuple [I (b.place x).1,I (b.place x).2]]/\h1=h++p++N) h:=by
   rw[R.Ah];by_cases hf:b.FX=true
   .rw[hf] at i_;by_cases z:(b.a.nd t').kind=4
    .rw[u9 z] at r;by_cases hw:Zl Ht b.a t';.rw[Bs hw] at r;rw[Ad ⟨hf,hw⟩] at sU;have:=last b.JB sU.symm;simp only[abS,i_,z,em,V8,r.Ah,Q.Ah];simpa only[Ch,cN,AH,Bd] using this
     .rw[Bk hw] at r;rw[Ac (λh=>hw h.2)] at sU;have:=last (t',0) sU.symm;simp only[abS,i_,z,em,V8,r.Ah];simpa only[Ch,cN,AH,Bd] using this
    .rw[Ac (λh=>z h.2.1)] at sU;have:=last (t',0) sU.symm;simp only[abS,i_,z];simpa only[Ch,cN,AH,Bd] using this
   .rw[Ac (λh=>hf h.1)] at sU;have:=last (t',0) sU.symm;rw[show b.FX=false by simpa using hf] at i_;simp only[Ch,i_];simpa only[Ch,cN,AH,Bd] using this
  by_cases h0:x=0
  .have hne:b.A3≠[]:=λe=>A ⟨h0,e⟩;have O:¬((b.A3.length:Nat):Int)=0:=by have:=Fv.2 hne;omega
   rw[Ad h0] at ht;rw[ht] at vA;simp only[abS,(GV w).Ah];rw[h0] at vA⊢;simp only[abS,Ic,(f104 w.sA).Ah,O,(Ē w rm).Ah] at vA⊢;exact vA
  .rw[Ac h0] at ht;rw[ht] at vA;simp only[abS,(GV w).Ah,h0,FC] at vA⊢;exact vA
end
section
def nQ{Q:IA}{h:Ag}{k:Aa->IT}:W cx (.NO k) Q h↔W cx (k (.map (some h.length))) Q (h++[.map (ft 0)]):=Oz
section
variable{v:Aa}{l:List AS}{h:Ag}
def aCn(hv:Cl l v)(hb:l.length<=1000)(sp:Int):∃u,Cm cx 128 [I sp,v] h u (h++[.map (ft 11)])/\Cl (l.map (CX sp)) u:=by
 have Gv:Bu 3 (l.map AS.row) v:=hv;have Oq:Ev cx 128 [I sp,v] h λr h'=>h'=h++[.map (ft 11)]/\Cl (l.map (CX sp)) r:=by
  unfold Ev;rw[iQ,qk];rw[nQ];simp only[Ch,Nat.reduceLeDiff,↓reduceIte,Bt,DW,cT,A_,B_,C_,D_,E_,F_,G_,H_,I_,J_,oe,Gv.GF];refine BL (λp:Nat×Aa=>[p.2,I (p.1:Int)]) (λp h1=>p.1<=l.length/\Cl ((l.take p.1).map (CX sp)) p.2/\h1=h++[.map (ft 11)]) (λp=>l.length-p.1) (0,.slnil) rfl ⟨A8 _,.nil,rfl⟩ ?_;rintro⟨n,u⟩ h1 ⟨hn,hu,rfl⟩;simp only at hn hu;rcases BH n l.length with hlt|HK
  .have i1:(n:Int)<(l.length:Int):=by omega
   have HD:∀{q:List Aa},q=(CX sp l[n]).row->∃w,Ax (.append 3 40) [u,.sl 3 [q]]=some w/\Cl ((l.take (n+1)).map (CX sp)) w:=by
    rintro _ rfl;refine⟨_,Bu.Y8 (f:=AS.row) (a:=CX sp l[n]) (b:=40) hu ?_,?_⟩;.simp[AO];omega
    .rw[AL hlt,B3];exact .mk
   have inc:=CQ (Ab:n<9223372036854775807);by_cases e:sp=2
   .subst e;cases c:H9 (C7 l[n].name LM) with
    |some x=>obtain⟨w,d,hw⟩:=HD (q:=[I x.1,.str x.2,.str l[n].value]) (by simp only[CX,KY,true_or,BB,c,AS.row]);simp only[Ch,Nat.reduceLeDiff,↓reduceIte,Bt,i1,Gv.Dl hlt,DW,AS.row,(f235 _).Ck rfl rfl,AU,AJ,AF,Kk,c,Kl,d,inc];exact A6.next (n+1,w) rfl ⟨hlt,hw,rfl⟩ GU
    |none=>obtain⟨w,d,hw⟩:=HD (q:=[I 0,.str (C7 l[n].name LM),.str l[n].value]) (by simp only[CX,KY,true_or,BB,c,AS.row]);simp only[Ch,Nat.reduceLeDiff,↓reduceIte,Bt,i1,Gv.Dl hlt,DW,AS.row,(f235 _).Ck rfl rfl,AU,AJ,AF,Kk,c,Kl,d,inc];exact A6.next (n+1,w) rfl ⟨hlt,hw,rfl⟩ GU
   by_cases g:sp=3
   .subst g;by_cases hd:l[n].name=K_
    .have c:H9 og=none:=by decide
     obtain⟨w,d,hw⟩:=HD (q:=[I 0,.str og,.str l[n].value]) (by simp only[CX,KY,hd,or_true,BB,EH,c,AS.row,ZZ,e]);simp only[Ch,Nat.reduceLeDiff,↓reduceIte,Bt,i1,Gv.Dl hlt,DW,AS.row,hd,(Be:¬(3:Int)=2),AU,AV,AJ,AF,Kk,c,Kl,d,inc];exact A6.next (n+1,w) rfl ⟨hlt,hw,rfl⟩ GU
    .cases c:H9 l[n].name with
     |some x=>obtain⟨w,d,hw⟩:=HD (q:=[I x.1,.str x.2,.str l[n].value]) (by simp only[CX,KY,hd,or_true,BB,EH,c,AS.row,and_false,e]);simp only[Ch,Nat.reduceLeDiff,↓reduceIte,Bt,i1,Gv.Dl hlt,DW,AS.row,hd,(Be:¬(3:Int)=2),AU,AV,AJ,AF,Kk,c,Kl,d,inc];exact A6.next (n+1,w) rfl ⟨hlt,hw,rfl⟩ GU
     |none=>obtain⟨w,d,hw⟩:=HD (q:=[I 0,.str l[n].name,.str l[n].value]) (by simp only[CX,KY,hd,or_true,BB,EH,c,AS.row,and_false,e]);simp only[Ch,Nat.reduceLeDiff,↓reduceIte,Bt,i1,Gv.Dl hlt,DW,AS.row,hd,(Be:¬(3:Int)=2),AU,AV,AJ,AF,Kk,c,Kl,d,inc];exact A6.next (n+1,w) rfl ⟨hlt,hw,rfl⟩ GU
   .obtain⟨w,d,hw⟩:=HD (q:=[I 0,.str l[n].name,.str l[n].value]) (by simp only[CX,e,g,or_self,EH,AS.row]);cases c:H9 l[n].name with
    |some x=>simp only[Ch,Nat.reduceLeDiff,↓reduceIte,Bt,i1,Gv.Dl hlt,DW,AS.row,e,g,AU,AV,AJ,AF,Kk,c,Kl,d,inc];exact A6.next (n+1,w) rfl ⟨hlt,hw,rfl⟩ GU
    |none=>simp only[Ch,Nat.reduceLeDiff,↓reduceIte,Bt,i1,Gv.Dl hlt,DW,AS.row,e,g,AU,AV,AJ,AF,Kk,c,Kl,d,inc];exact A6.next (n+1,w) rfl ⟨hlt,hw,rfl⟩ GU
  .have i1:¬(n:Int)<(l.length:Int):=by omega
   rw[AT HK] at hu;simp only[Ch,Nat.reduceLeDiff,↓reduceIte,Bt,i1,AV,AJ,AF];exact⟨_,rfl,hu⟩
 obtain⟨r,h',hr,rfl,hu⟩:=Oq.ret;exact⟨r,hr,hu⟩
end
end
def Bn(bi:Nat)(G:Nat->Prop):Nat->Prop:=λi=>i=bi\/G i
section
variable{h h':Ag}{bi a:Nat}{o c t:Aa}{G G' F:Nat->Prop}{b:BS}{x:Int}{m:Nat}
def ED.Ė(x:ED h G h' G'):ED h (Am.Bn bi G) h' (Am.Bn bi G'):=⟨x.len,λi hi hn=>x.old i hi λhg=>hn (.inr hg),λi hi=>by
 rcases hi with rfl|hi
 .exact .inl (.inl rfl)
 .rcases x.Bn i hi with h|h
  .exact .inl (.inr h)
  .exact .inr h⟩
def BX.ė{A':Ar}(w:BX h bi a o c t G b)(hp:PW h' G' a A')(x:ED h G h' G'):BX h' bi a o c t G' {b with a:=A'}/\ED h (Bn bi G) h' (Bn bi G'):=
 ⟨⟨by rw[x.old bi w.lt w.nb];exact w.hb,w.o,w.t,hp,λhg=>by rcases x.Bn bi hg with h|h;exact w.nb h;have:=w.lt;omega⟩,x.Ė⟩
def BX.step{A':Ar}{R:Ag->Prop}(w:BX h bi a o c t G b)(d:∀n m ps,PA h a n m ps b.a->∃h' n' m' KD,R h'/\PA h' a n' m' KD A'/\ED h (λi=>i∈Eh a n m ps) h' (λi=>i∈Eh a n' m' KD)):
  ∃h' G',R h'/\BX h' bi a o c t G' {b with a:=A'}/\ED h (Bn bi G) h' (Bn bi G'):=by
 obtain⟨n,m,ps,g,e⟩:=w.w;obtain⟨h',n',m',KD,r,w',x⟩:=d n m ps g;have k:G=λi=>i∈Eh a n m ps:=funext λi=>propext (e i);obtain⟨j,f⟩:=w.ė w'.pw (by rw[k];exact x);exact⟨h',_,r,j,f⟩
def BX.Dt(w:BX h bi a o c t G b){u:Ag}:ED h (Bn bi G) (h++u) (Bn bi G):= .J5
def Ę{v:Aa}{l:List Int}{f:FuncId}{caps:List Aa}{q:Int->Bool}(hv:Hu l v)(hb:l.length<=1000000000)(hf:f<=99999)(hq:∀k∈l,∀u,∃d,Cm cx f (I k::caps) (h++u) (.bool (q k)) (h++u++d)):
  ∃u,Cm cx 141 [v,.func (.func f) [] caps] h (I (B5 q 0 l)) (h++u):=by
 have Gv:Bu 1 (l.map Eo) v:=hv;have Oq:Ev cx 141 [v,.func (.func f) [] caps] h λr h'=>r= I (B5 q 0 l)/\∃u,h'=h++u:=by
  unfold Ev;rw[iX,qt];simp only[Ch,Gv.GF];refine BL (λk:Nat=>[I 0,I (k:Int)]) (λk h1=>k<=l.length/\B5 q 0 l=B5 q k (l.drop k)/\∃u,h1=h++u) (λk=>l.length-k) 0 rfl ⟨A8 _,rfl,[],Au⟩ ?_;rintro k h1 ⟨hk,ha,u,rfl⟩;rcases BH k l.length with hlt|HK
  .have i1:(k:Int)<(l.length:Int):=by omega
   have e1:BE (h++u) none (.Cb (Eo l[k]))=some (I l[k]):=rfl;obtain⟨d,e⟩:=hq _ (AX hlt) u;rw[AE hlt,B5] at ha;simp only[abS,↓reduceIte,CM,i1,Gv.Dl hlt,e1,hf,e.Ah,CQ (Ab:k<9223372036854775807)];rw[C6];refine⟨λh2=>?_,λh2=>?_⟩;.exact⟨_,rfl,by rw[ha,Ad h2],u++d,Au⟩
   .rw[Ac (by simp[h2])] at ha;exact A6.next (k+1) rfl ⟨hlt,ha,u++d,Au⟩ Ab
  .have i1:¬(k:Int)<(l.length:Int):=by omega
   rw[Bc HK,B5] at ha;simp only[abS,↓reduceIte,CM,i1];exact⟨_,rfl,by rw[ha],u,rfl⟩
 obtain⟨r,h',hr,rfl,u,rfl⟩:=Oq.ret;exact⟨u,hr⟩
def cg{l:List Int}{q:Int->Bool}:decide (0<=B5 q 0 l)=l.any q:=by
 rcases Ga (p:=q) (l:=l) (k:=0) with⟨h1,h2⟩|⟨n,y,h1,h2,d⟩
 .rw[h1,uo];have:=JJ.1 h2;simpa using this
 .rw[h1,uo];have f:=Rv d;have e:=NV d;rw[Bs Ab,fM];exact⟨y,e,f⟩
def BX.self(w:BX h bi a o c t G b){A':Ar}(e:A'=b.a):BX h bi a o c t G {b with a:=A'}:=by subst e;exact w
open Classical in
def ZB{p bf:Int}(w:BX h bi a o c t G b)(ok:BA b)(rm:Ci b m):∃h' G',Cm cx 53 [Pt bi 0,I x,I p,I bf] h (.tuple []) h'/\BX h' bi a o c t G' {b with a:=b.a.E9 x p bf}/\ED h (Bn bi G) h' (Bn bi G'):=by
 obtain⟨K1,X,d,H,_,_⟩:=RT w ok rm p;have w1:=w.J5 (u:=d);have U:∀v,Aa.cells (.ptr v)=[.ptr v]:=λ_=>rfl;have II:∀h2,(∃u,h2=h++u)->∃h' G',(∃j,Cm cx 100 [Pt a 0,I p,I x,I bf] h2 (I j) h')/\BX h' bi a o c t G' {b with a:=b.a.Hs p x bf}/\ED h (Bn bi G) h' (Bn bi G'):=by
  rintro _ ⟨u,rfl⟩;have g:=w.J5 (u:=u);obtain⟨h',G',r,w',x'⟩:=g.step (A':=b.a.Hs p x bf) (R:=λh'=>∃j,Cm cx 100 [Pt a 0,I p,I x,I bf] (h++u) (I j) h') (λn m ps O=>by obtain⟨j,h',KD,r,wp,N⟩:=Ď O rm.TZ ok.ok (p:=p) (x:=x) (b:=bf);exact⟨h',n,m,KD,⟨j,r⟩,wp,N⟩)
  exact⟨h',G',r,w',w.Dt.trans x'⟩
 by_cases z:(b.a.nd p).kind=1
 .obtain⟨Z,W,i,r2,_,_⟩:=RT w1 ok rm x;have g:=w1.J5 (u:=i);by_cases C:(b.a.nd x).kind=4
  .obtain⟨S,T,XI,J⟩:=g.w.pa;obtain⟨K,M,hK⟩:=uP (x:=p) J rm.TZ (rm.TZ.AP ok.ok p);obtain⟨E,Q⟩:=Ę (h:=h++d++i) (f:=99) (caps:=[.Cb [Pt bi 0]]) (q:=λk=>decide ((b.a.nd k).kind=4)) hK (rm.TZ.AP ok.ok p) Be (λk _ u=>by have D:=g.J5 (u:=u);obtain⟨Y,V,P,s,_,_⟩:=RT D ok rm k;refine⟨P,?_⟩;rw[Ak,uD,t99];simp only[Ch,s.Ah])
   have ŧ:Cm cx 98 [K,.func (.func 99) [] [.Cb [Pt bi 0]]] (h++d++i) (.bool ((b.a.nd p).AP.any λk=>decide ((b.a.nd k).kind=4))) (h++d++i++E):=by rw[Ak,uC,t98,<-cg];simp only[Ch,Q.Ah]
   have D:=g.J5 (u:=E);by_cases k3:∃k∈(b.a.nd p).AP,(b.a.nd k).kind=4
   .have L:((b.a.nd p).AP.any λk=>decide ((b.a.nd k).kind=4))=true:=by simpa using k3
    rw[L] at ŧ;have y:b.a.E9 x p bf=b.a:=by unfold Ar.E9;rw[Ad ⟨z,C,k3⟩]
    refine⟨_,G,?_,D.self y,(w.Dt.trans w1.Dt).trans g.Dt⟩;rw[Ak,T2,t53];simp only[abS,H.Ah,z,r2.Ah,C,g.l0,M.Ah,ŧ.Ah]
   .have L:((b.a.nd p).AP.any λk=>decide ((b.a.nd k).kind=4))=false:=by rw[List.any_eq_false];intro k hk;simpa using λe=>k3 ⟨k,hk,e⟩
    rw[L] at ŧ;have y:b.a.E9 x p bf=b.a.Hs p x bf:=by unfold Ar.E9;rw[Ac (λh=>k3 h.2.2)]
    obtain⟨h',G',⟨j,s⟩,B,A⟩:=II (h++d++i++E) ⟨d++i++E,Au⟩;refine⟨h',G',?_,by rw[y];exact B,A⟩;rw[Ak,T2,t53];simp only[abS,H.Ah,z,r2.Ah,C,g.l0,M.Ah,ŧ.Ah,D.l0,s.Ah]
  .have y:b.a.E9 x p bf=b.a.Hs p x bf:=by unfold Ar.E9;rw[Ac (λh=>C h.2.1)]
   obtain⟨h',G',⟨j,s⟩,B,A⟩:=II (h++d++i) ⟨d++i,Au⟩;refine⟨h',G',?_,by rw[y];exact B,A⟩;rw[Ak,T2,t53];simp only[abS,H.Ah,z,r2.Ah,C,g.l0,s.Ah]
 .have y:b.a.E9 x p bf=b.a.Hs p x bf:=by unfold Ar.E9;rw[Ac (λh=>z h.1)]
  obtain⟨h',G',⟨j,s⟩,B,A⟩:=II (h++d) ⟨d,rfl⟩;refine⟨h',G',?_,by rw[y];exact B,A⟩;rw[Ak,T2,t53];simp only[abS,H.Ah,z,w1.l0,s.Ah]
def ę(w:BX h bi a o c t G b)(ok:BA b)(rm:Ci b m)(p:Int):∃u,Cm cx 131 [Pt bi 0,I p] h (I (b.IW p)) (h++u):=by
 obtain⟨n,j,d,f,_,_⟩:=RT w ok rm p;have w1:=w.J5 (u:=d);unfold BS.IW;by_cases hc:(b.a.nd p).cont=0
 .refine⟨d,?_⟩;rw[Ac (by simp[hc]),Ak,Xz,zS];simp only[abS,f.Ah,hc,CF,B0,w1.l1];refine⟨λh1=>?_,λh1=>?_⟩;.rw[Ad h1]
  .rw[Ac h1]
 .obtain⟨k,i,e,r2,_,_⟩:=RT w1 ok rm (b.a.nd p).cont;have g:=w1.J5 (u:=e);refine⟨d++e,?_⟩;rw[Ad hc,<-AI,Ak,Xz,zS];simp only[abS,f.Ah,r2.Ah,hc,CF,g.l1];refine⟨λh1=>?_,λh1=>?_⟩;.rw[Ad h1]
  .rw[Ac h1]
def UX(nm:Aq)(av:Aa)(r:List Aa):Prop:=∃k c2 j i g f e d X2 gR,r=[k,.str nm,c2,j,i,g,f,e,av,d,X2,gR]
def Ob:Aa.agg Item.zero.row= .agg [I 0,I 0,S [],ff]:=rfl
variable{nm:Aq}{av:Aa}{l:List AS}{r:List Aa}{sp p:Int}
def Ci.len{k:Nat}(rm:Ci b k)(hk:3<=k):b.a.len+3<=1000000000:=by have:=rm.n;unfold Ar.len;omega
def vB(w:BX h bi a o c t G b)(ok:BA b)(rm:Ci b (m+3))(hr:UX nm av r)(hv:Cl l av)(hl:E6 l)(hn:nm.length<=1000)(p sp:Int):
  ∃h' G',Cm cx 76 [Pt bi 0,.agg r,I sp,I p] h (.agg (b.Ie nm l sp).row) h'/\BX h' bi a o c t G' (b.EU nm l sp p)/\ED h (Bn bi G) h' (Bn bi G'):=by
 obtain⟨N,c2,M,L,K,J,H,E,X2,gR,rfl⟩:=hr;by_cases hs:BS.JC sp
 .obtain⟨D,s,hu⟩:=aCn (h:=h) hv hl.1 sp;have w1:=w.J5 (u:=[.map (ft 11)]);obtain⟨j,r2⟩:=ę w1 ok rm p;have g:=w1.J5 (u:=j);have hd:=Qy ok (p:=p);have i:∀y∈l.map (CX sp),BS.JC y.AY:=by intro y hy;obtain⟨z,_,rfl⟩:=AR.1 hy;exact dJ
  obtain⟨h',G',⟨f,_⟩,C,A⟩:=g.step (A':=b.a.elem (b.IW p) sp (BS.Kn sp nm) (l.map (CX sp))) (R:=λh'=>Cm cx 130 [Pt a 0,I (b.IW p),I sp,.str (BS.Kn sp nm),D] (h++[.map (ft 11)]++j) (.tuple [I (b.a.len+1),I 0]) h'/\True) (λn m ps B=>by obtain⟨h',n',m',KD,r,wp,v,_⟩:=ą B rm.TZ (rm.len Ab) hd hs hu (by rw[Aw];have:=hl.1;omega) i (nm:=BS.Kn sp nm);exact⟨h',n',m',KD,⟨r,trivial⟩,wp,v⟩)
  have d:=f96 (h:=h') hu (λy hy=>by obtain⟨z,hz,rfl⟩:=AR.1 hy;rw[nI];have:=(hl.2 z hz).2;have:AO=140737488355328:=rfl;omega) (by rw[Aw];have:=hl.1;omega) sp (BS.Kn sp nm);have em:Ax (.B4 [I 0,I 0,S [],ff] [(0,1),(1,1),(2,1),(3,1)]) [I (b.a.len+1),I sp,.str (BS.Kn sp nm),.bool (Hh sp (BS.Kn sp nm) (l.map (CX sp)))]=some (.agg (b.Ie nm l sp).row):=by rw[mQ];unfold BS.Ie;rw[Ad hs]
  refine⟨h',G',?_,by unfold BS.EU;rw[Ad hs];exact C,(w.Dt.trans w1.Dt).trans A⟩;have q:¬sp<0:=by have:=hs.1;omega
  have k:¬7<sp:=by have:=hs.2;omega
  have hlen:=λ(y:Item)=>@Item.Di y;rw[Ak,dZ,t76];by_cases h2:sp=2
  .have e:BS.Kn sp nm=C7 nm LL:=by unfold BS.Kn;rw[Ad h2]
   rw[e] at f d em;subst h2;simp only[abS,↓reduceIte,Bt,Ic,(GV w).Ah,q,k,FC,s.Ah,Gp,B0,(aBK nm).Ck rfl rfl,w1.l0,r2.Ah,g.l0,Dk,f.Ah,CF,d.Ah,em,hlen]
  .have e:BS.Kn sp nm=nm:=by unfold BS.Kn;rw[Ac h2]
   rw[e] at f d em;simp only[abS,↓reduceIte,Bt,Ic,(GV w).Ah,q,k,FC,s.Ah,h2,w1.l0,r2.Ah,g.l0,Dk,f.Ah,CF,B0,d.Ah,em,hlen]
 .refine⟨h,G,?_,by unfold BS.EU;rw[Ac hs];exact w,.refl⟩;have e:b.Ie nm l sp=Item.zero:=by unfold BS.Ie;rw[Ac hs]
  rw[e,Ob,Ak,dZ,t76];unfold BS.JC at hs;by_cases h1:sp<0;.simp only[abS,↓reduceIte,Bt,(GV w).Ah,h1,Gp]
  .simp only[abS,↓reduceIte,Bt,(GV w).Ah,h1,FC,(Ab:7<sp),Gp]
def B2{k:Nat}{v:Aa}:ED h (Bn bi G) (put h bi k v) (Bn bi G):=⟨by rw[KW];exact Af _,λi _ hn=>Cz λe=>hn (.inl e),λ_ h=> .inl h⟩
def BX.put{k:Nat}{v o' c' t':Aa}{b':BS}(w:BX h bi a o c t G b)(e:(OL a b o c t).set k v=OL a b' o' c' t')(ea:b'.a=b.a)(ho:CW b'.A3 o')(ht:UW b'.tm t'):BX (Am.put h bi k v) bi a o' c' t' G b':=
 ⟨by rw[Hr w.hb,e];exact AA w.lt,ho,ht,by rw[ea];exact w.w.DH λi hi=>Cz λe=>w.nb (e▸hi),w.nb⟩
def BX.Nn{u:Aa}{l:List Item}(w:BX h bi a o c t G b)(hu:CW l u):BX (Am.put h bi 2 u) bi a u c t G {b with A3:=l}:=w.put rfl rfl hu w.t
def BX.QE{u:Aa}{l:List Cp}(w:BX h bi a o c t G b):BX (Am.put h bi 3 u) bi a o u t G {b with Bb:=l}:=w.put rfl rfl w.o w.t
def BX.st{k:Nat}{v v0:Aa}(w:BX h bi a o c t G b)(hk:(OL a b o c t)[k]?=some v0)(hv:v.cells=[v]):Cx h 1 (Pt bi k) v=some (Am.put h bi k v):=At.store (v:=v0) ⟨_,w.hb,hk⟩ hv
variable{nm:Aq}{av:Aa}{l:List AS}{r:List Aa}{sp p:Int}
def aCo(w:BX h bi a o c t G b)(ok:BA b)(rm:Ci b (m+4))(hr:UX nm av r)(hv:Cl l av)(hl:E6 l)(hn:nm.length<=1000)(sp:Int):
  ∃h' o' G',Cm cx 94 [Pt bi 0,.func (.func 76) [Pt bi 0] [],.agg r,I sp] h (I (b.UR sp)) h'/\BX h' bi a o' c t G' (b.Fa nm l sp)/\ED h (Bn bi G) h' (Bn bi G'):=by
 obtain⟨s,n⟩:=cf w ok rm 0;have w1:=w.J5 (u:=s);obtain⟨h2,A,r2,k,i⟩:=vB (m:=m+1) w1 ok (rm.le Ab) hr hv hl hn (b.place 0).1 sp;have FH:=hr;obtain⟨K,c2,J,H,E,D,C,B,X2,gR,rfl⟩:=hr;have ho:=rm.A3;by_cases hs:BS.JC sp
 .have td:=oz (nm:=nm) (at_:=l) (p:=(b.place 0).1) ok hs;have eS:=J2 (m:=m+1) (nm:=nm) (sp:=sp) (p:=(b.place 0).1) (rm.le Ab) hl;have ja:(b.Ie nm l sp).node=b.a.len+1:=by unfold BS.Ie;rw[Ad hs]
  have X0:¬(b.a.len+1=0):=by unfold Ar.len;omega
  have NY:(b.EU nm l sp (b.place 0).1).A3=b.A3:=by unfold BS.EU;rw[Ad hs]
  obtain⟨y,z,v,j,q⟩:=ZB (x:=b.a.len+1) (p:=(b.place 0).1) (bf:=(b.place 0).2) k td eS;obtain⟨v4,d,f⟩:=f95 j.sO (by simp only[NY];omega) (b.Ie nm l sp);refine⟨Am.put y bi 2 v4,v4,z,?_,?_,((w.Dt.trans i).trans q).trans B2⟩
  .have g:b.UR sp=b.a.len+1:=by unfold BS.UR;rw[Ad hs]
   rw[Ak,eE,š,g];simp only[abS,Nat.reduceAdd,↓reduceIte,CM,Ic,n.Ah,(Be:(76:Nat)<=99999),r2.Ah,ja,X0,CF,v.Ah];have e:=@Item.RK (b.Ie nm l sp);rw[ja] at e;rw[<-e] at d;simp only[e] at d⊢;simp only[d.Ah,Ch]
  .have:=j.Nn f;unfold BS.Fa;rw[Ad hs];exact this
 .refine⟨h2,o,A,?_,?_,w.Dt.trans i⟩
  .have e:b.Ie nm l sp=Item.zero:=by unfold BS.Ie;rw[Ac hs]
   have g:b.UR sp=0:=by unfold BS.UR;rw[Ac hs]
   rw[e,Ob] at r2;rw[Ak,eE,š,g];simp only[abS,Nat.reduceAdd,↓reduceIte,CM,Ic,n.Ah,(Be:(76:Nat)<=99999),r2.Ah,CF,B0]
  .have:b.Fa nm l sp=b.EU nm l sp (b.place 0).1:=by unfold BS.Fa BS.EU;rw[Ac hs,Ac hs]
   rw[this];exact k
def Ě(w:BX h bi a o c t G b)(ok:BA b)(rm:Ci b (m+4))(hr:UX nm av r)(hv:Cl l av)(hl:E6 l)(hn:nm.length<=1000)(sp:Int):
  ∃h' o' G',Cm cx 46 [Pt bi 0,.agg r,I sp] h (I (b.UR sp)) h'/\BX h' bi a o' c t G' (b.Fa nm l sp)/\ED h (Bn bi G) h' (Bn bi G'):=by
 obtain⟨h',o',G',d,w',x'⟩:=aCo w ok rm hr hv hl hn sp;refine⟨h',o',G',?_,w',x'⟩;obtain⟨n,c2,k,j,i,g,f,e,X2,gR,rfl⟩:=hr;rw[Ak,tH,t46];simp only[abS,(GV w).Ah,d.Ah]
def cj(w:BX h bi a o c t G b)(ok:BA b)(rm:Ci b (m+4))(hr:UX nm av r)(hv:Cl l av)(hl:E6 l)(hn:nm.length<=1000):
  ∃h' o' G',Cm cx 19 [Pt bi 0,.agg r] h (I (b.a.len+1)) h'/\BX h' bi a o' c t G' (b.Fa nm l 1)/\ED h (Bn bi G) h' (Bn bi G'):=by
 obtain⟨h',o',G',d,w',x'⟩:=Ě w ok rm hr hv hl hn 1;refine⟨h',o',G',?_,w',x'⟩;have e:b.UR 1=b.a.len+1:=by unfold BS.UR;rw[Ad KH]
 rw[e] at d;obtain⟨q,c2,n,k,j,i,g,f,X2,gR,rfl⟩:=hr;rw[Ak,sY,t19];simp only[Ch,d.Ah]
end
def C9(l:List Cp)(v:Aa):Prop:=∃fs:List CJ,fs.map (·.c)=l/\Ef fs v
def Rr{U Z:Type}{f:U->Z}{q:Z->Bool}{l:List U}:AM q (l.map f)=AM (λx=>q (f x)) l:=by unfold AM;rw[<-PZ,List.findIdx?_map,Aw];rfl
def eT{U Z:Type}{f:U->Z}{l:List U}{k:Nat}:(Bf l k).map f=Bf (l.map f) k:=by unfold Bf;simp
def cl{fs:List CJ}:since fs=dC (fs.map (·.c)):=by unfold since dC;rw[Rr];rfl
def ZC{n:Int}{fs:List CJ}:IU n fs=FI n (fs.map (·.c)):=by unfold IU FI;rw[Rr];rfl
def cm{nm:Aq}{fs:List CJ}:N8 nm fs=Gm nm (fs.map (·.c)):=by
 unfold N8 Gm;rw[<-PZ];generalize fs.reverse=r;induction r with
 |nil=>rfl
 |cons x r ih=>simp only[AZ,iB,TR,ih,Aw]
def ě{e:Cp}{fs:List CJ}:UP e fs=iG e (fs.map (·.c)).reverse:=by
 unfold UP;rw[<-PZ];generalize fs.reverse=r;induction r with
 |nil=>rfl
 |cons x r ih=>simp only[AZ,yL,iG,ih]
def Ĝ{e:Cp}{fs:List CJ}:OD e fs=Zj e (fs.map (·.c)).reverse:=by
 unfold OD;rw[<-PZ];generalize fs.reverse=r;induction r with
 |nil=>rfl
 |cons x r ih=>simp only[AZ,cX,Zj,ih,Aw]
def vC{e:Cp}{d:CJ}{fs:List CJ}(he:d.c=e):(OE e fs++[d]).map (·.c)=Zk e (fs.map (·.c)):=by
 unfold OE Zk;rw[ě,Ĝ,B3,aDs,he];split;.rw[eT]
 .rfl
def jY{fs:List CJ}:(fs.take (Gl fs)).map (·.c)=HT (fs.map (·.c)):=by unfold HT Gl;rw[HO,cl]
def cp{l:List Cp}{fs:List CJ}(e:fs.map (·.c)=l)(h:∀x∈l,x.AB.length<=1000):∀x∈fs,oX x:=by intro x hx;have:=h x.c (by rw[<-e];exact AR.2 ⟨x,hx,rfl⟩);unfold oX;omega
section
variable{h h':Ag}{bi a:Nat}{o c t:Aa}{G G' F:Nat->Prop}{b:BS}{x:Int}{m:Nat}
variable{nm:Aq}{av:Aa}{l:List AS}{r:List Aa}{sp p:Int}
def aCp(w:BX h bi a o c t G b)(hc:C9 b.Bb c)(ok:Eg b)(rm:Ci b (m+5))(hr:UX nm av r)(hv:Cl l av)(hl:E6 l)(hn:nm.length<=1000):
  ∃h' o' c' G',Cm cx 60 [Pt bi 0,.agg r] h (I (b.a.len+1)) h'/\BX h' bi a o' c' t G' (b.Ko nm l)/\C9 (b.Ko nm l).Bb c'/\ED h (Bn bi G) h' (Bn bi G'):=by
 obtain⟨h1,j,k,i,w1,g⟩:=cj (m:=m+1) w ok (rm.le Ab) hr hv hl hn;obtain⟨fs,d,hf⟩:=hc;have ha:=rm.Bb;have HB:fs.length=b.Bb.length:=by rw[<-d,Aw]
 obtain⟨u,n,YE,r2,hu⟩:=f30 (h:=h1) (id:=bi) (o:=3) (l:=fs) ⟨c,w1.u0,hf⟩ Ab (cp d λx hx=>((rm.C3 x hx).2).1) (e:=⟨⟨b.a.len+1,nm,l⟩,av,hv⟩) (by unfold oX;have:=hl.1;simp only;omega);refine⟨_,j,u,k,?_,w1.QE (u:=u),?_,g.trans B2⟩
 .obtain⟨B,c2,A,z,y,v,s,q,X2,gR,rfl⟩:=hr;have X0:¬(b.a.len+1=0):=by unfold Ar.len;omega
  have f:Cm cx 105 [Pt bi 3,.agg [I (b.a.len+1),.str nm,av]] h1 (.tuple []) (put h1 bi 3 u):=r2;have u_:av.cells=[av]:=Bu.cells hv;rw[Ak,pt,t60];simp only[abS,Nat.reduceLeDiff,↓reduceIte,Bt,i.Ah,X0,CF,u_,f.Ah]
 .refine⟨_,?_,hu⟩;rw[vC YE,d];unfold BS.Ko;simp only;rw[GS]
end
def ĝ:∀x:Fin 64,(BitVec.ofInt 8 192|||BitVec.ofInt 8 (x.val:Int)).toNat=192+x.val:=Be
def Ğ:∀x:Fin 32,(BitVec.ofInt 8 224|||BitVec.ofInt 8 (x.val:Int)).toNat=224+x.val:=Be
def ğ:∀x:Fin 16,(BitVec.ofInt 8 240|||BitVec.ofInt 8 (x.val:Int)).toNat=240+x.val:=Be
def Ġ:∀x:Fin 64,(BitVec.ofInt 8 128|||BitVec.ofInt 8 (x.val:Int)).toNat=128+x.val:=Be
def ġ:∀x:Fin 256,(BitVec.ofInt 8 (x.val:Int)&&& BitVec.ofInt 8 63).toNat=x.val%64:=Be
def jZ{a b:Int}:Ax (.int .or) [.int .u8 a,.int .u8 b]=some (.int .u8 (IntKind.u8.wrap (BitVec.ofInt 8 a|||BitVec.ofInt 8 b).toNat)):=rfl
def tg{a b:Int}:Ax (.int .and) [.int .u8 a,.int .u8 b]=some (.int .u8 (IntKind.u8.wrap (BitVec.ofInt 8 a&&& BitVec.ofInt 8 b).toNat)):=rfl
def vD{x:Nat}(h:x<64):Ax (.int .or) [.int .u8 192,.int .u8 (x:Int)]=some (.int .u8 ((192+x:Nat):Int)):=by rw[jZ,ĝ ⟨x,h⟩,IntKind.wrap_u8];congr 2;simp only;omega
def ZD{x:Nat}(h:x<32):Ax (.int .or) [.int .u8 224,.int .u8 (x:Int)]=some (.int .u8 ((224+x:Nat):Int)):=by rw[jZ,Ğ ⟨x,h⟩,IntKind.wrap_u8];congr 2;simp only;omega
def vE{x:Nat}(h:x<16):Ax (.int .or) [.int .u8 240,.int .u8 (x:Int)]=some (.int .u8 ((240+x:Nat):Int)):=by rw[jZ,ğ ⟨x,h⟩,IntKind.wrap_u8];congr 2;simp only;omega
def Jl{x:Nat}(h:x<64):Ax (.int .or) [.int .u8 128,.int .u8 (x:Int)]=some (.int .u8 ((128+x:Nat):Int)):=by rw[jZ,Ġ ⟨x,h⟩,IntKind.wrap_u8];congr 2;simp only;omega
def Jm{x:Nat}(h:x<256):Ax (.int .and) [.int .u8 (x:Int),.int .u8 63]=some (.int .u8 ((x%64:Nat):Int)):=by rw[tg,ġ ⟨x,h⟩,IntKind.wrap_u8];congr 2;simp only;omega
def Sk{n:Nat}:Ax (.int .shr) [.int .i32 (n:Int),.int .u64 6]=some (.int .i32 ((n/64:Nat):Int)):=by rw[show Ax (.int .shr) [.int .i32 (n:Int),.int .u64 6]=some (.int .i32 ((n:Int).fdiv 64)) from rfl,Nt _ Ab];rfl
def Ue{n:Nat}:Ax (.int .shr) [.int .i32 (n:Int),.int .u64 12]=some (.int .i32 ((n/4096:Nat):Int)):=by rw[show Ax (.int .shr) [.int .i32 (n:Int),.int .u64 12]=some (.int .i32 ((n:Int).fdiv 4096)) from rfl,Nt _ Ab];rfl
def vF{n:Nat}:Ax (.int .shr) [.int .i32 (n:Int),.int .u64 18]=some (.int .i32 ((n/262144:Nat):Int)):=by rw[show Ax (.int .shr) [.int .i32 (n:Int),.int .u64 18]=some (.int .i32 ((n:Int).fdiv 262144)) from rfl,Nt _ Ab];rfl
def Uf{k:IntKind}{n:Nat}:Ax (.conv .u8) [.int k (n:Int)]=some (.int .u8 ((n%256:Nat):Int)):=by rw[W9,IntKind.wrap_u8];congr 2
def XK{n:Int}:Ax (.conv .u32) [.int .i32 n]=some (.int .u32 (n%4294967296)):=by rw[W9,IntKind.wrap_u32]
def wG{n:Nat}(h:n<256):((UInt8.ofNat n).toNat:Int)=(n:Int):=by rw[UInt8.toNat_ofNat'];congr 1;omega
def wH(b:UInt8):Aa:= .int .u8 (b.toNat:Int)
def IZ{h:Ag}{bs:Aq}(hb:bs≠[])(hl:bs.length<=8):hgrow h 1 1 .slnil (.sl 1 (Cu bs))=some (h++[.cells (bs.map wH)],.CG h.length 0 bs.length 1):=by
 have HB:∀bs:Aq,(Cu bs).flatten=bs.map wH:=by
  intro bs;induction bs with
  |nil=>rfl
  |cons c bs ih=>show[wH c]++(Cu bs).flatten=_;rw[ih];rfl
 cases bs with
 |nil=>exact absurd rfl hb
 |cons c bs=>
  have hm:AO=140737488355328:=rfl;have hlen:(Cu (c::bs)).length=(c::bs).length:=by simp[Cu]
  have e:Cu (c::bs)=[.int .u8 c.toNat]::Cu bs:=rfl;have e1:Gt h 1 (.sl 1 (Cu (c::bs)))=some (Cu (c::bs)):=by simp[Gt]
  unfold hgrow;rw[e1,e];simp only
  rw[<-e,Ad (by rw[hlen];omega),HB,hlen]
def aCr{h:Ag}(r:Int)(hr: -2147483648<=r/\r<=2147483647):Cm cx 50 [.slnil,.int .i32 r] h (.CG h.length 0 (JD r).length 1) (h++[.cells ((JD r).map wH)]):=by
 have one:∀{a:Nat} (h1:a<256),Ax (.Cd 1) [.int .u8 (a:Int)]=some (.sl 1 (Cu [UInt8.ofNat a])):=by intro a h1;simp only[Cu,AZ,De,wG h1];rfl
 have aP:∀{a b:Nat} (h1:a<256) (h2:b<256),Ax (.Cd 1) [.int .u8 (a:Int),.int .u8 (b:Int)]=some (.sl 1 (Cu [UInt8.ofNat a,UInt8.ofNat b])):=by intro a b h1 h2;simp only[Cu,AZ,De,wG h1,wG h2];rfl
 have Vn:∀{a b k3:Nat} (h1:a<256) (h2:b<256) (c:k3<256),Ax (.Cd 1) [.int .u8 (a:Int),.int .u8 (b:Int),.int .u8 (k3:Int)]=some (.sl 1 (Cu [UInt8.ofNat a,UInt8.ofNat b,UInt8.ofNat k3])):=by intro a b k3 h1 h2 c;simp only[Cu,AZ,De,wG h1,wG h2,wG c];rfl
 have four:∀{a b k3 d:Nat} (h1:a<256) (h2:b<256) (c:k3<256) (f:d<256),Ax (.Cd 1) [.int .u8 (a:Int),.int .u8 (b:Int),.int .u8 (k3:Int),.int .u8 (d:Int)]=some (.sl 1 (Cu [UInt8.ofNat a,UInt8.ofNat b,UInt8.ofNat k3,UInt8.ofNat d])):=by intro a b k3 d h1 h2 c f;simp only[Cu,AZ,De,wG h1,wG h2,wG c,wG f];rfl
 have jr:Ax (.Cd 1) [.int .u8 239,.int .u8 191,.int .u8 189]=some (.sl 1 (Cu [239,191,189])):=rfl;rw[Ak,tK,t50];simp only[Ch,XK];by_cases h0:0<=r
 .obtain⟨n,rfl⟩:=PY h0;have em:(n:Int)%4294967296=(n:Int):=Ab;rw[em];by_cases c1:n<128
  .have e:JD (n:Int)=[UInt8.ofNat n]:=by unfold JD;rw[Ad Ab];rfl
   have i:n%256=n:=Ab;rw[e];simp only[Ch,cN,(Ab:(n:Int)<=127),Uf,i,one (Ab:n<256),IZ (bs:=[UInt8.ofNat n]) Au Au]
  .have th:Cm cx 96 [.slnil,.int .i32 (n:Int)] h (.CG h.length 0 (JD (n:Int)).length 1) (h++[.cells ((JD (n:Int)).map wH)]):=by
    rw[Ak,eF,Ţ];simp only[Ch,XK,em];by_cases c2:n<2048
    .have e:JD (n:Int)=[UInt8.ofNat (192+n/64),UInt8.ofNat (128+n%64)]:=by unfold JD;rw[Ac Ab,Ad Ab];rfl
     rw[e];have a1:n/64%256=n/64:=Ab;have a2:n%256%64=n%64:=Ab;simp only[Ch,cN,(Ab:(n:Int)<=2047),Sk,Uf,a1,vD (Ab:n/64<64),Jm (Ab:n%256<256),a2,Jl (Ab:n%64<64),aP (Ab:192+n/64<256) (Ab:128+n%64<256),IZ (bs:=[UInt8.ofNat (192+n/64),UInt8.ofNat (128+n%64)]) Au Au]
    .by_cases m:n<65536/\¬(55296<=n/\n<57344)
     .have e:JD (n:Int)=[UInt8.ofNat (224+n/4096),UInt8.ofNat (128+n/64%64),UInt8.ofNat (128+n%64)]:=by unfold JD;rw[Ac Ab,Ac Ab,Ad Ab];rfl
      rw[e];have a1:n/4096%256=n/4096:=Ab;have a2:n/64%256%64=n/64%64:=Ab;have a3:n%256%64=n%64:=Ab;have g:=IZ (h:=h) (bs:=[UInt8.ofNat (224+n/4096),UInt8.ofNat (128+n/64%64),UInt8.ofNat (128+n%64)]) Au Au;have t3:=Vn (Ab:224+n/4096<256) (Ab:128+n/64%64<256) (Ab:128+n%64<256);by_cases l:n<55296;.simp only[abS,(Ab:¬(n:Int)<=2047),(Ab:(n:Int)<55296),Sk,Ue,Uf,a1,ZD (Ab:n/4096<32),Jm (Ab:n/64%256<256),a2,Jl (Ab:n/64%64<64),Jm (Ab:n%256<256),a3,Jl (Ab:n%64<64),t3,g]
      .simp only[abS,(Ab:¬(n:Int)<=2047),(Ab:¬(n:Int)<55296),(Ab:(57343:Int)<n),(Ab:(n:Int)<=65535),Sk,Ue,Uf,a1,ZD (Ab:n/4096<32),Jm (Ab:n/64%256<256),a2,Jl (Ab:n/64%64<64),Jm (Ab:n%256<256),a3,Jl (Ab:n%64<64),t3,g]
     .by_cases k:65536<=n/\n<=1114111
      .have e:JD (n:Int)=[UInt8.ofNat (240+n/262144),UInt8.ofNat (128+n/4096%64),UInt8.ofNat (128+n/64%64),UInt8.ofNat (128+n%64)]:=by unfold JD;rw[Ac Ab,Ac Ab,Ac Ab,Ad Ab];rfl
       rw[e];have a0:n/262144%256=n/262144:=Ab;have a1:n/4096%256%64=n/4096%64:=Ab;have a2:n/64%256%64=n/64%64:=Ab;have a3:n%256%64=n%64:=Ab;have g:=IZ (h:=h) (bs:=[UInt8.ofNat (240+n/262144),UInt8.ofNat (128+n/4096%64),UInt8.ofNat (128+n/64%64),UInt8.ofNat (128+n%64)]) Au Au;have t4:=four (Ab:240+n/262144<256) (Ab:128+n/4096%64<256) (Ab:128+n/64%64<256) (Ab:128+n%64<256);simp only[abS,(Ab:¬(n:Int)<=2047),(Ab:¬(n:Int)<55296),(Ab:(57343:Int)<n),(Ab:¬(n:Int)<=65535),(Ab:(65535:Int)<n),(Ab:(n:Int)<=1114111),Sk,Ue,vF,Uf,a0,vE (Ab:n/262144<16),Jm (Ab:n/4096%256<256),a1,Jl (Ab:n/4096%64<64),Jm (Ab:n/64%256<256),a2,Jl (Ab:n/64%64<64),Jm (Ab:n%256<256),a3,Jl (Ab:n%64<64),t4,g]
      .have e:JD (n:Int)=[239,191,189]:=by unfold JD;rw[Ac Ab,Ac Ab,Ac Ab,Ac Ab]
       rw[e];have g:=IZ (h:=h) (bs:=[239,191,189]) Au Au;by_cases j:n<65536;.simp only[abS,(Ab:¬(n:Int)<=2047),(Ab:¬(n:Int)<55296),(Ab:¬(57343:Int)<n),(Ab:¬(65535:Int)<n),jr,g]
       .simp only[abS,(Ab:¬(n:Int)<=2047),(Ab:¬(n:Int)<55296),(Ab:(57343:Int)<n),(Ab:¬(n:Int)<=65535),(Ab:(65535:Int)<n),(Ab:¬(n:Int)<=1114111),jr,g]
   simp only[abS,(Ab:¬(n:Int)<=127),th.Ah]
 .have e:JD r=[239,191,189]:=by unfold JD;rw[Ac Ab,Ac Ab,Ac Ab,Ac Ab]
  have g:=IZ (h:=h) (bs:=[239,191,189]) Au Au;have th:Cm cx 96 [.slnil,.int .i32 r] h (.CG h.length 0 (JD r).length 1) (h++[.cells ((JD r).map wH)]):=by rw[e,Ak,eF,Ţ];simp only[abS,XK,(Ab:¬(r%4294967296)<=2047),(Ab:¬(r%4294967296)<55296),(Ab:(57343:Int)<r%4294967296),(Ab:¬(r%4294967296)<=65535),(Ab:(65535:Int)<r%4294967296),(Ab:¬(r%4294967296)<=1114111),jr,g]
  simp only[abS,(Ab:¬(r%4294967296)<=127),th.Ah]
def ZE(r:Int):(JD r).length<=4:=by unfold JD;split<;>(try split)<;>(try split)<;>(try split)<;>simp
def vG{l:List Int}{bf:Int}(hb:bf≠0->bf∈l):∃i,i<=l.length/\(bf=0->i=l.length)/\(bf≠0->B5 (λy=>decide (bf=y)) 0 l=(i:Int))/\JE l bf=if i=0 then none else l[i-1]?:=by
 by_cases h0:bf=0
 .refine⟨l.length,Af _,λ_=>rfl,λh=>absurd h0 h,?_⟩;unfold JE;rw[Ad h0,NW];split;.rename_i h;rw[Dd Ab]
  .rfl
 .obtain⟨k,g,e,k3,d,f⟩:=XJ (hb h0);refine⟨k,Ab,λh=>absurd h h0,λ_=>e,?_⟩;unfold JE;rw[Ac h0,d,NW,Av,Cg Ab];split;.rename_i h;subst h;simp
  .rw[BV];rw[Ad Ab]
def kC{s u:Aq}(h:s.length+u.length<=2000000000):Ax (.str .add) [.str s,.str u]=some (.str (s++u)):=by have:s.length+u.length<=9223372036854775807:=Ab;simp[Ax,X8,this]
def V9:∀s:Aq,(Cu s).flatten=s.map wH
 |[]=>rfl
 |c::s=>by show[wH c]++(Cu s).flatten=_;rw[V9 s];rfl
section
variable{h h':Ag}{bi a:Nat}{o c t:Aa}{G G' F:Nat->Prop}{b:BS}{x:Int}{m:Nat}
variable{nm:Aq}{av:Aa}{l:List AS}{r:List Aa}{sp p:Int}
def kD{k d:Int}{s:Aq}(ok:Eg b)(rm:Ci b (m+1))(hk:k=5\/k=6)(hd:b.a.has d/\(b.a.nd d).kind=1)(hs:s.length<=100000):Eg {b with a:=b.a.add {kind:=k,CD:=d,data:=s}}/\Ci {b with a:=b.a.add {kind:=k,CD:=d,data:=s}} m:=
 ⟨ok.J0 (Xr ok.ok (by unfold Ar.len;omega) hd hk) dG,rm.FG (k:=1) (LO (A8 _) hs)⟩
def aCs(w:BX h bi a o c t G b)(ok:Eg b)(rm:Ci b (m+5))(r:Int)(hr: -2147483648<=r/\r<=2147483647):
  ∃h' G',Cm cx 20 [Pt bi 0,.int .i32 r] h (.tuple []) h'/\BX h' bi a o c t G' (b.sJ r)/\ED h (Bn bi G) h' (Bn bi G'):=by
 obtain⟨f,C⟩:=cf w ok rm 0;obtain⟨hp,Y⟩:=TW ok (t:=0) (.inl rfl);have w1:=w.J5 (u:=f);unfold BS.sJ;generalize(b.place 0).1=p at*;generalize(b.place 0).2=bf at*;obtain⟨K,V,d,r2,hK,_⟩:=RT w1 ok rm p;have U:=w1.J5 (u:=d);have x2:ED h (Bn bi G) (h++f++d) (Bn bi G):=w.Dt.trans w1.Dt;unfold BS.Kr;by_cases hk:(b.a.nd p).kind=4\/(b.a.nd p).kind=2;rotate_left
 .refine⟨_,G,?_,?_,x2⟩;.have k4:¬(b.a.nd p).kind=4:=λe=>hk (.inl e);have k2:¬(b.a.nd p).kind=2:=λe=>hk (.inr e);rw[Ak,T0,t20];simp only[abS,(GV w).Ah,C.Ah,r2.Ah,CF,k4,k2]
  .rw[Ac hk];exact U
 rw[Ad hk];obtain⟨i,hi,yB,oS,X⟩:=vG (l:=(b.a.nd p).AP) (bf:=bf) (λh=>by have:=Y h;have h2:=(ok.ok.ER bf this.1 (by rw[this.2];have:=hp.1;omega)).2;rwa [this.2] at h2);rw[X];have Vo:=rm.TZ.AP ok.ok p;have E:=sy (h:=h++f++d) (x:=bf) hK.RR Vo;have vw:=aCr (h:=h++f++d) r hr;have oN:=ZE r;generalize hs:JD r=s at*;have f3:La (h++f++d++[.cells (s.map wH)]) (.CG (h++f++d).length 0 s.length 1)=some (h++f++d++[.Ec],.sl 1 (Cu s)):=by have HB:=V9 s;have:=Qo (h:=h++f++d++[.cells (s.map wH)]) (id:=(h++f++d).length) (z:=1) (An:=Cu s) (by intro q hq;obtain⟨y,_,rfl⟩:=AR.1 hq;rfl) (by rw[HB];simp);rw[show(Cu s).length=s.length by simp[Cu]] at this;rw[this];congr 2;rw[CO _ _ (Af _),FD];rfl
 have b3:Ax .Uu [.sl 1 (Cu s)]=some (.str s):=by simp[Ax,Wk,TA]
 have v:=U.J5 (u:=[.Ec]);have Z:ED h (Bn bi G) (h++f++d++[.Ec]) (Bn bi G):=x2.trans U.Dt;have vH:=ok.ok.CD p hp;have new:∀h3,(∃u,h3=h++f++d++[.Ec]++u)->∃h' H G',Cm cx 52 [Pt a 0,I (b.a.nd p).CD,.str s] h3 (.tuple [I (b.a.len+1),I 0]) H/\Cm cx 53 [Pt bi 0,I (b.a.len+1),I p,I bf] H (.tuple []) h'/\BX h' bi a o c t G' {b with a:=(b.a.add {kind:=5,CD:=(b.a.nd p).CD,data:=s}).E9 (b.a.len+1) p bf}/\ED h (Bn bi G) h' (Bn bi G'):=by
  rintro _ ⟨u,rfl⟩;have w4:=v.J5 (u:=u);obtain⟨H,G4,⟨B,_⟩,w5,x5⟩:=w4.step (A':=b.a.add (Kv 5 (b.a.nd p).CD s).x) (R:=λh'=>Cm cx 52 [Pt a 0,I (b.a.nd p).CD,.str s] (h++f++d++[.Ec]++u) (.tuple [I (b.a.len+1),I 0]) h'/\True) (λn m ps O=>by obtain⟨h',r,wp,o1,l1⟩:=aCa (s:=s) O rm.TZ (by have:=rm.n;unfold Ar.len;omega) vH;exact⟨h',_,_,_,⟨r,trivial⟩,wp,O.PG rfl o1 l1⟩)
  obtain⟨Q_,W⟩:=kD (m:=m) (k:=5) (s:=s) ok (rm.le Ab) (.inl rfl) vH Ab;obtain⟨h',G',A,M,J⟩:=ZB (x:=b.a.len+1) (p:=p) (bf:=bf) w5 Q_.ba W;exact⟨h',H,G',B,A,M,(Z.trans v.Dt).trans (x5.trans J)⟩
 have kl:=(hK.RR (h:=h++f++d)).len;have NQ:i<=1000000000:=Ab;by_cases hz:i=0
 .subst hz;obtain⟨h',H,G',B,A,M,J⟩:=new (h++f++d++[.Ec]) ⟨[],Au⟩;simp only[↓reduceIte];refine⟨h',G',?_,M,J⟩;rw[Ak,T0,t20];rcases hk with hk|hk<;>by_cases h0:bf=0
  all_goals first|(rw[<-yB h0] at kl;simp only[abS,(GV w).Ah,C.Ah,r2.Ah,hk,CF,B0,(Be:¬(2:Int)=4),kl,C1 h0,vw.Ah,f3,b3,(Be:¬(0:Int)<((0:Nat):Int)),v.l0,B.Ah,B0,A.Ah];done)|(rw[oS h0] at E;simp only[abS,(GV w).Ah,C.Ah,r2.Ah,hk,CF,B0,(Be:¬(2:Int)=4),kl,h0,vw.Ah,f3,b3,(Be:¬(0:Int)<((0:Nat):Int)),v.l0,B.Ah,B0,A.Ah,E.Ah])
 .obtain⟨j,rfl⟩:∃j,i=j+1:=⟨i-1,Ab⟩;have hj:j<(b.a.nd p).AP.length:=Ab;rw[Ac hz,XU,Ap hj];simp only
  have ht:=ok.ok.KU p hp _ (AX hj);obtain⟨q,e1,T⟩:=(hK.RR (h:=h++f++d++[.Ec])).at_ j hj;obtain⟨K7,V7,P,S,_,_⟩:=RT v ok rm (b.a.nd p).AP[j];have L:=v.J5 (u:=P);obtain⟨q',Ũ,N⟩:=(hK.RR (h:=h++f++d++[.Ec]++P)).at_ j hj;rw[e1,Bv] at Ũ;subst Ũ;have Q:Ax (.int .sub) [I ((j+1:Nat):Int),I 1]=some (I (j:Int)):=by have:=M8 (n:=j+1) Ab Ab;simpa using this
  generalize hte:(b.a.nd p).AP[j]=g at*;by_cases D:(b.a.nd g).kind=5
  .rw[Ad D];have q6:=rm.data g;obtain⟨h8,G8,⟨r8,_⟩,w8,x8⟩:=L.step (A':=b.a.JZ g ((b.a.nd g).data++s)) (R:=λh'=>Cm cx 51 [Pt a 0,I g,.str ((b.a.nd g).data++s)] (h++f++d++[.Ec]++P) (I 0) h'/\True) (λn m ps O=>by obtain⟨h',KD,r,wp,xp⟩:=û (s:=(b.a.nd g).data++s) O rm.TZ ht.1 D;exact⟨h',n,m,KD,⟨r,trivial⟩,wp,xp⟩)
   refine⟨h8,G8,?_,w8,(Z.trans v.Dt).trans x8⟩;rw[Ak,T0,t20];rcases hk with hk|hk<;>by_cases h0:bf=0
   all_goals first|(rw[<-yB h0] at kl;simp only[abS,(GV w).Ah,C.Ah,r2.Ah,hk,CF,B0,(Be:¬(2:Int)=4),kl,C1 h0,vw.Ah,f3,b3,(Ab:(0:Int)<((j+1:Nat):Int)),Q,e1,T,S.Ah,D,L.l0,N,kC (Ab:(b.a.nd g).data.length+s.length<=2000000000),B0,r8.Ah];done)|(rw[oS h0] at E;simp only[abS,(GV w).Ah,C.Ah,r2.Ah,hk,CF,B0,(Be:¬(2:Int)=4),kl,h0,vw.Ah,f3,b3,(Ab:(0:Int)<((j+1:Nat):Int)),Q,e1,T,S.Ah,D,L.l0,N,kC (Ab:(b.a.nd g).data.length+s.length<=2000000000),B0,r8.Ah,E.Ah])
  .rw[Ac D];obtain⟨h',H,G',B,A,M,J⟩:=new _ ⟨P,rfl⟩;refine⟨h',G',?_,M,J⟩;rw[Ak,T0,t20];rcases hk with hk|hk<;>by_cases h0:bf=0
   all_goals first|(rw[<-yB h0] at kl;simp only[abS,(GV w).Ah,C.Ah,r2.Ah,hk,CF,B0,(Be:¬(2:Int)=4),kl,C1 h0,vw.Ah,f3,b3,(Ab:(0:Int)<((j+1:Nat):Int)),Q,e1,T,S.Ah,D,L.l0,B.Ah,B0,A.Ah];done)|(rw[oS h0] at E;simp only[abS,(GV w).Ah,C.Ah,r2.Ah,hk,CF,B0,(Be:¬(2:Int)=4),kl,h0,vw.Ah,f3,b3,(Ab:(0:Int)<((j+1:Nat):Int)),Q,e1,T,S.Ah,D,L.l0,B.Ah,B0,A.Ah,E.Ah])
def Ug{s:Aq}{p bf x:Int}{h0 h1:Ag}(hstart:(¬x=0/\p=x/\bf=0/\h1=h0)\/(x=0/\Cm cx 47 [Pt bi 0,I 0] h0 (.tuple [I p,I bf]) h1))
  (w0:BX h0 bi a o c t G b) (g:ED h0 (Bn bi G) h1 (Bn bi G)) (w:BX h1 bi a o c t G b) (ok:Eg b) (rm:Ci b (m+1)) (hs:s.length<=100000):
  ∃h' G',Cm cx 61 [Pt bi 0,.str s,I x] h0 (.tuple []) h'/\BX h' bi a o c t G' {b with a:=BS.ES b.a s p bf}/\ED h0 (Bn bi G) h' (Bn bi G'):=by
 obtain⟨K,V,j,r2,hK,_⟩:=RT w ok rm p;have d:=w.J5 (u:=j);unfold BS.ES;by_cases hk:Mz (b.a.nd p).kind
 .rw[Ad hk];have hp:b.a.has p:=by
   by_cases hp:b.a.has p;.exact hp
   .rw[Km hp] at hk;unfold Mz at hk;simp at hk
  have vH:=ok.ok.CD p hp;obtain⟨J,L,⟨v,_⟩,E,C⟩:=d.step (A':=b.a.add (Kv 6 (b.a.nd p).CD s).x) (R:=λh'=>Cm cx 106 [Pt a 0,I (b.a.nd p).CD,.str s] (h1++j) (.tuple [I (b.a.len+1),I 0]) h'/\True) (λn m ps i=>by obtain⟨h',r,wp,H,l1⟩:=ú (s:=s) i rm.TZ (by have:=rm.n;unfold Ar.len;omega) vH;exact⟨h',_,_,_,⟨r,trivial⟩,wp,i.PG rfl H l1⟩)
  obtain⟨Q_,e⟩:=kD (m:=m) (k:=6) (s:=s) ok rm (.inr rfl) vH hs;obtain⟨h',G',q,D,B⟩:=ZB (x:=b.a.len+1) (p:=p) (bf:=bf) E Q_.ba e;refine⟨h',G',?_,D,(g.trans w.Dt).trans (C.trans B)⟩;rw[Ak,tP,t61];rcases hstart with⟨hx,rfl,rfl,rfl⟩|⟨hx,f⟩
  .rcases hk with hk|hk|hk<;>simp only[abS,(GV w0).Ah,r2.Ah,hk,CF,B0,(Be:¬(2:Int)=1),(Be:¬(4:Int)=1),(Be:¬(4:Int)=2),d.l0,v.Ah,q.Ah,hx]
  .rcases hk with hk|hk|hk<;>simp only[abS,(GV w0).Ah,r2.Ah,hk,CF,B0,(Be:¬(2:Int)=1),(Be:¬(4:Int)=1),(Be:¬(4:Int)=2),d.l0,v.Ah,q.Ah,C1 hx,f.Ah]
 .rw[Ac hk];refine⟨_,G,?_,d,g.trans w.Dt⟩;unfold Mz at hk;have A:¬(b.a.nd p).kind=1:=Ab;have z:¬(b.a.nd p).kind=2:=Ab;have y:¬(b.a.nd p).kind=4:=Ab;rw[Ak,tP,t61];rcases hstart with⟨hx,rfl,rfl,rfl⟩|⟨hx,f⟩
  .simp only[abS,(GV w0).Ah,r2.Ah,CF,A,z,y,hx]
  .simp only[abS,(GV w0).Ah,r2.Ah,CF,A,z,y,C1 hx,f.Ah]
def aCu(w:BX h bi a o c t G b)(ok:Eg b)(rm:Ci b (m+1))(s:Aq)(hs:s.length<=100000)(x:Int):
  ∃h' G',Cm cx 61 [Pt bi 0,.str s,I x] h (.tuple []) h'/\BX h' bi a o c t G' (b.Mh s x)/\ED h (Bn bi G) h' (Bn bi G'):=by
 unfold BS.Mh;by_cases h0:x=0;.rw[Ad h0];obtain⟨d,e⟩:=cf w ok rm 0;exact Ug (p:=(b.place 0).1) (bf:=(b.place 0).2) (.inr ⟨h0,e⟩) w w.Dt (w.J5 (u:=d)) ok rm hs
 .rw[Ac h0];exact Ug (p:=x) (bf:=0) (.inl ⟨h0,rfl,rfl,rfl⟩) w .refl w ok rm hs
def aCv(w:BX h bi a o c t G b)(ok:BA b)(rm:Ci b (m+4))(hr:UX nm av r)(hv:Cl l av)(hl:E6 l)(hn:nm.length<=1000)(st:Int):
  ∃h' o' G',Cm cx 62 [Pt bi 0,.agg r,I st] h (.tuple []) h'/\BX h' bi a o' c t G' (b.Py nm l st)/\ED h (Bn bi G) h' (Bn bi G'):=by
 obtain⟨h1,d,e,u,w1,i⟩:=cj w ok rm hr hv hl hn;have s:=w1.st (k:=18) (v:= I st) rfl rfl;have g:BX (put h1 bi 18 (I st)) bi a d c t e {b.Fa nm l 1 with sw:=st}:=w1.put rfl rfl w1.o w1.t;have q:=g.st (k:=5) (v:= I (b.Fa nm l 1).mode) rfl rfl;have f:BX (put (put h1 bi 18 (I st)) bi 5 (I (b.Fa nm l 1).mode)) bi a d c t e {b.Fa nm l 1 with sw:=st,yU:=(b.Fa nm l 1).mode}:=g.put rfl rfl w1.o w1.t;have n:=f.st (k:=4) (v:=I 8) rfl rfl;have j:BX (put (put (put h1 bi 18 (I st)) bi 5 (I (b.Fa nm l 1).mode)) bi 4 (I 8)) bi a d c t e (b.Py nm l st):=f.put rfl rfl w1.o w1.t;refine⟨_,d,e,?_,j,((i.trans B2).trans B2).trans B2⟩;obtain⟨E,c2,D,C,B,A,z,y,X2,gR,rfl⟩:=hr;rw[Ak,pv,t62];simp only[Ch,(GV w).Ah,u.Ah,w1.l4,s,q,n]
def aCw(w:BX h bi a o c t G b)(rm:Ci b m):
  ∃h' o',Cm cx 63 [Pt bi 0] h (.tuple []) h'/\BX h' bi a o' c t G b.Mi/\ED h (Bn bi G) h' (Bn bi G):=by
 have ho:=rm.A3;have d:=aBR w.sA (Ab:b.A3.length<=1000000000) 3 (v:= .sl 1 ([wP].map CK)) (ws:=[wP]) DA Be;have em:Ax (.Cd 1) [S [112]]=some (.sl 1 ([wP].map CK)):=Eu (ws:=[wP]) rfl Be;unfold BS.Mi;by_cases hs:OB (BF [wP]) (Ng 3) b.A3.reverse=true;.rw[Ad hs];rw[hs] at d;obtain⟨g,r2,Wy⟩:=ô w.sO Ab wP;have w1:=w.Nn Wy;have DG:=Xj (b:=Hi wP) (a:=DZ) (l:=b.A3);obtain⟨e,f,Ow⟩:=f66 w1.sO GU (w:= .sl 1 ([wP].map CK)) (ws:=[wP]) DA Be;refine⟨_,e,?_,w1.Nn Ow,B2.trans B2⟩;rw[Ak,tQ,t63];simp only[Ch,(GV w).Ah,em,d.Ah,r2.Ah,f.Ah]
 .rw[Ac hs];rw[show OB (BF [wP]) (Ng 3) b.A3.reverse=false by simpa using hs] at d;refine⟨h,o,?_,w,.refl⟩;rw[Ak,tQ,t63];simp only[Ch,(GV w).Ah,em,d.Ah]
end
section
variable{h h':Ag}{bi a:Nat}{o c t:Aa}{G G' F:Nat->Prop}{b:BS}{x:Int}{m:Nat}
variable{nm:Aq}{av:Aa}{l:List AS}{r:List Aa}{sp p:Int}
def ZF{U:Type}{l:List U}{n:Nat}(hn:n<l.length):(l.take (n+1)).reverse=l[n]::(l.take n).reverse:=by rw[AL hn,GG];rfl
def Ģ(w:BX h bi a o c t G b)(rm:Ci b m)(nm:Aq):
  ∃h' o',Cm cx 65 [Pt bi 0,.str nm] h (.tuple []) h'/\BX h' bi a o' c t G (b.D1 nm)/\ED h (Bn bi G) h' (Bn bi G):=by
 have ho:=rm.A3;have Oq:Ev cx 65 [Pt bi 0,.str nm] h λr h'=>r= .tuple []/\∃o',BX h' bi a o' c t G (b.D1 nm)/\ED h (Bn bi G) h' (Bn bi G):=by
  unfold Ev;rw[py,t65];simp only[abS,(GV w).Ah,(f104 w.sA).Ah,DP (Ab: -9223372036854775808<=(b.A3.length:Int)-1) (Ab:(b.A3.length:Int)-1<9223372036854775808)];refine BL (λn:Nat=>[I ((n:Int)-1)]) (λn h1=>n<=b.A3.length/\(b.A3.reverse.find? λi=>BF [nm] i||Is i)=((b.A3.take n).reverse.find? λi=>BF [nm] i||Is i)/\h1=h) (λn=>n) b.A3.length rfl ⟨Af _,by rw[BZ],rfl⟩ ?_;rintro n h1 ⟨hn,ha,rfl⟩;cases n with
  |zero=>
   have e:b.D1 nm=b:=by unfold BS.D1;rw[ha];rfl
   simp only[abS,(Ab:¬(0:Int)<=((0:Nat):Int)-1)];exact⟨_,rfl,rfl,o,by rw[e];exact w,.refl⟩
  |succ n=>
   have hlt:n<b.A3.length:=Ab;have i1:((n+1:Nat):Int)-1=(n:Int):=Ab;have j:=T6 w.sA (n:Int);rw[H8 hlt] at j;have em:Ax (.Cd 1) [.str nm]=some (.sl 1 ([nm].map CK)):=Eu (ws:=[nm]) rfl Au;have r2:=eR (ws:=[nm]) DA Au b.A3[n] h1;rw[ZF hlt,Mq] at ha;generalize hi:b.A3[n]=i at*;rw[Item.row] at r2;simp only[abS,Ic,i1,(Ab:(0:Int)<=(n:Int)),j.Ah,em];have f:Cm cx 93 [.agg i.row,.sl 1 ([nm].map CK)] h1 (.bool (BF [nm] i)) h1:=r2;rw[f.Ah,LJ,C6];refine⟨λh2=>?_,λh2=>?_⟩
   .obtain⟨u,s,Wy⟩:=ô w.sO Ab nm;have w1:=w.Nn Wy;have DG:=Xj (b:=Hi nm) (a:=DZ) (l:=b.A3);obtain⟨k,q,Ow⟩:=õ w1.sO GU i.node;simp only[Ch,s.Ah,q.Ah];refine⟨_,rfl,rfl,k,?_,B2.trans B2⟩;have e:b.D1 nm={b with A3:=HM i.node (EP (Hi nm) DZ b.A3)}:=by unfold BS.D1;rw[ha];simp only[h2,uk,BB]
    rw[e];exact w1.Nn Ow
   .simp only[h2,OP] at ha;simp only[(í i.AY i.name).Ck rfl rfl];rw[LJ,C6];refine⟨λg=>?_,λg=>?_⟩
    .have d:Is i=true:=g;rw[d] at ha;have e:b.D1 nm=b:=by unfold BS.D1;rw[ha];simp only[h2,C0,EH]
     simp only[Ch];exact⟨_,rfl,rfl,o,by rw[e];exact w,.refl⟩
    .have d:Is i=false:=g;rw[d] at ha;simp only[Ch,DP (Ab: -9223372036854775808<=(n:Int)-1) (Ab:(n:Int)-1<9223372036854775808)];exact A6.next n rfl ⟨Ab,ha,rfl⟩ Ab
 obtain⟨r,h',hr,rfl,o',w',x'⟩:=Oq.ret;exact⟨h',o',hr,w',x'⟩
def ģ(w:BX h bi a o c t G b)(rm:Ci b m){k:Nat}(hk:k<=b.A3.length):Cm cx 171 [Pt bi 0,I (k:Int)] h (I (BS.NG (b.A3.take k))) h:=by
 have ho:=rm.A3;rw[Ak,jA,qy];simp only[Ch,DP (Ab: -9223372036854775808<=(k:Int)-1) (Ab:(k:Int)-1<9223372036854775808)];refine BL (λn:Nat=>[I 0,I ((n:Int)-1)]) (λn h1=>n<=k/\((b.A3.take k).reverse.find? λi=>BF [BC] i||BF [Gz] i)=((b.A3.take n).reverse.find? λi=>BF [BC] i||BF [Gz] i)/\h1=h) (λn=>n) k rfl ⟨Af _,rfl,rfl⟩ ?_;rintro n h1 ⟨hn,ha,rfl⟩;cases n with
 |zero=>simp only[abS,(Ab:¬(0:Int)<=((0:Nat):Int)-1)];unfold BS.NG;rw[ha];rfl
 |succ n=>
  have hlt:n<b.A3.length:=Ab;have i1:((n+1:Nat):Int)-1=(n:Int):=Ab;have f:=T6 w.sA (n:Int);rw[H8 hlt] at f;have e:Ax (.Cd 1) [S BC]=some (.sl 1 ([BC].map CK)):=Eu (ws:=[BC]) rfl Be;have vy:Ax (.Cd 1) [S Gz]=some (.sl 1 ([Gz].map CK)):=Eu (ws:=[Gz]) rfl Be;have r2:=eR (ws:=[BC]) DA Be b.A3[n] h1;have g:=eR (ws:=[Gz]) DA Be b.A3[n] h1;rw[ZF hlt,Mq] at ha;simp only[abS,i1,(Ab:(0:Int)<=(n:Int)),f.Ah,e,r2.Ah,vy,g.Ah,DP (Ab: -9223372036854775808<=(n:Int)-1) (Ab:(n:Int)-1<9223372036854775808)];rw[C6];refine⟨λh2=>?_,λh2=>?_⟩;.simp only[h2,uk] at ha;unfold BS.NG;rw[ha];simp only[h2,BB]
  .simp only[h2,OP] at ha;rw[C6];refine⟨λd=>?_,λd=>?_⟩;.rw[d] at ha;unfold BS.NG;rw[ha];simp only[h2,C0,EH]
   .rw[d] at ha;exact A6.next n rfl ⟨Ab,ha,rfl⟩ Ab
def eU(r:Aq×Int):List Aa:=[.str r.1,I r.2]
def XL{z:Nat}{An:List (List Aa)}{args:List Aa}(e:args=An.map Aa.agg)(hz:∀r∈An,r.length=z)(hl:An.length*z<=16777216):Ax (.Cd z) args=some (.sl z An):=by
 subst e;have e1:(An.map Aa.agg).all (λa=>a.cells.length==z)=true:=by simp[Aa.cells];exact hz
 have d:(An.map Aa.agg).map (·.cells)=An:=by rw[List.map_map];exact List.map_id _
 rw[gX,e1,d];simp[hl]
def vI{args:List Aa}(e:args=(It.map eU).map Aa.agg):Ax (.Cd 2) args=some (.sl 2 (It.map eU)):=XL e (λr hr=>by obtain⟨x,_,rfl⟩:=AR.1 hr;rfl) Be
def Ĥ:Cm cx 170 [] h (.sl 2 (It.map eU)) h:=by rw[Ak,i7,qx];simp only[abS,Nat.reduceLeDiff,↓reduceIte,Bt];exact(B1 (λz=>VI z λv=>[v]=[Aa.sl 2 (It.map eU)]) (vI rfl)).mpr (by rw[M5])
def Wa{s:Aq}{i:Item}:BF [s] i=decide (i.AY=1/\i.name=s):=by unfold BF;simp
def nR{i:Item}{k:Nat}:b.Mk i k=match It.find? λr=>BF [r.1] i with
  |some r=>some r.2
  |none=>if BF [Mj] i then some (BS.NG (b.A3.take k)) else if BF [gl,gm] i&&decide (0<k) then some 15 else if BF [BC] i then some (b.tm.getLast?.getD 7) else if BF [TT] i&&decide (0<k) then some 4 else if BF [ET] i then some (if b.head=0 then 3 else 6) else if k=0 then some 7 else none:=by
 unfold BS.Mk;by_cases hs:i.AY=1
 .rw[Ad hs];have e:(λr:Aq×Int=>BF [r.1] i)=λr=>decide (r.1=i.name):=by funext r;rw[Wa,Eb];exact⟨λh=>h.2.symm,λh=>⟨hs,h.symm⟩⟩
  rw[e];cases hf:It.find? λr=>decide (r.1=i.name) with
  |some r=>rfl
  |none=>simp only[BF,hs,PV,Az,List.not_mem_nil,or_false,Bi,Df]
 .rw[Ac hs];have e:(λr:Aq×Int=>BF [r.1] i)=λ_=>false:=by funext r;rw[Wa,Bk (λh=>hs h.1)]
  rw[e];have d:It.find? (λ_=>false)=none:=Be;rw[d];simp only[BF,hs,false_and,FC,C0,EH,Bool.false_and]
def ĥ(w:BX h bi a o c t G b)(rm:Ci b m)(i:Item){k:Nat}(hk:k<=b.A3.length):Cm cx 116 [Pt bi 0,.agg i.row,I (k:Int)] h (.tuple [I ((b.Mk i k).getD 7),.bool (b.Mk i k).isSome]) h:=by
 have ho:=rm.A3;have O:=rm.tm;have gC:Bu 2 (It.map eU) (.sl 2 (It.map eU)):= .mk;have A:=λws hw=>eR (ws:=ws) DA hw i h;rw[nR,Ak,iN,qi];have hlen:It.length=9:=rfl;have N:=gC.GF;rw[hlen] at N;simp only[Ch,↓reduceIte,Ic,Ĥ.Ah,N];refine BL (λn:Nat=>[I 0,ff,I (n:Int)]) (λn h1=>n<=9/\(It.find? λr=>BF [r.1] i)=((It.drop n).find? λr=>BF [r.1] i)/\h1=h) (λn=>9 -n) 0 rfl ⟨A8 _,rfl,rfl⟩ ?_;rintro n h1 ⟨hn,ha,rfl⟩;rcases BH n 9 with hlt|HK
 .have bY:n<It.length:=hlt;have em:Ax (.Cd 1) [.str It[n].1]=some (.sl 1 ([It[n].1].map CK)):=Eu (ws:=[It[n].1]) rfl Au;rw[AE bY,Mq] at ha;simp only[Ch,Nat.reduceLeDiff,↓reduceIte,cN,(Ab:(n:Int)<((9:Nat):Int)),gC.Dl bY,eU,em,(A [It[n].1] Au).Ah,CQ (Ab:n<9223372036854775807)];rw[C6];refine⟨λh2=>?_,λh2=>?_⟩;.rw[h2] at ha;rw[ha];simp
  .rw[h2] at ha;exact A6.next (n+1) rfl ⟨hlt,ha,rfl⟩ Ab
 .have P:n=9:=by omega
  subst P;have ha:(It.find? λr=>BF [r.1] i)=none:=ha;rw[ha];have e1:Ax (.Cd 1) [S aJX]=some (.sl 1 ([Mj].map CK)):=Eu (ws:=[Mj]) rfl Be;have q:Ax (.Cd 1) [S [116,100],S [116,104]]=some (.sl 1 ([gl,gm].map CK)):=Eu (ws:=[gl,gm]) rfl Be;have s:Ax (.Cd 1) [S aJq]=some (.sl 1 ([BC].map CK)):=Eu (ws:=[BC]) rfl Be;have D:Ax (.Cd 1) [S [104,101,97,100]]=some (.sl 1 ([TT].map CK)):=Eu (ws:=[TT]) rfl Be;have H:Ax (.Cd 1) [S aJv]=some (.sl 1 ([ET].map CK)):=Eu (ws:=[ET]) rfl Be;have f:=A [Mj] Be;have d:=A [gl,gm] Be;have g:=A [BC] Be;have u:=A [TT] Be;have z:=A [ET] Be;have rs:=ģ w rm hk;have lt:=(w.t.1.RR (h:=h1));have j:¬((9:Nat):Int)<((9:Nat):Int):=Be;have l6:=w.l6;have xj:b.tm≠[]->∃p,Ax (.int .sub) [I (b.tm.length:Int),I 1]=some (I ((b.tm.length-1:Nat):Int))/\Ax (.F8 1) [t,I ((b.tm.length-1:Nat):Int)]=some p/\BE h1 none p=some (I (b.tm.getLast?.getD 7)):=by intro hne;have hpos:=Fv.2 hne;obtain⟨p,C,B⟩:=lt.at_ (b.tm.length-1) Ab;refine⟨p,M8 hpos Ab,C,?_⟩;rw[B,NW,Ap Ab];rfl
  by_cases g1:BF [Mj] i=true;.rw[g1] at f;simp only[abS,↓reduceIte,j,e1,f.Ah,rs.Ah,g1,Ln,aDp]
  .have g1:BF [Mj] i=false:=by simpa using g1
   rw[g1] at f;by_cases y:0<k
   .have K:¬k=0:=by omega
    have v:¬(k:Int)=0:=Ab;have k3:(0:Int)<(k:Int):=Ab;cases g2:BF [gl,gm] i<;>rw[g2] at d;rotate_left;.simp only[Ch,↓reduceIte,j,e1,f.Ah,q,d.Ah,y,k3,g1,X4]
    cases g3:BF [BC] i<;>rw[g3] at g;rotate_left
    .by_cases ht:b.tm=[];.simp only[Ch,↓reduceIte,j,e1,f.Ah,q,d.Ah,s,g.Ah,y,k3,g1,X4,l6,lt.len,ht,Int.natCast_zero,dn,aE2]
     .obtain⟨p,C,B,J⟩:=xj ht;have HL:¬b.tm.length=0:=λe=>ht (jj.1 e);simp only[Ch,↓reduceIte,j,e1,f.Ah,q,d.Ah,s,g.Ah,y,k3,g1,X4,l6,lt.len,(Ab:(0:Int)<(b.tm.length:Int)),C,B,J]
    cases M:BF [TT] i<;>rw[M] at u;rotate_left;.simp only[Ch,↓reduceIte,j,e1,f.Ah,q,d.Ah,s,g.Ah,D,u.Ah,y,k3,g1,X4]
    all_goals cases L:BF [ET] i<;>rw[L] at z
    all_goals first
     |simp only[Ch,↓reduceIte,j,e1,f.Ah,q,d.Ah,s,g.Ah,D,u.Ah,H,z.Ah,y,K,v,k3,g1,X4];done
     |by_cases E:b.head=0
      .simp only[Ch,↓reduceIte,j,e1,f.Ah,q,d.Ah,s,g.Ah,D,u.Ah,H,z.Ah,y,v,k3,g1,X4,w.l7,E]
      .simp only[Ch,↓reduceIte,j,e1,f.Ah,q,d.Ah,s,g.Ah,D,u.Ah,H,z.Ah,y,v,k3,g1,X4,w.l7,E]
   .have K:k=0:=by omega
    subst K;have k3:¬(0:Int)<((0:Nat):Int):=Be;have v:((0:Nat):Int)=0:=rfl;by_cases g3:BF [BC] i=true
    .rw[g3] at g;cases g2:BF [gl,gm] i<;>rw[g2] at d<;>by_cases ht:b.tm=[];all_goals first
      |simp only[Ch,↓reduceIte,j,e1,f.Ah,q,d.Ah,s,g.Ah,v,g1,g3,X4,l6,lt.len,ht,dn,aE2,CL];done
      |obtain⟨p,C,B,J⟩:=xj ht
       have HL:¬b.tm.length=0:=λe=>ht (jj.1 e);simp only[Ch,↓reduceIte,j,e1,f.Ah,q,d.Ah,s,g.Ah,v,g1,g3,X4,l6,lt.len,(Ab:(0:Int)<(b.tm.length:Int)),C,B,J,CL]
    .have g3:BF [BC] i=false:=by simpa using g3
     rw[g3] at g;cases g2:BF [gl,gm] i<;>rw[g2] at d<;>cases M:BF [TT] i<;>rw[M] at u<;>cases L:BF [ET] i<;>rw[L] at z<;>by_cases E:b.head=0;all_goals simp only[Ch,↓reduceIte,j,e1,f.Ah,q,d.Ah,s,g.Ah,D,u.Ah,H,z.Ah,v,g1,g3,X4,w.l7,E,CL]
end
section
variable{h h':Ag}{bi a:Nat}{o c t:Aa}{G G' F:Nat->Prop}{b:BS}{x:Int}{m:Nat}
variable{nm:Aq}{av:Aa}{l:List AS}{r:List Aa}{sp p:Int}
def BX.Ħ(w:BX h bi a o c t G b):BE h (some 4) (Pt bi 10)=some (.agg b.ctx.row):=by simp only[BE,w.hb];rfl
def BX.tj(w:BX h bi a o c t G b)(v:Int):BX (Am.put h bi 4 (I v)) bi a o c t G {b with mode:=v}:=w.put rfl rfl w.o w.t
def Ci.mode{v:Int}(rm:Ci b m):Ci {b with mode:=v} m:=⟨rm.n,rm.at_,rm.data,rm.A3,rm.Bb,rm.tm,rm.C3,rm.Zr⟩
def cq(w:BX h bi a o c t G b)(rm:Ci b m):
  ∃h',Cm cx 67 [Pt bi 0] h (.tuple []) h'/\BX h' bi a o c t G b.Ks/\ED h (Bn bi G) h' (Bn bi G):=by
 have ho:=rm.A3;have Oq:Ev cx 67 [Pt bi 0] h λr h'=>r= .tuple []/\BX h' bi a o c t G b.Ks/\ED h (Bn bi G) h' (Bn bi G):=by
  unfold Ev;have w1:=w.tj 7;rw[tS,t67];simp only[abS,(GV w).Ah,w.st (k:=4) (v:=I 7) rfl rfl,(f104 w1.sA).Ah,DP (Ab: -9223372036854775808<=(b.A3.length:Int)-1) (Ab:(b.A3.length:Int)-1<9223372036854775808)];refine BL (λn:Nat=>[I ((n:Int)-1)]) (λn h1=>n<=b.A3.length/\b.Qx b.A3.length=b.Qx n/\h1=Am.put h bi 4 (I 7)) (λn=>n) b.A3.length rfl ⟨Af _,rfl,rfl⟩ ?_;rintro n h1 ⟨hn,ha,rfl⟩;cases n with
  |zero=>
   have e:b.Ks={b with mode:=7}:=by unfold BS.Ks;rw[ha];rfl
   simp only[abS,(Ab:¬(0:Int)<=((0:Nat):Int)-1)];exact⟨_,rfl,rfl,by rw[e];exact w1,B2⟩
  |succ n=>
   have hlt:n<b.A3.length:=Ab;have i1:((n+1:Nat):Int)-1=(n:Int):=Ab;have g:=T6 w1.sA (n:Int);rw[show Ir ({b with mode:=7}:BS).A3 (n:Int)=b.A3[n] from H8 hlt] at g;have r2:∀i:Item,Cm cx 116 [Pt bi 0,.agg i.row,I (n:Int)] (Am.put h bi 4 (I 7)) (.tuple [I ((b.Mk i n).getD 7),.bool (b.Mk i n).isSome]) (Am.put h bi 4 (I 7)):=λi=>ĥ w1 rm.mode i (k:=n) GU;have d:=r2 (b.FL n);have Hz:∀v,Cx (Am.put h bi 4 (I 7)) 1 (Pt bi 4) (I v)=some (Am.put (Am.put h bi 4 (I 7)) bi 4 (I v)):=λv=>w1.st (k:=4) rfl rfl;have e:b.Qx (n+1)=match b.Mk (b.FL n) n with|some m=>m|none=>b.Qx n:=rfl
   rw[e] at ha;have X5:=w1.l9;have hlc:=w1.Ħ;have S6:=DP (Ab: -9223372036854775808<=(n:Int)-1) (Ab:(n:Int)-1<9223372036854775808);cases hm:b.Mk (b.FL n) n with
   |none=>
    rw[hm] at d ha;by_cases h0:n=0
    .have lN:((n:Int)=0)=True:=C1 Ab;cases hf:b.Nj with
     |true=>
      have f:b.FL n=b.ctx:=by unfold BS.FL;rw[Ad ⟨h0,hf⟩]
      rw[f] at d;rw[show({b with mode:=7}:BS).Nj=true from hf] at X5;simp only[Ch,Ic,i1,g.Ah,X5,hlc,d.Ah,Hz,X4,(Ab:(0:Int)<=(n:Int)),lN,S6];exact A6.next n rfl ⟨Ab,ha,rfl⟩ Ab
     |false=>
      have f:b.FL n=b.A3[n]:=by unfold BS.FL;rw[Ac (by simp[hf]),AG,Ap hlt];rfl
      rw[f] at d;rw[show({b with mode:=7}:BS).Nj=false from hf] at X5;simp only[Ch,Ic,i1,g.Ah,X5,hlc,d.Ah,Hz,X4,(Ab:(0:Int)<=(n:Int)),lN,S6];exact A6.next n rfl ⟨Ab,ha,rfl⟩ Ab
    .have f:b.FL n=b.A3[n]:=by unfold BS.FL;rw[Ac (by simp[h0]),AG,Ap hlt];rfl
     rw[f] at d;have lN:¬(n:Int)=0:=Ab;simp only[Ch,Ic,i1,g.Ah,d.Ah,Hz,X4,(Ab:(0:Int)<=(n:Int)),lN,S6];exact A6.next n rfl ⟨Ab,ha,rfl⟩ Ab
   |some v=>
    rw[hm] at d ha;have e:b.Ks={b with mode:=v}:=by unfold BS.Ks;rw[ha]
    have j:BX (Am.put (Am.put h bi 4 (I 7)) bi 4 (I v)) bi a o c t G b.Ks:=by rw[e];exact w1.tj v
    by_cases h0:n=0
    .have lN:((n:Int)=0)=True:=C1 Ab;cases hf:b.Nj with
     |true=>
      have f:b.FL n=b.ctx:=by unfold BS.FL;rw[Ad ⟨h0,hf⟩]
      rw[f] at d;rw[show({b with mode:=7}:BS).Nj=true from hf] at X5;simp only[Ch,Ic,i1,g.Ah,X5,hlc,d.Ah,Hz,X4,(Ab:(0:Int)<=(n:Int)),lN];exact⟨_,rfl,rfl,j,B2.trans B2⟩
     |false=>
      have f:b.FL n=b.A3[n]:=by unfold BS.FL;rw[Ac (by simp[hf]),AG,Ap hlt];rfl
      rw[f] at d;rw[show({b with mode:=7}:BS).Nj=false from hf] at X5;simp only[Ch,Ic,i1,g.Ah,X5,hlc,d.Ah,Hz,X4,(Ab:(0:Int)<=(n:Int)),lN];exact⟨_,rfl,rfl,j,B2.trans B2⟩
    .have f:b.FL n=b.A3[n]:=by unfold BS.FL;rw[Ac (by simp[h0]),AG,Ap hlt];rfl
     rw[f] at d;have lN:¬(n:Int)=0:=Ab;simp only[Ch,Ic,i1,g.Ah,d.Ah,Hz,X4,(Ab:(0:Int)<=(n:Int)),lN];exact⟨_,rfl,rfl,j,B2.trans B2⟩
 obtain⟨r,h',hr,rfl,w',x'⟩:=Oq.ret;exact⟨h',hr,w',x'⟩
def nS{h0 u:Ag}{V:Aa}{L:List AS}{N:Nat}(j:N=h0.length)(g:Hl (h0++u) V L)(i:Up N V)(hb:L.length<=1000000000)(y:AS):
  ∃f d,hgrow (h0++u) 3 40 V (.sl 3 [y.row])=some (h0++f,d)/\Hl (h0++f) d (L++[y])/\Up N d:=by
 subst j;have wE:AO=140737488355328:=rfl;rcases g with⟨rfl,rfl⟩|⟨id,rfl,hc,hl⟩
 .refine⟨u++[.cells (([y]:List AS).map AS.row).flatten],.CG (h0++u).length 0 1 3,by rw[<-AI];rfl,.inr ⟨(h0++u).length,rfl,Au,Au⟩,λid k e=>by injection e with e;rw[<-e,Ao];omega⟩
 .have Hm:h0.length<=id:=i id _ rfl;have hg:=TB (b:=40) (An:=L.map AS.row) (r2:=[y.row]) (v:= .sl 3 [y.row]) (sx L) Be hc .mk Au (by rw[Aw];simp;omega);rw[Aw] at hg;have e:(h0++u).set id .Ec++[.cells (L.map AS.row++[y.row]).flatten]=h0++(u.set (id-h0.length) .Ec++[.cells ((L++[y]).map AS.row).flatten]):=by rw[CO _ _ Hm,AI,B3];rfl
  rw[e] at hg;have Z8:(h0++(u.set (id-h0.length) FF.Ec++[.cells ((L++[y]).map AS.row).flatten]))=(h0++u.set (id-h0.length) FF.Ec)++[.cells ((L++[y]).map AS.row).flatten]:=by rw[AI]
  have X3:(h0++u.set (id-h0.length) FF.Ec).length=(h0++u).length:=Au;refine⟨_,_,hg,.inr ⟨(h0++u).length,Au,?_,?_⟩,λid k e=>by injection e with e;rw[<-e,Ao];omega⟩;.rw[Z8,<-X3,BG (Af _),FD];rfl
  .rw[Z8];simp only[Ao,Bz,AH,Bd];omega
def ħ(y c:AS)(h:Ag):Cm cx 118 [.agg c.row,.Cb y.row] h (.bool (decide (Ew ⟨0,y.name,y.value⟩=Ew c))) h:=by
 rw[Ak,zJ,Ã,AS.row,AS.row];simp only[Ch];refine⟨λh1=>?_,λh1=>?_⟩;.congr 2;rw[Eb];simp[Ew,h1];exact uo
 .rw[Bk (λe=>h1 (by simp[Ew] at e;exact e.1.symm))]
def AS.nT{y:AS}:(⟨0,y.name,y.value⟩:AS).row=[I 0,.str y.name,.str y.value]:=rfl
def QF(k:Int×Aq):∀{l out:List AS},(FW out l).any (λz=>decide (k=Ew z))=(out++l).any λz=>decide (k=Ew z)
 |[],out=>by simp[FW]
 |y::l,out=>by
  rw[FW];split
  .rename_i h;rw[QF k,List.any_append,List.any_append,List.any_cons];by_cases hk:k=Ew y;.subst hk;rw[h];rfl
   .simp[hk]
  .rw[QF k,AI];rfl
def vJ(k:Int×Aq)(l:List AS):(CI l).any (λz=>decide (k=Ew z))=l.any λz=>decide (k=Ew z):=QF k
def QG{l:List AS}{y:AS}:CI (l++[y])=if(CI l).any (λz=>decide (Ew y=Ew z)) then CI l else CI l++[y]:=Ub
def aCy(w:BX h bi a o c t G b)(ok:Eg b)(rm:Ci b (m+1000))(hr:UX nm av r)(hv:Cl l av)(hl:E6 l)(x:Int):
  ∃h' G',Cm cx 68 [Pt bi 0,.agg r,I x] h (.tuple []) h'/\BX h' bi a o c t G' (b.JN l x)/\ED h (Bn bi G) h' (Bn bi G'):=by
 obtain⟨K1,V1,d,B,_,_⟩:=RT w ok rm x;have w1:=w.J5 (u:=d);obtain⟨W,c2,U,T,S,Q,P,O,X2,gR,rfl⟩:=hr;have v:ED h (Bn bi G) (h++d) (Bn bi G):=w.Dt;by_cases hk:(b.a.nd x).kind=4;rotate_left;.refine⟨h++d,G,?_,by unfold BS.JN;rw[Ac hk];exact w1,v⟩;rw[Ak,tT,t68];simp only[abS,↓reduceIte,(GV w).Ah,B.Ah,CF,hk]
 obtain⟨K2,X,A,r2,_,f,g⟩:=RT w1 ok rm x;have w2:=w1.J5 (u:=A);have x2:ED h (Bn bi G) (h++d++A) (Bn bi G):=v.trans w1.Dt;have hx:b.a.has x:=by
  by_cases hp:b.a.has x;.exact hp
  .rw[Km hp] at hk;simp at hk
 have XZ:=rm.at_ x;have Z4:=hl.1;have Oq:Ev cx 68 [Pt bi 0,.agg [W,.str nm,c2,U,T,S,Q,P,av,O,X2,gR],I x] h λr h'=>r= .tuple []/\∃G',BX h' bi a o c t G' (b.JN l x)/\ED h (Bn bi G) h' (Bn bi G'):=by
  unfold Ev;rw[tT,t68];have hvl:=Bu.GF hv;simp only[abS,↓reduceIte,(GV w).Ah,B.Ah,r2.Ah,CF,hk,hvl];refine BL (λs:Aa×Nat=>[s.1,I (s.2:Int)]) (λs h1=>∃u L,h1=h++d++u/\s.2<=l.length/\Hl h1 s.1 L/\Up (h++d).length s.1/\CI L=CI ((b.a.nd x).AB++BS.plain (l.take s.2))/\(∀y∈L,BS.JC y.AY)/\L.length<=(b.a.nd x).AB.length+s.2) (λs=>l.length-s.2) (X,0) rfl ⟨A,(b.a.nd x).AB,rfl,A8 _,f,g,?_,?_,Au⟩ ?_;.simp[BS.plain]
  .exact λy hy=>(ok.ok.Qv x hx).yO y hy
  rintro⟨V,n⟩ h1 ⟨u,L,rfl,hn,f,g,j,hs,DG⟩;simp only at hn f g j DG;rcases BH n l.length with hlt|HK
  .have E:=Bu.Dl (k:= .i64) hv hlt;rw[AS.row] at E;have i:=iv f.in_ Ab (F:= .func (.func 118) [] [.Cb l[n].row]) (q:=λc=>decide (Ew ⟨0,l[n].name,l[n].value⟩=Ew c)) ⟨_,_,rfl,Be,λc=>ħ l[n] c _⟩;rw[AS.row] at i;obtain⟨M,Y,g1,g2,g3⟩:=nS (N:=(h++d).length) rfl f g Ab ⟨0,l[n].name,l[n].value⟩;rw[AS.nT] at g1;have em:Ax (.Cd 3) [.agg [I 0,.str l[n].name,.str l[n].value]]=some (.sl 3 [[I 0,.str l[n].name,.str l[n].value]]):=rfl;have e1:CI ((b.a.nd x).AB++BS.plain (l.take (n+1)))=CI (L++[⟨0,l[n].name,l[n].value⟩]):=by rw[AL hlt,BS.plain,B3,<-AI,aDs,QG,QG,j];rfl
   have D:CI (L++[⟨0,l[n].name,l[n].value⟩])=if L.any (λz=>decide (Ew ⟨0,l[n].name,l[n].value⟩=Ew z)) then CI L else CI L++[⟨0,l[n].name,l[n].value⟩]:=by rw[QG,vJ]
   simp only[abS,Nat.reduceLeDiff,↓reduceIte,Bt,(Ab:(n:Int)<(l.length:Int)),E,i.Ah,em,g1,CQ (Ab:n<9223372036854775807)];rw[C6];refine⟨λh2=>?_,λh2=>?_⟩
   .refine A6.next (Y,n+1) rfl ⟨M,_,rfl,hlt,g2,g3,e1.symm,?_,D5⟩ GU;intro y hy;rcases Al.1 hy with hy|hy
    .exact hs y hy
    .simp at hy;subst hy;exact⟨GU,GU⟩
   .have h2:(L.any λz=>decide (Ew ⟨0,l[n].name,l[n].value⟩=Ew z))=true:=by simpa using h2
    rw[Ad h2] at D;exact A6.next (V,n+1) rfl ⟨u,L,rfl,hlt,f,g,by rw[e1,D],hs,GU⟩ GU
  .have NQ:n=l.length:=by omega
   subst NQ;rw[BZ] at j;simp only[abS,↓reduceIte,(Ab:¬(l.length:Int)<(l.length:Int)),(w1.J5 (u:=u)).l0];obtain⟨C,Z,i,K,H⟩:=(w1.J5 (u:=u)).step (A':=b.a.Kq x L) (R:=λC=>Cm cx 119 [Pt a 0,I x,V] (h++d++u) (I 0) C) λn m ps J=>by obtain⟨h',KD,f1,f2,f3⟩:=ý J rm.TZ hx hk f.in_ Ab hs;exact⟨h',n,m,KD,f1,f2,f3⟩
   have e:b.JN l x={b with a:=b.a.Kq x L}:=by unfold BS.JN;rw[Ad hk];unfold Ar.Kq;rw[j]
   simp only[Ch,i.Ah];refine⟨_,rfl,rfl,Z,?_,?_⟩;.rw[e];exact K
   .exact(v.trans w1.Dt).trans H
 obtain⟨r,h',hr,rfl,G',w',x'⟩:=Oq.ret;exact⟨h',G',hr,w',x'⟩
end
section
variable{h h':Ag}{bi a:Nat}{o c t:Aa}{G G' F:Nat->Prop}{b b':BS}{x:Int}{m:Nat}
variable{nm:Aq}{av:Aa}{l:List AS}{r:List Aa}{sp p:Int}
def Ci.sub(rm:Ci b m)(ha:b'.a=b.a)(ho:b'.A3.Sublist b.A3)(hc:b'.Bb.Sublist b.Bb)(ht:b'.tm.length<=b.tm.length):Ci b' m:=
 ⟨by rw[ha];exact rm.n,by rw[ha];exact rm.at_,by rw[ha];exact rm.data,by have:=rm.A3;have:=ho.length_le;omega,by have:=rm.Bb;have:=hc.length_le;omega,by have:=rm.tm;omega,λe he=>rm.C3 e (hc.subset he),λi hi=>rm.Zr i (ho.subset hi)⟩
def aCz{v:Aa}{l:List Int}(hv:RS l v)(hb:l.length<=1000000000)(h:Ag):∃u,Cm cx 26 [v] h u h/\UW l u:=by
 have hm:AO=140737488355328:=rfl;have e0:Ax (.EV 1) []=some (.EV 1):=rfl;rcases hv with hv|⟨rfl,rfl⟩
 .have Gv:Bu 1 (l.map Eo) v:=hv;rcases Gv with rfl|⟨rfl,h0⟩
  .cases l with
   |nil=>refine⟨.EV 1,?_,.inr ⟨rfl,rfl⟩,nofun⟩;rw[Ak,Xu,W_];simp only[Ch,De,show Ax (.FN false .sl) [.sl 1 [],.slnil]=some (.bool false) from rfl,e0,show Ax (.append 1 8) [.EV 1,.sl 1 []]=some (.EV 1) from rfl]
   |cons x l=>
    have O0:((x::l).map Eo).length*8<=AO:=by rw[Aw];omega
    have e1:Ax (.append 1 8) [.EV 1,.sl 1 ((x::l).map Eo)]=some (.sl 1 ((x::l).map Eo)):=by simp only[AZ] at O0⊢;simp only[Ax,Gf,BB,CP];rw[Ad ⟨trivial,O0⟩]
    refine⟨_,?_,.inl .mk,λe=>by injection e with _ e;simp at e⟩;rw[Ak,Xu,W_];simp only[Ch,show Ax (.FN false .sl) [.sl 1 ((x::l).map Eo),.slnil]=some (.bool false) from rfl,e0,e1]
  .refine⟨.slnil,?_,.inl (.inr ⟨rfl,h0⟩),nofun⟩;rw[Ak,Xu,W_];simp only[Ch,show Ax (.FN false .sl) [.slnil,.slnil]=some (.bool true) from rfl]
 .refine⟨.EV 1,?_,.inr ⟨rfl,rfl⟩,nofun⟩;rw[Ak,Xu,W_];simp only[Ch,show Ax (.FN false .sl) [.EV 1,.slnil]=some (.bool false) from rfl,e0,show Ax (.append 1 8) [.EV 1,.EV 1]=some (.EV 1) from rfl]
def BX.tk{u:Aa}{l:List Int}(w:BX h bi a o c t G b)(hu:UW l u):BX (Am.put h bi 6 u) bi a o c u G {b with tm:=l}:=w.put rfl rfl w.o hu
def vK:Ax (.Cd 1) [S aJq]=some (.sl 1 ([BC].map CK)):=Eu (ws:=[BC]) rfl Be
def aCA(w:BX h bi a o c t G b)(hc:C9 b.Bb c)(rm:Ci b m):
  ∃h' o' c' t',Cm cx 69 [Pt bi 0] h (.tuple []) h'/\BX h' bi a o' c' t' G b.En/\C9 b.En.Bb c'/\ED h (Bn bi G) h' (Bn bi G):=by
 have ho:=rm.A3;have dQ:=rm.Bb;have P:=rm.tm;have A:=f144 w.sA Ab BC;by_cases If:AM (BF [BC]) b.A3<0;.refine⟨h,o,c,t,?_,by unfold BS.En;rw[Ad If];exact w,by unfold BS.En;rw[Ad If];exact hc,.refl⟩;rw[Ak,dX,Ŝ];simp only[abS,(GV w).Ah,A.Ah,If]
 obtain⟨y,r2,Wy⟩:=f145 w.sO Ab;have w1:=w.Nn Wy;have l1:(EP Du DZ b.A3).length<=b.A3.length:=Xj;obtain⟨f,J,Ow⟩:=f66 w1.sO GU (DA (ws:=[BC])) Be;have E:=w1.Nn Ow;obtain⟨fs,Ly,hcs⟩:=hc;have HB:fs.length=b.Bb.length:=by rw[<-Ly,Aw]
 obtain⟨d,H,C⟩:=f65 (show Qt _ bi 3 fs from⟨c,E.u0,hcs⟩) Ab;have j:=E.QE (u:=d) (l:=HT b.Bb);have VD:C9 (HT b.Bb) d:=⟨_,by rw[jY,Ly],C⟩;have lt:=w.t.1.len;have l6:=j.l6;have e:b.En=BS.Ks {b with A3:=EP DZ (BF [BC]) (EP Du DZ b.A3),Bb:=HT b.Bb,tm:=b.tm.dropLast}:=by unfold BS.En;rw[Ac If]
 have sO:(EP DZ (BF [BC]) (EP Du DZ b.A3)).Sublist b.A3:=(EG (p:=DZ) (q:=BF [BC]) (l:=EP Du DZ b.A3)).trans EG;have D:ED h (Bn bi G) (put (put (put h bi 2 y) bi 2 f) bi 3 d) (Bn bi G):=(B2.trans B2).trans B2;by_cases h0:b.tm=[]
 .have v:BX (put (put (put h bi 2 y) bi 2 f) bi 3 d) bi a f d t G {b with A3:=EP DZ (BF [BC]) (EP Du DZ b.A3),Bb:=HT b.Bb,tm:=b.tm.dropLast}:=by
   have:b.tm.dropLast=b.tm:=by rw[h0];rfl
   rw[this];exact j
  obtain⟨R,z,s,L⟩:=cq v (rm.sub (b':={b with A3:=EP DZ (BF [BC]) (EP Du DZ b.A3),Bb:=HT b.Bb,tm:=b.tm.dropLast}) rfl sO (Es _ _) Au);refine⟨R,f,d,t,?_,by rw[e];exact s,by rw[e];exact VD,D.trans L⟩;have B:Ax (.len false) [t]=some (I 0):=by rw[lt,h0];rfl
  rw[Ak,dX,Ŝ];simp only[abS,(GV w).Ah,A.Ah,If,r2.Ah,vK,J.Ah,H.Ah,l6,B,z.Ah,X4]
 .have hpos:=Fv.2 h0;obtain⟨T,S,i⟩:=Bu.Ro (w.t.1.ne h0) (k:= .i64) (n:=b.tm.length-1) Ab;rw[<-List.dropLast_eq_take] at i;obtain⟨N,z,g⟩:=aCz (.inl i) D5 (put (put (put h bi 2 y) bi 2 f) bi 3 d);have s:=j.tk g;obtain⟨Q,O,M,K⟩:=cq s (rm.sub (b':={b with A3:=EP DZ (BF [BC]) (EP Du DZ b.A3),Bb:=HT b.Bb,tm:=b.tm.dropLast}) rfl sO (Es _ _) Au);refine⟨Q,f,d,N,?_,by rw[e];exact M,by rw[e];exact VD,(D.trans B2).trans K⟩;rw[Ak,dX,Ŝ];simp only[abS,(GV w).Ah,A.Ah,If,r2.Ah,vK,J.Ah,H.Ah,l6,lt,(Ab:(0:Int)<(b.tm.length:Int)),M8 hpos (Ab:b.tm.length<9223372036854775807),S,z.Ah,j.st (k:=6) (v0:=t) rfl g.1.cells,O.Ah,X4]
def aCC(w:BX h bi a o c t G b):∃h',Cm cx 70 [Pt bi 0] h (.tuple []) h'/\BX h' bi a o c t G {b with stop:=true}/\ED h (Bn bi G) h' (Bn bi G):=by refine⟨_,?_,w.put (k:=19) (v:= .bool true) rfl rfl w.o w.t,B2⟩;rw[Ak,pz,t70];simp only[Ch,(GV w).Ah,w.st (k:=19) (v:=tt) rfl rfl]
def Ĩ(w:BX h bi a o c t G b)(rm:Ci b m):∃h' o',Cm cx 73 [Pt bi 2] h (.agg b.sL.row) h'/\BX h' bi a o' c t G b.Xp/\ED h (Bn bi G) h' (Bn bi G):=by
 have ho:=rm.A3;have ld:BE h none (Pt bi 2)=some o:=w.ld 2;have lo:=Bu.GF w.o;unfold BS.Xp BS.sL;by_cases h2:b.A3.length<2;.refine⟨h,o,?_,by rw[Ad h2];exact w,.refl⟩;rw[Ad h2,Ak,dY,ŝ];simp only[abS,↓reduceIte,Bt,(f104 w.sA).Ah,(Ab:(b.A3.length:Int)<2)];rfl
 .obtain⟨u,e,hu⟩:=Bu.Ro w.o (k:= .i64) (n:=b.A3.length-1) Ab;refine⟨_,u,?_,by rw[Ac h2];exact w.Nn hu,B2⟩;rw[Ac h2,Ak,dY,ŝ];simp only[abS,↓reduceIte,Bt,Ic,(f104 w.sA).Ah,(Ab:¬(b.A3.length:Int)<2),(f39 w.sA Ab).Ah,ld,lo,M8 (Ab:0<b.A3.length) (Ab:b.A3.length<9223372036854775807),e,w.st (k:=2) (v0:=o) rfl (Bu.cells hu)]
end
def PI{U:Type}(enc:U->List Aa)(Db:U->Ag->Prop)(Z:U->Nat)(i:Nat)(II:U->Ag->Prop)(s:U):IA:=
 λx vs h1=>(x= .normal/\∃s',vs=enc s'/\Db s' h1/\Z s'<Z s)\/(x= .exit i/\∃s',vs=enc s'/\II s' h1)
def PI.next{U:Type}{enc:U->List Aa}{Db II:U->Ag->Prop}{Z:U->Nat}{i:Nat}{s:U}{vs:List Aa}{h:Ag}(s':U)(e:vs=enc s')(hi:Db s' h)(hl:Z s'<Z s):PI enc Db Z i II s .normal vs h:= .inl ⟨rfl,s',e,hi,hl⟩
def PI.II{U:Type}{enc:U->List Aa}{Db II:U->Ag->Prop}{Z:U->Nat}{i:Nat}{s:U}{vs:List Aa}{h:Ag}(s':U)(e:vs=enc s')(hi:II s' h):PI enc Db Z i II s (.exit i) vs h:= .inr ⟨rfl,s',e,hi⟩
def Mn{C:E7}{Q:IA}{h:Ag}{U:Type}{key i:Nat}{init:List Aa}{body:List Aa->IT}{k:EW->List Aa->IT}(enc:U->List Aa)(Db:U->Ag->Prop)(Z:U->Nat)(II:U->Ag->Prop)(s0:U)(h0:init=enc s0)(hi:Db s0 h)
  (round:∀s h,Db s h->W C (body (enc s)) (PI enc Db Z i II s) h) (hk:∀s h,II s h->W C (k (.exit i) (enc s)) Q h):W C (.loop key init body k) Q h:=by
 refine BL enc Db Z s0 h0 hi λs h hs=>W.mono (round s h hs) ?_;rintro x vs h1 (hn|⟨rfl,s',rfl,hf⟩);.exact .inl hn
 .exact .inr ⟨Au,hk s' h1 hf⟩
def nU{h:Ag}{id z:Nat}{An:List (List Aa)}(hr:∀r∈An,r.length=z)(hc:h[id]?=some (.cells An.flatten)){i:Nat}(hi:i<An.length):BE h (some z) (Pt id (i*z))=some (.agg An[i]):=by
 have hl:i*z+z<=An.flatten.length:=by rw[Gk hr];have:=Dn z (Ab:i+1<=An.length);rwa [Bg,DI] at this
 simp only[BE,hc,KV];rw[Ad hl,He hr,AE hi,Cs,CY (by rw[hr _ (AX hi)];exact Af _),AT (by rw[hr _ (AX hi)];exact Af _)]
section
variable{h h':Ag}{bi a:Nat}{o c t:Aa}{G G' F:Nat->Prop}{b b':BS}{x:Int}{m:Nat}
variable{nm:Aq}{av:Aa}{l:List AS}{r:List Aa}{sp p:Int}
def vL(e:CJ)(h:Ag):∃r,Cm cx 111 [.agg e.row] h (.agg r) h/\UX e.c.name e.v r:=by have hv:e.v.cells=[e.v]:=Bu.cells e.ok;refine⟨_,?_,I 2,ff,S [],ff,S [],ff,ff,ff,S [],.int .i32 0,rfl⟩;rw[Ak,zG,Á,CJ.row];simp only[abS,Nat.reduceLeDiff,↓reduceIte,Bt,hv]
def Wb:∀{l:List Cp} {b:BS} {m:Nat},Ci b (m+4*l.length)->(∀e∈l,e.name.length<=1000/\E6 e.AB)->Ci (BS.KJ l b).2 m
 |[],b,m,r,_=>by simpa[BS.KJ] using r
 |e::l,b,m,r,hl=>by have h1:=hl e Au;rw[BS.KJ];exact Wb (LP (m:=m+4*l.length) (r.le D5) h1.2 h1.1) λx hx=>hl x (by simp[hx])
def XM:b.ME<=b.Bb.length:=by unfold BS.ME;rcases Ds (q:=b.settled) (l:=b.Bb) with⟨h,_⟩|⟨n,h1,h2,_⟩<;>omega
structure XN(h:Ag)(bi a:Nat)(t:Aa)(G0:Nat->Prop)(b:BS)(fs:List CJ)(id m k:Nat)(h1:Ag):Prop where
 le:k<=fs.length
 low:b.ME<=k
 ex:∃(o:Aa) (G:Nat->Prop) (b1:BS) (Ut:List CJ),BX h1 bi a o (.CG id 0 fs.length 3) t G b1/\Eg b1/\Ci b1 (m+4*(fs.length-k))/\h1[id]?=some (.cells (Ut.map CJ.row).flatten)/\Ut.length=fs.length/\Ut.drop k=fs.drop k/\
  BS.Ex b={(BS.KJ (b.Bb.drop k) b1).2 with Bb:=(Ut.take k).map (·.c)++(BS.KJ (b.Bb.drop k) b1).1}/\¬Bn bi G id/\ED h (Bn bi G0) h1 (Bn bi G)
def BX.XO(w:BX h bi a o c t G {b with Bb:=b.Bb}):BX h bi a o c t G b:=w
def Uh{h1:Ag}{id:Nat}{v v':Aa}(ha:At h id 3 v)(hf:La h v=some (h1,v'))(he:h1[id]?=h[id]?):Kb h 3 (Pt id 0)=some (Am.put h1 id 3 v'):=by obtain⟨cs,hc,e⟩:=ha;rw[hc] at he;unfold Kb;simp only[hc,Bm,e,hf,BU,he];rw[Hr he]
def cr{v:Aa}{l:List CJ}(hv:Ef l v):La h v=some (h,v):=by rcases hv with rfl|⟨rfl,_⟩<;>rfl
def ĩ{v:Aa}(hv:Ef [] v)(h:Ag):∃u,Cm cx 110 [v] h u h/\Ef [] u:=by
 have d:=Y5 (h:=h) (s:= .sl 3 []) (b:=48) (.inr rfl) hv;rcases hv with rfl|⟨rfl,h0⟩
 .refine⟨.sl 3 [],?_,.mk⟩;rw[Ak,Xw,zF];simp only[De] at d;simp only[Ch,De,show Ax (.FN false .sl) [.sl 3 [],.slnil]=some (.bool false) from rfl,show Ax (.Cd 3) []=some (.sl 3 []) from rfl,d]
 .refine⟨.slnil,?_,.inr ⟨rfl,rfl⟩⟩;rw[Ak,Xw,zF];simp only[Ch,show Ax (.FN false .sl) [.slnil,.slnil]=some (.bool true) from rfl]
def XN.init(w:BX h bi a o c t G b)(ok:Eg b)(rm:Ci b (m+4*b.Bb.length)){fs:List CJ}(Ly:fs.map (·.c)=b.Bb):
  XN h bi a t G b fs h.length m b.ME (Am.put (h++[.cells (fs.map CJ.row).flatten]) bi 3 (.CG h.length 0 fs.length 3)):=by
 have HB:b.Bb.length=fs.length:=by rw[<-Ly,Aw]
 have hk:=XM (b:=b);have hne:h.length≠bi:=Nat.ne_of_gt w.lt;refine⟨Ab,Af _,o,G,b,fs,((w.J5 (u:=[.cells (fs.map CJ.row).flatten])).QE (l:=b.Bb)).XO,ok,rm.le Ab,?_,rfl,rfl,?_,?_,w.Dt.trans B2⟩;.rw[Cz hne];simp
 .unfold BS.Ex;simp only;rw[HO,Ly]
 .rintro(rfl|hg);.exact hne rfl
  .exact absurd (w.w.lt hg) (CL _)
def XN.step{fs:List CJ}{id k:Nat}{h1:Ag}(Ly:fs.map (·.c)=b.Bb)(OH:∀e∈b.Bb,e.name.length<=1000/\E6 e.AB)(hi:h.length<=id)(hlt:k<fs.length)(i:XN h bi a t G b fs id m k h1):
  ∃(r:List Aa) (h2:Ag) (n:Int),BE h1 none (Pt bi 3)=some (.CG id 0 fs.length 3)/\BE h1 (some 3) (Pt id (k*3))=some (.agg fs[k].row)/\Cm cx 111 [.agg fs[k].row] h1 (.agg r) h1/\Cm cx 19 [Pt bi 0,.agg r] h1 (I n) h2/\BE h2 none (Pt bi 3)=some (.CG id 0 fs.length 3)/\
   Cx h2 1 (Pt id (k*3)) (I n)=some (Am.put h2 id (k*3) (I n))/\XN h bi a t G b fs id m (k+1) (Am.put h2 id (k*3) (I n)):=by
 obtain⟨C,D,b1,Ut,w1,o8,vz,UC,Z7,ot,g,P1,f⟩:=i.ex;have nV:k<Ut.length:=Ab;have HB:b.Bb.length=fs.length:=by rw[<-Ly,Aw]
 have Ī:k<b.Bb.length:=Ab;have e1:Ut[k]=fs[k]:=by have:=B1 (λl=>l[0]?) ot;simp only[Cc,A9] at this;rw[Ap nV,Ap hlt] at this;exact Da this
 have w:b.Bb[k]=fs[k].c:=by simp only[<-Ly,Hb]
 have mb:=nU (Xm Ut) UC (i:=k) (by simpa using nV);rw[Hb,e1] at mb;have OH:=OH fs[k].c (by rw[<-w];exact AX Ī);obtain⟨r,z,hr⟩:=vL fs[k] h1;obtain⟨h2,A,y,r2,u,d⟩:=cj (m:=m+4*(fs.length-(k+1))) w1 o8.ba (vz.le Ab) hr fs[k].ok OH.2 OH.1;have xH:id<h1.length:=(Ae.1 UC).1;have Jr:h2[id]?=some (.cells (Ut.map CJ.row).flatten):=by rw[d.old id xH P1];exact UC
 have XX:¬Bn bi y id:=λhg=>by
  rcases d.Bn id hg with hg|hg
  .exact P1 hg
  .omega
 have s:At h2 id (k*3) (I fs[k].c.node):=⟨_,Jr,by have:=T9 (k:=0) (Xm Ut) Be (i:=k) (r:=fs[k].row) (by rw[CT,Ap nV,e1];rfl);rw[A9] at this;rw[this];rfl⟩
 let q:CJ:=⟨{fs[k].c with node:=b1.a.len+1},fs[k].v,fs[k].ok⟩
 have hrow:(Ut.map CJ.row).flatten.set (k*3) (I (b1.a.len+1))=((Ut.set k q).map CJ.row).flatten:=by have:=V5 (An:=Ut.map CJ.row) (i:=k) (k:=0) (v:= I (b1.a.len+1)) (Xm Ut) (by simpa using nV) Be;rw[A9] at this;rw[Hw,B8,Ad (by rw[Gk (Xm Ut),Aw];omega)];rw[AI] at this;rw[show q.row=((Ut.map CJ.row)[k]'(by simpa using nV)).set 0 (I (b1.a.len+1)) by rw[Hb,e1];rfl];exact this
 have B:id≠bi:=λe=>XX (.inl e);refine⟨r,h2,b1.a.len+1,w1.l3,mb,z,r2,u.l3,s.store rfl,⟨hlt,by have:=i.low;omega,A,y,_,Ut.set k q,u.DH λj hj=>Cz λe=>XX (e▸hj),QA o8,LP (m:=m+4*(fs.length-(k+1))) (vz.le Ab) OH.2 OH.1,?_,by rw[Bz];exact Z7,?_,?_,XX,⟨by rw[KW];exact(f.trans d).len,λj hj hn=>(Cz Ab).trans ((f.trans d).old j hj hn),(f.trans d).Bn⟩⟩⟩;.rw[Hr Jr,AA (by have:=d.len;omega),hrow]
 .rw[ŷ (ID k)];have:=B1 (λl=>l.drop 1) ot;simpa[DU] using this
 .rw[g,AE Ī,w,BS.KJ];simp only
  congr 1
  rw[AL (by rw[Bz];exact nV),List.getElem_set_self,B3,U8 (Af k),AI];rfl
def aCE(w:BX h bi a o c t G b)(hc:C9 b.Bb c)(ok:Eg b)(rm:Ci b (m+4*b.Bb.length)):
  ∃h' o' c' G',Cm cx 64 [Pt bi 0] h (.tuple []) h'/\BX h' bi a o' c' t G' b.Ex/\C9 b.Ex.Bb c'/\ED h (Bn bi G) h' (Bn bi G'):=by
 have ho:=rm.A3;have dQ:=rm.Bb;obtain⟨fs,Ly,hcs⟩:=hc;have HB:b.Bb.length=fs.length:=by rw[<-Ly,Aw]
 have Oq:Ev cx 64 [Pt bi 0] h λr h'=>r= .tuple []/\∃o' c' G',BX h' bi a o' c' t G' b.Ex/\C9 b.Ex.Bb c'/\ED h (Bn bi G) h' (Bn bi G'):=by
  unfold Ev;have l3:=w.l3;have lc:=Bu.GF hcs;rw[px,t64];simp only[abS,(GV w).Ah,l3,lc];refine Mn (i:=0) (λn:Nat=>[I (n:Int)]) (λn h1=>n<=fs.length/\AM b.settled b.Bb=AM b.settled (b.Bb.take n)/\h1=h) (λn=>n) (λn h1=>n=b.ME/\h1=h) fs.length rfl ⟨Af _,by rw[<-HB,BZ],rfl⟩ ?_ ?_
  .rintro n h1 ⟨hn,ha,rfl⟩;cases n with
   |zero=>simp only[abS,(Be:¬(0:Int)<((0:Nat):Int))];refine .II 0 rfl ⟨?_,rfl⟩;unfold BS.ME;rw[ha];rfl
   |succ n=>
    have hlt:n<b.Bb.length:=Ab;have bY:n<fs.length:=Ab;rw[Me hlt] at ha;have i1:=M8 (n:=n+1) (Ab:0<n+1) (Ab:n+1<9223372036854775807);rw[XU] at i1;have e1:=Bu.Dl (k:= .i64) hcs bY;have N:fs[n].c.node=b.Bb[n].node:=by simp only[<-Ly,Hb]
    have d:=UT w.sA Ab b.Bb[n].node;have hK:b.settled b.Bb[n]=true->n+1=b.ME:=by intro hs;rw[Ad hs] at ha;unfold BS.ME;rw[ha];omega
    rw[CJ.row,N] at e1;simp only[abS,(Ab:(0:Int)<((n+1:Nat):Int)),l3,i1,e1,d.Ah,CF];refine⟨λh1=>⟨λh2=>?_,λh2=>?_⟩,λh1=>?_⟩
    .have hs:b.settled b.Bb[n]=false:=by unfold BS.settled;rw[Bk];omega
     rw[Ac (by rw[hs];decide)] at ha;exact .next n rfl ⟨Ab,ha,rfl⟩ Ab
    .exact .II (n+1) rfl ⟨hK (by unfold BS.settled;rw[Bs];omega),rfl⟩
    .exact .II (n+1) rfl ⟨hK (by unfold BS.settled;rw[Bs];omega),rfl⟩
  .rintro n h1 ⟨rfl,O⟩;rw[O];by_cases hne:fs=[]
   .subst hne;have ha:b.Bb=[]:=Ly.symm;have hK:b.ME=0:=by have:=XM (b:=b);rw[ha] at this;exact Nat.le_zero.1 this
    have hb:b.Ex=b:=by unfold BS.Ex;rw[ha];simp only[List.drop_nil,BS.KJ,List.take_nil,Bj];rw[<-ha]
    obtain⟨u,d,hu⟩:=ĩ hcs h;have w1:=(w.QE (u:=u) (l:=b.Bb)).XO;have e1:=Uh w1.u0 (cr hu) rfl;have A:=Bu.GF hu;have q:=w1.l3;rw[Bd] at A;have hz:(b.ME:Int)=((0:Nat):Int):=by rw[hK]
    simp only[abS,l3,d.Ah,w.st (k:=3) (v0:=c) rfl (Bu.cells hu)];refine Mn (i:=2) (λn:Nat=>[I (n:Int)]) (λn h1=>n=0/\h1=Am.put h bi 3 u) (λn=>n) (λn h1=>n=0/\h1=Am.put h bi 3 u) 0 (by rw[hz]) ⟨rfl,rfl⟩ ?_ ?_;.rintro n h1 ⟨rfl,rfl⟩;simp only[abS,q,A,(Be:¬((0:Nat):Int)<((0:Nat):Int))];exact .II 0 rfl ⟨rfl,rfl⟩
    .rintro n h1 ⟨rfl,rfl⟩;simp only[Ch,e1];refine⟨_,rfl,rfl,o,u,G,?_,⟨[],by rw[hb,ha];rfl,hu⟩,B2.trans B2⟩;rw[hb];exact(w1.QE (l:=b.Bb)).XO
   .have i0:=XN.init (m:=m) w ok rm Ly;have d:=su (h:=h) hcs hne Ab;have w0:=w.J5 (u:=[.cells (fs.map CJ.row).flatten]);simp only[abS,l3,d.Ah,w0.st (k:=3) (v:= .CG h.length 0 fs.length 3) (v0:=c) rfl rfl];refine Mn (i:=2) (λn:Nat=>[I (n:Int)]) (λk h1=>XN h bi a t G b fs h.length m k h1) (λk=>fs.length-k) (λk h1=>k=fs.length/\XN h bi a t G b fs h.length m k h1) b.ME rfl i0 ?_ ?_
    .intro k h1 i;have DG:=i.le;have B:Ax (.len false) [.CG h.length 0 fs.length 3]=some (I (fs.length:Int)):=rfl;rcases BH k fs.length with hlt|HK
     .obtain⟨r,h2,n,M,L,K,J,H,E,D⟩:=XN.step Ly rm.C3 (Af _) hlt i;have e1:Ax (.F8 3) [.CG h.length 0 fs.length 3,I (k:Int)]=some (Pt h.length (k*3)):=H6 hlt;simp only[abS,M,B,(Ab:(k:Int)<(fs.length:Int)),e1,L,K.Ah,Dk,J.Ah,H,E,CQ (Ab:k<9223372036854775807)];exact .next (k+1) rfl D Ab
     .obtain⟨g,z,b1,Ut,w1,_⟩:=i.ex;simp only[abS,w1.l3,B,(Ab:¬(k:Int)<(fs.length:Int))];exact .II k rfl ⟨Ab,i⟩
    .rintro k h1 ⟨rfl,i⟩;obtain⟨g,z,b1,Ut,w1,o8,vz,UC,Z7,ot,y,P1,f⟩:=i.ex;have hf:=Qo (Xm Ut) UC;rw[Aw,Z7] at hf;have s:h.length≠bi:=λe=>P1 (.inl e);have e1:=Uh w1.u0 hf (by rw[Aj s]);have C:BX (h1.set h.length .Ec) bi a g _ t z b1:=w1.DH λj hj=>Aj λe=>P1 (by rw[e];exact hj);simp only[Ch,e1];have hb:b.Ex={b1 with Bb:=Ut.map (·.c)}:=by rw[y,Bc Ab,AT Ab];simp only[BS.KJ,BN]
     refine⟨_,rfl,rfl,g,_,z,by rw[hb];exact C.QE,⟨Ut,by rw[hb],.mk⟩,?_⟩;refine ED.trans ⟨by rw[Bz];exact f.len,λj hj hn=>?_,f.Bn⟩ B2;rw[Aj Ab];exact f.old j hj hn
 obtain⟨r,h',hr,rfl,o',c',G',w',RG,x'⟩:=Oq.ret;exact⟨h',o',c',G',hr,w',RG,x'⟩
end
def ct{id l k:Nat}(hl:0<l)(hk:k<=l):Ax (.P4 3 false false true) [.CG id 0 l 3,I (k:Int)]=some (.CG id 0 k 3):=by
 have e1:E8 (k:Int) l=some k:=by unfold E8;rw[Ad Ab];rfl
 simp[Ax,JR,Dx,e1];omega
def cu{id l k:Nat}(hk:k<=l):Ax (.P4 3 false true false) [.CG id 0 l 3,I (k:Int)]=some (if k<l then .CG id (k*3) (l-k) 3 else .sl 3 []):=by
 have e1:E8 (k:Int) l=some k:=by unfold E8;rw[Ad Ab];rfl
 simp[Ax,JR,Dx,e1];split<;>rfl
def HU{U:Type}{l:List U}{k:Nat}(hk:k<l.length):(Bf l k).length=l.length-1:=by unfold Bf;rw[Ao,Av,AW];omega
def ī{h:Ag}{id k:Nat}{An:List (List Aa)}(hr:∀r∈An,r.length=3)(hc:h[id]?=some (.cells An.flatten))(hk:k<An.length)(hb:An.length<=1000000000):
  ∃Fx,Cm cx 200 [.CG id 0 An.length 3,I (k:Int),I ((k+1:Nat):Int)] h (.CG id 0 (An.length-1) 3) (h.set id (.cells ((Bf An k).flatten++Fx))):=by
 have Hm:=(Ae.1 hc).1;have vu:=HU hk;have X5:=Gk hr;have q:∀r∈Bf An k,r.length=3:=λr hm=>hr r (by
  unfold Bf at hm;rcases Al.1 hm with hm|hm
  .exact AN hm
  .exact A7 hm)
 have fZ:=Gk q;rw[vu] at fZ;have Q1:(An.take k).flatten=An.flatten.take (k*3):=(VQ hr).symm;have l_:(An.drop (k+1)).flatten=An.flatten.drop ((k+1)*3):=(He hr).symm;obtain⟨Pd,u,hcl⟩:∃Pd,hgrow h 3 48 (.CG id 0 k 3) (if k+1<An.length then .CG id ((k+1)*3) (An.length-(k+1)) 3 else .sl 3 [])=some (h.set id (.cells ((Bf An k).flatten++Pd)),.CG id 0 (An.length-1) 3)/\Pd.length=3:=by
  have f:Gt h 3 (if k+1<An.length then .CG id ((k+1)*3) (An.length-(k+1)) 3 else .sl 3 [])=some (An.drop (k+1)):=by
   by_cases Vo:k+1<An.length;.rw[Ad Vo];have j:=VR hr (n:=An.length-(k+1)) (off:=k+1) Ab;rw[AT (by rw[AW];exact Af _)] at j;simp only[Gt,BB,hc,j];rw[Ad (by rw[X5];omega)]
   .rw[Ac Vo,Bc Ab];rfl
  by_cases Ĉ:k+1=An.length
  .refine⟨An.flatten.drop (k*3),?_,by rw[AW,X5];omega⟩;have g:An.drop (k+1)=[]:=Bc Ab;rw[g] at f;have s:(Bf An k).flatten++An.flatten.drop (k*3)=An.flatten:=by unfold Bf;rw[g,BN,Q1,BY]
   have z:h.set id (.cells ((Bf An k).flatten++An.flatten.drop (k*3)))=h:=by rw[s];obtain⟨Z8,w⟩:=Ae.1 hc;rw[<-w,HV]
   simp only[hgrow,f,BB];rw[z,(Ab:An.length-1=k)]
  .obtain⟨y,l2,hd⟩:∃y l2,An.drop (k+1)=y::l2:=⟨_,_,AE (Ab:k+1<An.length)⟩;have jX:(y::l2).length=An.length-(k+1):=by rw[<-hd,AW]
   refine⟨An.flatten.drop ((An.length-1)*3),?_,by rw[AW,X5];omega⟩;rw[hd] at f;simp only[hgrow,f,hc,BB];rw[jX,Ad (by rw[X5];omega)];rw[<-hd,l_,Bm,Bm,(Ab:k+(An.length-(k+1))=An.length-1)];unfold Bf;rw[MB,Q1,l_]
 generalize ix:h.set id (.cells ((Bf An k).flatten++Pd))=h2 at u;have Jr:h2[id]?=some (.cells ((Bf An k).flatten++Pd)):=by rw[<-ix];exact AA Hm
 have eQ:((Bf An k).flatten++Pd).length=An.length*3:=by rw[Ao,fZ,hcl];omega
 have g:D4 (.kL 3 true true) h2 [.CG id 0 (An.length-1) 3,I ((An.length-1:Nat):Int),I (An.length:Int)]=some (h2,.CG id ((An.length-1)*3) 1 3):=by
  simp only[D4,Ya,Jr];have e1:E8 (An.length:Int) ((((Bf An k).flatten++Pd).length-0)/3)=some An.length:=by unfold E8;rw[Ad (by rw[eQ];omega)];rfl
  have j:E8 ((An.length-1:Nat):Int) An.length=some (An.length-1):=by unfold E8;rw[Ad Ab];rfl
  rw[Ad ⟨trivial,trivial,A8 _⟩];simp only[Dx,e1,j,BU,BM];rw[Ad (by rw[eQ];omega)];congr 3
  .omega
  .omega
 have v:D4 (.clear 3 [I 0,S [],.slnil]) h2 [.CG id ((An.length-1)*3) 1 3]=some (h.set id (.cells ((Bf An k).flatten++[I 0,S [],.slnil])),.bool true):=by
  simp only[D4,Sq,Jr];rw[Ad ⟨trivial,rfl,by rw[eQ];omega⟩];congr 2
  rw[<-ix,uq];congr 2
  rw[HI fZ,Bc (by rw[eQ];omega)];simp
 refine⟨[I 0,S [],.slnil],?_⟩;have d:∀i n,Ax (.len false) [.CG i 0 n 3]=some (I (n:Int)):=λ_ _=>rfl;have s:D4 (.aD 3) h [.CG id 0 An.length 3,I (k:Int),I ((k+1:Nat):Int),I (An.length:Int)]=some (h,.bool true):=by simp only[D4,Sr];simp;omega
 rw[Ak,bg,â];simp only[abS,d,s,(Ab:¬(k:Int)=((k+1:Nat):Int)),ct (id:=id) (Ab:0<An.length) (Ab:k<=An.length),cu (id:=id) (Ab:k+1<=An.length),u,g,v]
def PJ{z:Nat}:∀{An:List (List Aa)} {cs Gi:List Aa},(∀r∈An,r.length=z)->B9 (Gi++(An.flatten++cs)) z Gi.length An.length=An
 |[],_,_,_=>rfl
 |x::An,cs,Gi,h=>by have hx:=h x Au;have:=PJ (An:=An) (cs:=cs) (Gi:=Gi++x) (λr hr=>h r (by simp[hr]));simp only[AI,Ao,hx] at this;simp only[Cs,AH,B9,AI];rw[Js rfl,HI hx,this]
def eV{h:Ag}{id z:Nat}{An:List (List Aa)}{cs:List Aa}(hr:∀r∈An,r.length=z)(hc:h[id]?=some (.cells (An.flatten++cs))):La h (.CG id 0 An.length z)=some (h.set id .Ec,.sl z An):=by unfold La;simp only[hc,Bm];have:=PJ (cs:=cs) (Gi:=[]) hr;simp only[Bj,Bd] at this;rw[Ad (by rw[Ao,Gk hr];omega),this]
def EB(e:CJ)(at_ mk:Int)(anc far:Item)(last:Int):List Aa:=
 [I e.c.node,.str e.c.name,e.v,I at_,I mk,I anc.node,I anc.AY,.str anc.name,.bool anc.Nc,I far.node,I far.AY,.str far.name,.bool far.Nc,I last]
def KK(ai bi:Nat)(G:Nat->Prop):Nat->Prop:=λi=>i=ai\/Bn bi G i
section
variable{h h':Ag}{bi a ai:Nat}{o c t:Aa}{G G' F:Nat->Prop}{b b':BS}{x:Int}{m:Nat}
variable{nm:Aq}{av:Aa}{l:List AS}{r:List Aa}{sp p:Int}{e:CJ}{at_ mk last:Int}{anc far:Item}
def DT(x:ED h (Bn bi G) h' (Bn bi G'))(ai:Nat):ED h (KK ai bi G) h' (KK ai bi G'):=
 ⟨x.len,λi hi hn=>x.old i hi λhg=>hn (.inr hg),λi hi=>by
  rcases hi with hi|hi
  .exact .inl (.inl hi)
  .rcases x.Bn i hi with h|h
   .exact .inl (.inr h)
   .exact .inr h⟩
def No{k:Nat}{v:Aa}:ED h (Am.KK ai bi G) (put h ai k v) (Am.KK ai bi G):=⟨by rw[KW];exact Af _,λi _ hn=>Cz λe=>hn (.inl e),λ_ h=> .inl h⟩
def I0{id k:Nat}{v:Aa}{cs:List Aa}(hc:h[id]?=some (.cells cs)):(put h id k v)[id]?=some (.cells (cs.set k v)):=by rw[Hr hc,AA (Ae.1 hc).1]
def down(k:Nat)(x:Int):Int:=if(k:Int)<x then x-1 else x
def kE(w:BX h bi a o c t G b)(hc:C9 b.Bb c)(rm:Ci b m)(ha:h[ai]?=some (.cells (EB e at_ mk anc far last)))(hn:¬Bn bi G ai){k:Nat}(hk:k<b.Bb.length)(h1:0<=at_/\at_<=1000000000)(h2:0<=mk/\mk<=1000000000):
  ∃h' c',Cm cx 163 [Pt ai 0,Pt bi 0,I (k:Int)] h (.tuple []) h'/\BX h' bi a o c' t G {b with Bb:=Bf b.Bb k}/\C9 (Bf b.Bb k) c'/\h'[ai]?=some (.cells (EB e (down k at_) (down k mk) anc far last))/\ED h (KK ai bi G) h' (KK ai bi G):=by
 obtain⟨fs,Ly,hcs⟩:=hc;have dQ:=rm.Bb;have HB:b.Bb.length=fs.length:=by rw[<-Ly,Aw]
 have hne:fs≠[]:=by intro e;rw[HB,e] at hk;exact absurd hk (Nat.not_lt_zero _)
 have oV:ai≠bi:=λe=>hn (.inl e);have v_:ai<h.length:=(Ae.1 ha).1;have y:=su (h:=h) hcs hne Ab;have Y:(h++[FF.cells (fs.map CJ.row).flatten])[h.length]?=some (.cells (fs.map CJ.row).flatten):=Au;obtain⟨Fx,r2⟩:=ī (Xm fs) Y (k:=k) D5 D5;rw[Aw] at r2;have e2:(h++[FF.cells (fs.map CJ.row).flatten]).set h.length (.cells ((Bf (fs.map CJ.row) k).flatten++Fx))=h++[.cells ((Bf (fs.map CJ.row) k).flatten++Fx)]:=by rw[CO _ _ (Af _),FD];rfl
 rw[e2] at r2;generalize q:h++[FF.cells ((Bf (fs.map CJ.row) k).flatten++Fx)]=H at r2;have w1:BX H bi a o c t G b:=by rw[<-q];exact w.J5
 have bO:H[ai]?=some (.cells (EB e at_ mk anc far last)):=by rw[<-q,Ai v_];exact ha
 have L:H[h.length]?=some (.cells ((Bf (fs.map CJ.row) k).flatten++Fx)):=by rw[<-q];simp
 have hL:H.length=h.length+1:=by rw[<-q];simp
 have U:ED h (KK ai bi G) H (KK ai bi G):=by rw[<-q];exact DT w.Dt ai
 have my:bi≠h.length:=MH w.lt;have XZ:ai≠h.length:=MH v_;have s:=w1.st (k:=3) (v:= .CG h.length 0 (fs.length-1) 3) (v0:=c) rfl rfl;have X:=w1.QE (u:= .CG h.length 0 (fs.length-1) 3) (l:=b.Bb);have KI:(put H bi 3 (.CG h.length 0 (fs.length-1) 3))[ai]?=some (.cells (EB e at_ mk anc far last)):=by rw[Cz oV];exact bO
 have K:(put H bi 3 (.CG h.length 0 (fs.length-1) 3))[h.length]?=some (.cells ((Bf (fs.map CJ.row) k).flatten++Fx)):=by rw[Cz (Dv my)];exact L
 have T:ED h (KK ai bi G) (put H bi 3 (.CG h.length 0 (fs.length-1) 3)) (KK ai bi G):=U.trans (DT B2 ai);generalize M:put H bi 3 (.CG h.length 0 (fs.length-1) 3)=f at*;have Z:f.length=h.length+1:=by rw[<-M,KW,hL]
 have t3:At f ai 3 (I at_):=⟨_,KI,rfl⟩;have UG:=I0 (k:=3) (v:= I (down k at_)) KI;have A:put f ai 3 (I (down k at_))=if(k:Int)<at_ then put f ai 3 (I (at_-1)) else f:=by
  unfold down;split;.rfl
  .exact t3.same
 have W:BX (put f ai 3 (I (down k at_))) bi a o _ t G _:=X.DH λj hj=>Cz λe=>hn (e▸hj);have J:(put f ai 3 (I (down k at_)))[h.length]?=_:=(Cz (Dv XZ)).trans K;have S:=T.trans (No (k:=3) (v:= I (down k at_)));generalize hH3:put f ai 3 (I (down k at_))=d at*;have t4:At d ai 4 (I mk):=⟨_,UG,rfl⟩;have zb:=I0 (k:=4) (v:= I (down k mk)) UG;have i:put d ai 4 (I (down k mk))=if(k:Int)<mk then put d ai 4 (I (mk-1)) else d:=by
  unfold down;split;.rfl
  .exact t4.same
 have O:BX (put d ai 4 (I (down k mk))) bi a o _ t G _:=W.DH λj hj=>Cz λe=>hn (e▸hj);have E:(put d ai 4 (I (down k mk)))[h.length]?=_:=(Cz (Dv XZ)).trans J;have B:=S.trans (No (k:=4) (v:= I (down k mk)));generalize hH4:put d ai 4 (I (down k mk))=N at*;have D:∀r∈Bf (fs.map CJ.row) k,r.length=3:=λr hm=>Xm fs r (by
  unfold Bf at hm;rcases Al.1 hm with hm|hm
  .exact AN hm
  .exact A7 hm)
 have f4:=eV D E;rw[HU D5,Aw] at f4;have z:=Uh O.u0 f4 (by rw[Aj (Dv my)]);have V:BX (N.set h.length .Ec) bi a o _ t G {b with Bb:=b.Bb}:=O.DH λj hj=>Aj λe=>by
  subst e;rcases hj with hj|hj
  .exact my hj.symm
  .exact absurd (w.w.lt hj) (CL _)
 have ed:Bf (fs.map CJ.row) k=(Bf fs k).map CJ.row:=by unfold Bf;rw[B3,HO,Lq]
 have ec:(Bf fs k).map (·.c)=Bf b.Bb k:=by unfold Bf;rw[B3,HO,Lq,Ly]
 refine⟨_,.sl 3 (Bf (fs.map CJ.row) k),?_,V.QE (l:=Bf b.Bb k),⟨Bf fs k,ec,by rw[ed];exact .mk⟩,?_,?_⟩
 .have ũ:BE f none (Pt ai 3)=some (I at_):=t3.load;have Ū:BE d none (Pt ai 4)=some (I mk):=t4.load;have inc:=CQ (Ab:k<9223372036854775807);have R:=DP (Ab: -9223372036854775808<=at_-1) (Ab:at_-1<9223372036854775808);have Q:=DP (Ab: -9223372036854775808<=mk-1) (Ab:mk-1<9223372036854775808);rw[Ak,ak,Ö];by_cases n:(k:Int)<at_
  .rw[Ad n] at A;have P:Cx f 1 (Pt ai 3) (I (at_-1))=some d:=by rw[A];exact t3.store rfl
   by_cases g:(k:Int)<mk
   .rw[Ad g] at i;have C:Cx d 1 (Pt ai 4) (I (mk-1))=some N:=by rw[i];exact t4.store rfl
    simp only[abS,w.l3,y.Ah,inc,r2.Ah,s,ũ,n,R,P,Ū,g,Q,C,z]
   .rw[Ac g] at i;subst i;simp only[abS,w.l3,y.Ah,inc,r2.Ah,s,ũ,n,R,P,Ū,g,z]
  .rw[Ac n] at A;subst A;by_cases g:(k:Int)<mk
   .rw[Ad g] at i;have C:Cx d 1 (Pt ai 4) (I (mk-1))=some N:=by rw[i];exact t4.store rfl
    simp only[abS,w.l3,y.Ah,inc,r2.Ah,s,ũ,n,Ū,g,Q,C,z]
   .rw[Ac g] at i;subst i;simp only[abS,w.l3,y.Ah,inc,r2.Ah,s,ũ,n,Ū,g,z]
 .rw[Cz oV,Aj (Dv XZ),zb];rfl
 .refine ED.trans ⟨by rw[Bz];exact B.len,λj hj hn=>?_,B.Bn⟩ (DT B2 ai);rw[Aj Ab];exact B.old j hj hn
end
section
variable{U:Type}{q:U->Bool}{l:List U}
def Kw{p:Nat}(hp:p<l.length)(h1:q l[p]=true)(h2:∀j (hj:j<l.length),p<j->q l[j]=false):AM q l=(p:Int):=by
 rcases Ds (q:=q) (l:=l) with⟨e,h⟩|⟨n,hn,e,d,f⟩
 .rw[h _ (AX hp)] at h1;exact absurd h1 Be
 .rcases aE3 n p with h|h|h
  .have:=f p hp h;rw[this] at h1;exact absurd h1 Be
  .rw[e,h]
  .have:=h2 n hn h;rw[this] at d;exact absurd d Be
def Jn{p:Nat}(e:AM q l=(p:Int)):∃hp:p<l.length,q l[p]=true/\∀j (hj:j<l.length),p<j->q l[j]=false:=by
 rcases Ds (q:=q) (l:=l) with⟨e1,h⟩|⟨n,hn,e1,f,d⟩
 .omega
 .have:n=p:=by omega
  subst this;exact⟨hn,f,λj hj h=>d j hj h⟩
def ZG{k j:Nat}(hk:k<l.length):(Bf l k)[j]?=if j<k then l[j]? else l[j+1]?:=by
 unfold Bf;by_cases h:j<k;.rw[Ad h,Ai (by rw[Av];omega),BV,Ad h]
 .rw[Ac h,BG (by rw[Av];omega),Cc];congr 1
  rw[Av];omega
def Mo{k j:Nat}(hk:k<l.length)(hj:j<(Bf l k).length):(Bf l k)[j]=if h:j<k then l[j]'(by omega) else l[j+1]'(by rw[HU hk] at hj;omega):=by
 have hl:=HU hk;have:=ZG (j:=j) hk;rw[Ap hj] at this;by_cases h:j<k;.rw[Z0 h];rw[Ad h,Ap Ab] at this;exact Da this
 .rw[dif_neg h];rw[Ac h,Ap Ab] at this;exact Da this
def XP{p k:Nat}(e:AM q l=(p:Int))(hk:k<l.length)(hne:k≠p):AM q (Bf l k)=down k p:=by
 obtain⟨hp,h1,h2⟩:=Jn e;have hl:=HU hk;unfold down;by_cases d:k<p
 .rw[Ad Ab,(Ab:(p:Int)-1=((p-1:Nat):Int))];refine Kw Ab ?_ ?_;.rw[Mo hk,dif_neg Ab];have:p-1+1=p:=Ab;simp only[this,h1]
  .intro j hj h;rw[Mo hk,dif_neg Ab];exact h2 _ _ Ab
 .rw[Ac Ab];refine Kw Ab ?_ ?_;.rw[Mo hk,Z0 Ab];exact h1
  .intro j hj h;rw[Mo hk];split;.exact h2 _ _ h
   .exact h2 _ _ Ab
def ZH{p k:Nat}{x:U}(e:AM q l=(p:Int))(hne:k≠p)(hx:q x=false):AM q (l.set k x)=(p:Int):=by
 obtain⟨hp,h1,h2⟩:=Jn e;refine Kw (by rw[Bz];exact hp) ?_ ?_;.rw[List.getElem_set_ne hne];exact h1
 .intro j hj h;rw[List.getElem_set];split;.exact hx
  .rw[Bz] at hj;exact h2 j hj h
end
def XQ{l:List Item}(hn:(l.map Item.node).Nodup){i:Nat}(hi:i<l.length):AM (BJ l[i].node) l=(i:Int):=by
 refine Kw hi (by simp[BJ]) λj hj h=>?_;by_cases he:l[i].node=l[j].node
 .have h2:(l.map Item.node)[i]'(by simpa using hi)=(l.map Item.node)[j]'(by simpa using hj):=by simpa using he
  exact absurd h2 (List.pairwise_iff_getElem.1 hn i j (by simpa using hi) (by simpa using hj) h)
 .unfold BJ;simpa using λe=>he e.symm
def Jo{n:Int}{l:List Cp}(h:0<=FI n l):∃p:Nat,∃hp:p<l.length,FI n l=(p:Int)/\n≠0/\l[p].node=n/\AM (TQ n) l=(p:Int):=by
 unfold FI at h⊢;split at h;.omega
 .rename_i h0;rw[Ac h0];obtain⟨p,hp⟩:∃p:Nat,AM (TQ n) l=(p:Int):=⟨_,(I2 h).symm⟩;obtain⟨h1,h2,_⟩:=Jn hp;exact⟨p,h1,hp,h0,by simpa[TQ] using h2,hp⟩
def nW{n:Int}{l:List Cp}{k:Nat}(h:0<=FI n l)(hk:k<l.length)(hne:l[k].node≠n):FI n (Bf l k)=down k (FI n l):=by obtain⟨p,hp,e,h0,h1,h2⟩:=Jo h;rw[e,<-XP h2 hk (by rintro rfl;exact hne h1)];unfold FI;rw[Ac h0]
def vM{n:Int}{l:List Cp}{k:Nat}{x:Cp}(h:0<=FI n l)(hk:k<l.length)(hne:l[k].node≠n)(hx:x.node≠n):FI n (l.set k x)=FI n l:=by obtain⟨p,hp,e,h0,h1,h2⟩:=Jo h;rw[e,<-ZH (x:=x) (k:=k) h2 (by rintro rfl;exact hne h1) (by simp[TQ];exact hx)];unfold FI;rw[Ac h0]
def nX{n:Int}{l:List Cp}(hn:((l.map Cp.node).filter λn=>decide (n≠0)).Nodup)(h:0<=FI n l):FI n (Bf l (FI n l).toNat)<0:=by
 obtain⟨p,hp,e,h0,h1,h2⟩:=Jo h;rw[e,Bw];refine Int.not_le.1 λi=>?_;obtain⟨g,f,j,_,d,_⟩:=Jo i;have:l=l.take p++l[p]::l.drop (p+1):=by rw[<-AE hp,BY]
 rw[this,B3,AZ,D3,FJ,Ad (by simpa[h1] using h0),Bx,By] at hn;have hm:=AX f;generalize(Bf l p)[g]=y at hm d;unfold Bf at hm;rcases Al.1 hm with hm|hm
 .exact hn.2.2 y.node (CH.2 ⟨Vf hm,by simpa[d] using h0⟩) l[p].node Au (by rw[d,h1])
 .exact hn.2.1.1 (CH.2 ⟨by rw[h1,<-d];exact Vf hm,by simpa[h1] using h0⟩)
section
variable{h h':Ag}{bi a ai:Nat}{o c t:Aa}{G G' F:Nat->Prop}{b b':BS}{x:Int}{m:Nat}
variable{nm:Aq}{av:Aa}{l:List AS}{r:List Aa}{sp p:Int}{e:CJ}{at_ mk last:Int}{anc far:Item}
def Ui{blk anc:Int}{far i:Nat}{l:Int}{mk m:Nat}(r:Ci b (m+4)):Ci (BS.GQ blk anc far i b l mk).1 m:=by
 unfold BS.GQ;simp only
 split;.exact(r.le Ab).sub rfl Cy (AD _) (Af _)
 .split;.exact(r.le Ab).sub rfl Cy Cy (Af _)
  .rename_i he _;obtain⟨p,hp,e1,_,_,_⟩:=Jo (QN.1 he);rw[e1,Bw,AG,Ap hp,Ln];have OH:=r.C3 _ (AX hp);have d:=J2 (m:=m+1) (nm:=b.Bb[p].name) (l:=b.Bb[p].AB) (sp:=1) (p:=anc) (r.le Ab) OH.2;have r2:=(d.le (m':=m) Ab).J0 (J6 (p:=(b.Ie b.Bb[p].name b.Bb[p].AB 1).node) (x:=l) (bf:=0));refine⟨r2.n,r2.at_,r2.data,by simp only[Bz];exact r2.A3,by simp only[Bz];exact r2.Bb,r2.tm,λe he=>?_,λi hi=>?_⟩
   .rcases CZ he with he|rfl
    .exact r2.C3 e he
    .exact OH
   .rcases CZ hi with hi|rfl
    .exact r2.Zr i hi
    .exact Nl OH.1
end
def QH{A:Ar}{x p bf:Int}(h:(A.nd p).kind=4):A.E9 x p bf=A.Hs p x bf:=by unfold Ar.E9;rw[Ac (by rw[h];intro h;exact absurd h.1 Be)]
section
variable{h h':Ag}{bi a ai:Nat}{o c t:Aa}{G G' F:Nat->Prop}{b b':BS}{x:Int}{m:Nat}
variable{nm:Aq}{av:Aa}{l:List AS}{r:List Aa}{sp p:Int}{e:CJ}{at_ mk last:Int}{anc far:Item}
def C9.at(hc:C9 b.Bb c)(w:BX h bi a o c t G b)(rm:Ci b m)(n:Int):Cm cx 114 [Pt bi 3,I n] h (I (FI n b.Bb)) h:=by obtain⟨fs,Ly,hv⟩:=hc;have ha:=rm.Bb;have:=f41 w.u0 hv (by rw[<-Ly,Aw] at ha;omega) n;rwa [ZC,Ly] at this
structure ZI(h:Ag)(bi a ai:Nat)(t:Aa)(G0:Nat->Prop)(fe:CJ)(anc far:Item)(k N m:Nat)(s0:BS×Int×Nat)(n:Nat)(h1:Ag)(o c:Aa)(G:Nat->Prop)(s:BS×Int×Nat):Prop where
 le:n<=N
 w:BX h1 bi a o c t G s.1
 hc:C9 s.1.Bb c
 ok:Eg s.1
 rm:Ci s.1 (m+4*n)
 last:s.1.a.has s.2.1
 st:h1[ai]?=some (.cells (EB fe (FI fe.c.node s.1.Bb) (s.2.2:Int) anc far s.2.1))
 hn:¬Bn bi G ai
 x:ED h (KK ai bi G0) h1 (KK ai bi G)
 WG:0<=FI fe.c.node s.1.Bb
 Ĭ:s.2.2<=1000000000
 A3:s.1.A3.take (k+n+1)=s0.1.A3.take (k+n+1)
 len:k+n+1<=s.1.A3.length
 eq:BS.Nk far.node anc.node (k+1+N) k N s0=BS.Nk far.node anc.node (k+1+N) k n s
 fe:s.1.a.has fe.c.node
def nY{blk anc:Int}{far i:Nat}{l:Int}{mk:Nat}(hi:i<b.A3.length):(BS.GQ blk anc far i b l mk).1.A3.take i=b.A3.take i/\i<=(BS.GQ blk anc far i b l mk).1.A3.length:=by
 have h1:(Bf b.A3 i).take i=b.A3.take i/\i<=(Bf b.A3 i).length:=by refine⟨?_,by rw[HU hi];omega⟩;unfold Bf;rw[CY (by rw[Av];omega),FZ,Nat.min_self]
 unfold BS.GQ;simp only
 split;.exact h1
 .split;.exact h1
  .have NY:∀nm l p,(b.EU nm l 1 p).A3=b.A3:=λnm l p=>by unfold BS.EU;rw[Ad KH]
   simp only[NY];exact⟨U8 (Af i),by rw[Bz];omega⟩
def ZI.step{h1 h2:Ag}{B c1 z c2:Aa}{A u:Nat->Prop}{fe:CJ}{k N n:Nat}{s0 s s':BS×Int×Nat}(i:ZI h bi a ai t G fe anc far k N m s0 (n+1) h1 B c1 A s)(e:s'=BS.GQ far.node anc.node (k+1+N) (k+(n+1)) s.1 s.2.1 s.2.2)
  (w:BX h2 bi a z c2 t u s'.1) (hc:C9 s'.1.Bb c2) (st:h2[ai]?=some (.cells (EB fe (FI fe.c.node s'.1.Bb) (s'.2.2:Int) anc far s'.2.1))) (hn:¬Bn bi u ai) (x:ED h1 (KK ai bi A) h2 (KK ai bi u)) (WG:0<=FI fe.c.node s'.1.Bb) (mk:s'.2.2<=1000000000):
  ZI h bi a ai t G fe anc far k N m s0 n h2 z c2 u s':=by
 obtain⟨g,last',j⟩:=Zp (blk:=far.node) (anc:=anc.node) (far:=k+1+N) (i:=k+(n+1)) (m:=s.2.2) i.ok i.last;have hl:=i.len;obtain⟨f,v⟩:=nY (blk:=far.node) (anc:=anc.node) (far:=k+1+N) (i:=k+(n+1)) (l:=s.2.1) (mk:=s.2.2) (b:=s.1) Ab;have d:=Ui (blk:=far.node) (anc:=anc.node) (far:=k+1+N) (i:=k+(n+1)) (l:=s.2.1) (mk:=s.2.2) (m:=m+4*n) (i.rm.le Ab);have NY:=i.A3;have y:BS.Nk far.node anc.node (k+1+N) k (n+1) s=BS.Nk far.node anc.node (k+1+N) k n (BS.GQ far.node anc.node (k+1+N) (k+(n+1)) s.1 s.2.1 s.2.2):=rfl;have q:=i.eq.trans y;rw[<-e] at g last' j f v d q;refine⟨by have:=i.le;omega,w,hc,g,d,last',st,hn,i.x.trans x,WG,mk,?_,Ab,q,j.has _ i.fe⟩;have:=B1 (λl=>l.take (k+(n+1))) NY;simp only[FZ] at this;rw[(Ab:k+n+1=k+(n+1)),f];rwa [Cg Ab] at this
def ĭ{fe:CJ}{k N:Nat}{s0:BS×Int×Nat}(i0:ZI h bi a ai t G fe anc far k N m s0 N h o c G s0)(XW:1<=k)(Vo:AM (BJ fe.c.node) s0.1.A3=(k:Int))(hN:k+1+N<s0.1.A3.length):
  ∃h' o' c' G' s',Cm cx 166 [Pt bi 0,Pt ai 0,I (k:Int),I ((k+1+N:Nat):Int)] h (.tuple []) h'/\s'=BS.Nk far.node anc.node (k+1+N) k N s0/\ZI h bi a ai t G fe anc far k N m s0 0 h' o' c' G' s':=by
 have ho:=i0.rm.A3;have Oq:Ev cx 166 [Pt bi 0,Pt ai 0,I (k:Int),I ((k+1+N:Nat):Int)] h λr h'=>r= .tuple []/\∃o' c' G' s',s'=BS.Nk far.node anc.node (k+1+N) k N s0/\ZI h bi a ai t G fe anc far k N m s0 0 h' o' c' G' s':=by
  unfold Ev;rw[au,Ù];have i1:=DP (a:=((k+1+N:Nat):Int)) (b:=1) Ab Ab;rw[(Ab:((k+1+N:Nat):Int)-1=((k+N:Nat):Int))] at i1;simp only[Ch,i1];refine BL (λn:Nat=>[I ((N-n:Nat):Int),I ((k+n:Nat):Int)]) (λn h1=>∃o c Y s,ZI h bi a ai t G fe anc far k N m s0 n h1 o c Y s) (λn=>n) N (by rw[FD];rfl) ⟨o,c,_,s0,i0⟩ ?_;rintro n h1 ⟨o1,c1,Y,s,i⟩;cases n with
  |zero=>simp only[abS,↓reduceIte,(Ab:¬(k:Int)<(k:Int))];exact⟨_,rfl,rfl,o1,c1,Y,s,i.eq.symm,i⟩
  |succ n=>
   have hnN:=i.le;have hlen:=i.len;have ū:k+(n+1)<s.1.A3.length:=Ab;have hwo:=i.rm.A3;have hwa:=i.rm.Bb;have oV:ai≠bi:=λe=>i.hn (.inl e);have v_:ai<h1.length:=(Ae.1 i.st).1;have H:=T6 i.w.sA ((k+(n+1):Nat):Int);rw[H8 ū] at H;have Q:=XQ i.ok.wF ū;have hxf:s.1.A3[k+(n+1)].node≠fe.c.node:=by have h2:=B1 (λl=>l[k+(n+1)]?) i.A3;simp only[BV] at h2;rw[Ad Ab,Ad Ab,Ap ū,Ap Ab] at h2;obtain⟨_,_,J⟩:=Jn Vo;have g:=J (k+(n+1)) Ab Ab;rw[Da h2];intro h5;unfold BJ at g;rw[h5] at g;simp at g
   have hgd:s.1.A3.getD (k+(n+1)) Item.zero=s.1.A3[k+(n+1)]:=by rw[AG,Ap ū];rfl
   generalize s.1.A3[k+(n+1)]=x at*;have r2:=i.hc.at i.w i.rm x.node;obtain⟨q,hq,uZ,hq0,Ť,hq3⟩:=Jo i.WG;have inc:Ax (.int .add) [I ((N-(n+1):Nat):Int),I 1]=some (I ((N-n:Nat):Int)):=by have:=CQ (n:=N-(n+1)) Ab;rwa [(Ab:N-(n+1)+1=N-n)] at this
   have dec:Ax (.int .sub) [I ((k+(n+1):Nat):Int),I 1]=some (I ((k+n:Nat):Int)):=by have:=M8 (n:=k+(n+1)) Ab Ab;rwa [(Ab:k+(n+1)-1=k+n)] at this
   have Į:(k:Int)<((k+(n+1):Nat):Int):=Ab;have R:∀l:List Item,l=s.1.A3->DR x.node l=Bf l (k+(n+1)):=by intro l e;subst e;unfold DR;rw[Q,Ac Ab,Bw]
   by_cases he:FI x.node s.1.Bb<0
   .obtain⟨u,A,hu⟩:=sr i.w.sO Ab x.node;rw[R _ rfl] at hu;have y:=i.w.Nn hu;have es:({s.1 with A3:=Bf s.1.A3 (k+(n+1))},s.2.1,s.2.2)=BS.GQ far.node anc.node (k+1+N) (k+(n+1)) s.1 s.2.1 s.2.2:=by unfold BS.GQ;simp only[hgd];rw[Ad he]
    have B:=i.step es y i.hc ((Cz oV).trans i.st) i.hn (DT B2 ai) i.WG i.Ĭ;by_cases VD:(3:Int)<((N-n:Nat):Int);.simp only[abS,↓reduceIte,Ic,Į,H.Ah,inc,r2.Ah,VD,he,(Ab:¬(0:Int)<=FI x.node s.1.Bb),A.Ah,dec];exact A6.next n rfl ⟨_,_,_,_,B⟩ Ab
    .simp only[abS,↓reduceIte,Ic,Į,H.Ah,inc,r2.Ah,VD,he,A.Ah,dec];exact A6.next n rfl ⟨_,_,_,_,B⟩ Ab
   .obtain⟨p,hp,ep,hx0,o7,hp3⟩:=Jo (QN.1 he);have HK:(0:Int)<=(p:Int):=Ab;rw[ep] at r2;have Ŋ:s.1.Bb[p].node≠fe.c.node:=by rw[o7];exact hxf
    have C:(FI x.node s.1.Bb).toNat=p:=by rw[ep,Bw]
    by_cases VD:(3:Int)<((N-n:Nat):Int)
    .obtain⟨h2,c2,A,y,Jr,jb,D⟩:=kE i.w i.hc i.rm i.st i.hn hp ⟨i.WG,Ab⟩ ⟨Ab,by have:=i.Ĭ;omega⟩;have eS:Ci {s.1 with Bb:=Bf s.1.Bb p} (m+4*(n+1)):=i.rm.sub rfl (AD _) Cy (Af _);have W:=C9.at (b:={s.1 with Bb:=Bf s.1.Bb p}) Jr y eS x.node;have gF:FI x.node (Bf s.1.Bb p)<0:=by have:=nX (n:=x.node) i.ok.oZ (QN.1 he);rwa [C] at this
     obtain⟨u,V,hu⟩:=sr y.sO GU x.node;rw[R _ rfl] at hu;have K:=y.Nn hu;have vN:(((if p<s.2.2 then s.2.2 -1 else s.2.2:Nat)):Int)=down p (s.2.2:Int):=by unfold down;split<;>split<;>omega
     have es:({s.1 with Bb:=Bf s.1.Bb p,A3:=Bf s.1.A3 (k+(n+1))},s.2.1,if p<s.2.2 then s.2.2 -1 else s.2.2)=BS.GQ far.node anc.node (k+1+N) (k+(n+1)) s.1 s.2.1 s.2.2:=by unfold BS.GQ;simp only[hgd];rw[Ac he,Ad (Ab:k+(n+1)+3<k+1+N),C]
     have į:=nW i.WG hp Ŋ;have hd0:0<=down p (FI fe.c.node s.1.Bb):=by unfold down;split<;>omega
     have B:=i.step es K Jr (by rw[Cz oV,jb];simp only;rw[į,vN]) i.hn (D.trans (DT B2 ai)) (by simp only;rw[į];exact hd0) (by have:=i.Ĭ;simp only;split<;>omega);simp only[abS,↓reduceIte,Ic,Į,H.Ah,inc,r2.Ah,VD,HK,A.Ah,W.Ah,gF,V.Ah,dec];exact A6.next n rfl ⟨_,_,_,_,B⟩ Ab
    .obtain⟨fs,Ly,hv⟩:=i.hc;have HB:s.1.Bb.length=fs.length:=by rw[<-Ly,Aw]
     have aCG:p<fs.length:=Ab;have U:fs[p].c=s.1.Bb[p]:=by simp only[<-Ly,Hb]
     have l3:=i.w.l3;have e1:=Bu.Dl (k:= .i64) hv aCG;have l5:BE h1 none (Pt ai 5)=some (I anc.node):=At.load ⟨_,i.st,rfl⟩;obtain⟨r,A,hr⟩:=vL fs[p] h1;have OH:=i.rm.C3 _ (AX hp);rw[<-U] at OH;obtain⟨h2,G2,W,y,D⟩:=vB (m:=m+4*n) i.w i.ok.ba (i.rm.le Ab) hr fs[p].ok OH.2 OH.1 anc.node 1;obtain⟨td,f,le2⟩:=Rp (nm:=fs[p].c.name) (at_:=fs[p].c.AB) (p:=anc.node) i.ok KH;have eS:=J2 (m:=m+4*n+1) (nm:=fs[p].c.name) (l:=fs[p].c.AB) (sp:=1) (p:=anc.node) (i.rm.le Ab) OH.2;have NY:(s.1.EU fs[p].c.name fs[p].c.AB 1 anc.node).A3=s.1.A3:=by unfold BS.EU;rw[Ad KH]
     have dQ:(s.1.EU fs[p].c.name fs[p].c.AB 1 anc.node).Bb=s.1.Bb:=by unfold BS.EU;rw[Ad KH]
     have T:BS.GQ far.node anc.node (k+1+N) (k+(n+1)) s.1 s.2.1 s.2.2=({s.1.EU fs[p].c.name fs[p].c.AB 1 anc.node with a:=(s.1.EU fs[p].c.name fs[p].c.AB 1 anc.node).a.Hs (s.1.Ie fs[p].c.name fs[p].c.AB 1).node s.2.1 0,A3:=(s.1.EU fs[p].c.name fs[p].c.AB 1 anc.node).A3.set (k+(n+1)) (s.1.Ie fs[p].c.name fs[p].c.AB 1),Bb:=(s.1.EU fs[p].c.name fs[p].c.AB 1 anc.node).Bb.set p {fs[p].c with node:=(s.1.Ie fs[p].c.name fs[p].c.AB 1).node}},(s.1.Ie fs[p].c.name fs[p].c.AB 1).node,if s.2.1=far.node then p+1 else s.2.2):=by unfold BS.GQ;simp only[hgd];rw[Ac he,Ac Ab,C,AG,Ap hp,Ln,<-U]
     have pU:=NI i.ok f;have hna:=Qz i.ok f;have hnf:(s.1.Ie fs[p].c.name fs[p].c.AB 1).node≠fe.c.node:=λe2=>f.new (by rw[e2];exact i.fe);have aCI:=le2.has _ i.last;have aCJ:(s.1.Ie fs[p].c.name fs[p].c.AB 1).name.length<=1000:=Nl OH.1;generalize s.1.Ie fs[p].c.name fs[p].c.AB 1=d at*;generalize s.1.EU fs[p].c.name fs[p].c.AB 1 anc.node=b2 at*;have XX:¬Bn bi G2 ai:=λhg=>by
      rcases D.Bn ai hg with hg|hg
      .exact i.hn hg
      .omega
     have jb:h2[ai]?=_:=(D.old ai v_ i.hn).trans i.st;obtain⟨E,L,V,Wy⟩:=aBZ y.sO (by have:=eS.A3;omega) x.node d;have aCK:Nh x.node d b2.A3=b2.A3.set (k+(n+1)) d:=by unfold Nh;rw[NY,Q,Ac Ab,Bw]
     rw[aCK] at Wy;have K:=(y.Nn Wy).J5 (u:=L);have x3:ED h1 (KK ai bi Y) (put h2 bi 2 E++L) (KK ai bi G2):=(DT D ai).trans (DT (B2.trans (y.Nn Wy).Dt) ai);have ai2:ai<h2.length:=by have:=D.len;omega
     have İ:(put h2 bi 2 E++L)[ai]?=_:=(Ai (by rw[KW];exact ai2)).trans ((Cz oV).trans jb);have ai3:ai<(put h2 bi 2 E++L).length:=by rw[Ao,KW];omega
     generalize put h2 bi 2 E++L=J at*;have aCL:=(OH.2).1;obtain⟨z,t2,e2,he2,r6,Ow⟩:=f208 (h:=J) (id:=bi) (o:=3) (l:=fs) ⟨c1,K.u0,hv⟩ Ab x.node (e:=⟨{fs[p].c with node:=d.node},fs[p].v,fs[p].ok⟩) (by unfold oX;simp only;omega);have hei:IU x.node fs=(p:Int):=by rw[ZC,Ly,ep]
     rw[hei,Ac Ab,Bw] at Ow;have w4:=(K.QE (u:=z) (l:=b2.Bb.set p {fs[p].c with node:=d.node})).J5 (u:=t2);have ŏ:C9 (b2.Bb.set p {fs[p].c with node:=d.node}) z:=⟨_,by rw[Hw,Ly,he2,dQ],Ow⟩;have x4:=x3.trans (DT ((B2 (k:=3) (v:=z)).trans (BX.Dt (u:=t2) (K.QE (u:=z) (l:=b2.Bb.set p {fs[p].c with node:=d.node})))) ai);have wb:(put J bi 3 z++t2)[ai]?=_:=(Ai (by rw[KW];exact ai3)).trans ((Cz oV).trans İ);generalize put J bi 3 z++t2=g at*;have wc:=td.sN (i:=d) (k:=k+(n+1)) ⟨f.has,f.kind,f.AY,f.name⟩ (by rw[NY];exact pU);have gr:=wc.sR (e:={fs[p].c with node:=d.node}) (k:=p) ⟨f.has,f.kind⟩ (by simp only[dQ];exact hna);have rm4:Ci {b2 with A3:=b2.A3.set (k+(n+1)) d,Bb:=b2.Bb.set p {fs[p].c with node:=d.node}} (m+4*n+1):=by
      refine⟨eS.n,eS.at_,eS.data,by simp only[Bz];exact eS.A3,by simp only[Bz];exact eS.Bb,eS.tm,λe he=>?_,λi hi=>?_⟩
      .rcases CZ he with he|rfl
       .exact eS.C3 e he
       .exact OH
      .rcases CZ hi with hi|rfl
       .exact eS.Zr i hi
       .exact aCJ
     have Ŭ:BE g none (Pt ai 13)=some (I s.2.1):=At.load ⟨_,wb,rfl⟩;have l9:BE g none (Pt ai 9)=some (I far.node):=At.load ⟨_,wb,rfl⟩;have t4:At g ai 4 (I (s.2.2:Int)):=⟨_,wb,rfl⟩;obtain⟨XR,nZ⟩:∃XR:Nat,XR=if s.2.1=far.node then p+1 else s.2.2:=⟨_,rfl⟩
     have X:put g ai 4 (I (XR:Int))=if s.2.1=far.node then put g ai 4 (I ((p+1:Nat):Int)) else g:=by
      rw[nZ];split;.rfl
      .exact t4.same
     have M:=I0 (k:=4) (v:= I (XR:Int)) wb;have w5:BX (put g ai 4 (I (XR:Int))) bi a E z t G2 {b2 with A3:=b2.A3.set (k+(n+1)) d,Bb:=b2.Bb.set p {fs[p].c with node:=d.node}}:=w4.DH λj hj=>Cz λe=>XX (e▸hj);have x5:=x4.trans (No (k:=4) (v:= I (XR:Int)));have ai5:ai<(put g ai 4 (I (XR:Int))).length:=by have:=x5.len;omega
     have t5:BE (put g ai 4 (I (XR:Int))) none (Pt ai 13)=some (I s.2.1):=At.load ⟨_,M,rfl⟩;generalize hh5:put g ai 4 (I (XR:Int))=h5 at*;obtain⟨h6,G6,r7,w6,Z⟩:=ZB (x:=s.2.1) (p:=d.node) (bf:=0) w5 gr.ba rm4;rw[QH (by exact f.kind)] at w6;have S:¬Bn bi G6 ai:=λhg=>by
      rcases Z.Bn ai hg with hg|hg
      .exact XX hg
      .omega
     have ı:h6[ai]?=_:=(Z.old ai ai5 XX).trans M;have t6:At h6 ai 13 (I s.2.1):=⟨_,ı,rfl⟩;have we:=I0 (k:=13) (v:= I d.node) ı;have w7:BX (put h6 ai 13 (I d.node)) bi a E z t G6 _:=w6.DH λj hj=>Cz λe=>S (e▸hj);have x7:=(x5.trans (DT Z ai)).trans (No (k:=13) (v:= I d.node));have n7:FI fe.c.node (b2.Bb.set p {fs[p].c with node:=d.node})=FI fe.c.node s.1.Bb:=by rw[dQ];exact vM i.WG hp Ŋ hnf
     rw[<-nZ] at T;have B:=i.step T.symm w7 ŏ (by simp only;rw[we,n7];rfl) S x7 (by simp only;rw[n7];exact i.WG) (by simp only;rw[nZ];have:=i.Ĭ;split<;>omega);have ŭ:fs[p].v.cells=[fs[p].v]:=Bu.cells fs[p].ok;have P:=CQ (Ab:p<9223372036854775807);have O:Cm cx 203 [Pt bi 3,I x.node,.agg [I d.node,.str fs[p].c.name,fs[p].v]] J (.bool (decide (0<=IU x.node fs))) g:=r6;rw[CJ.row] at e1 A;by_cases X5:s.2.1=far.node
     .rw[Ad X5] at X;have s5:Cx g 1 (Pt ai 4) (I ((p+1:Nat):Int))=some h5:=by rw[X];exact t4.store rfl
      simp only[abS,Nat.reduceLeDiff,↓reduceIte,Bt,Ic,Į,H.Ah,inc,r2.Ah,VD,HK,(Ab:¬(p:Int)<0),l3,e1,l5,A.Ah,Dk,W.Ah,V.Ah,ŭ,O.Ah,Ŭ,l9,C1 X5,P,s5,t5,r7.Ah,t6.store (u:= I d.node) rfl,dec];exact A6.next n rfl ⟨_,_,_,_,B⟩ Ab
     .rw[Ac X5] at X;subst X;simp only[abS,Nat.reduceLeDiff,↓reduceIte,Bt,Ic,Į,H.Ah,inc,r2.Ah,VD,HK,(Ab:¬(p:Int)<0),l3,e1,l5,A.Ah,Dk,W.Ah,V.Ah,ŭ,O.Ah,Ŭ,l9,X5,r7.Ah,t6.store (u:= I d.node) rfl,dec];exact A6.next n rfl ⟨_,_,_,_,B⟩ Ab
 obtain⟨r,h',hr,rfl,o',c',G',s',e',i'⟩:=Oq.ret;exact⟨h',o',c',G',s',hr,e',i'⟩
end
end Go.Am
end
