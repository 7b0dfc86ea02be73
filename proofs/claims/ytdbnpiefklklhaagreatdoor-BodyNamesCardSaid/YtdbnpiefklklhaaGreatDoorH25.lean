/- Lemmas -/
import Derived.Test.YtdbnpiefklklhaaGreatDoorH24
set_option linter.all false
set_option maxHeartbeats 0
set_option maxRecDepth 100000
section
namespace Go.Am
open Go
section
variable{h h':Ai}{a n:Nat}{m:Option Nat}{ps:List PN}{A:Ar}{x:Int}{F:Nat->Prop}
def jU{p:PN}(w:PA h a n m ps A)(hx:A.has x){i:Nat}(hi:i∈Fu a n m (ps.set (x.toNat-1) p)):i∈Fu a n m ps\/Hp p.kv=some i:=by
 obtain⟨c,b⟩:=Xu w hx p;unfold Fu at hi⊢;rw[b,Ef] at hi;simp only[AG,Ap,Cb] at hi⊢;rcases hi with h1|h1|h1|⟨q,h1,h2⟩|⟨q,h1,h2⟩
 .exact .inl (.inl h1)
 .exact .inl (.inr (.inl h1))
 .exact .inl (.inr (.inr (.inl h1)))
 .exact .inl (.inr (.inr (.inr ⟨q,A0 h1,h2⟩)))
 .rcases h1 with rfl|h1
  .exact .inr h2
  .exact .inl (.inr (.inr (.inr ⟨q,Bu h1,h2⟩)))
def tn{kv:Aa}{l:List Int}{k:Nat}(hk:JJ h kv l)(YX:k<=l.length)(hb:l.length<=1000000000)(y:Int):
  ∃h1,DS .zB h [kv,I (k:Int),.sl 1 [[I y]]]=some (h1,.C3 h.length 0 (l.length+1) 1)/\h1[h.length]?=some (.cells ((l.take k++y::l.drop k).map (Aa.int .i64)))/\(∀i,i<h.length->Hp kv≠some i->h1[i]?=h[i]?)/\h1.length=h.length+1:=by
 rcases hk with⟨rfl,rfl⟩|⟨id,cs,rfl,hc⟩
 .have:k=0:=by simpa using YX
  subst this;exact⟨h++[.cells [I y]],rfl,Ax,λi hi _=>An hi,Ax⟩
 .have HV:=(Aj.1 hc).1;refine⟨h.set id .DF++[.cells ((l.take k++y::l.drop k).map (Aa.int .i64))],?_,by rw[BI Ax];simp,λi hi hn=>?_,Ax⟩
  .simp only[DS,PQ,hc];rw[Af (by have:AO=140737488355328:=rfl;simp;omega)];simp only[BD];have c:(l.map (Aa.int .i64)++cs).take k=(l.take k).map (Aa.int .i64):=by rw[Du (by simpa using YX),HQ]
   have b:(l.map (Aa.int .i64)++cs).take l.length=l.map (Aa.int .i64):=IX Ax;rw[c,b];simp
  .rw[An (by simpa using hi),Ao];intro e;exact hn (by rw[e];rfl)
def Qc{p b:Int}(hf:¬aAo A p x b):A.Ie p x b=A:=by unfold Ar.Ie;rw[Ad hf]
def tq{l:List Int}{b y:Int}{k:Nat}(hb:b=0->k=l.length)(h2:b≠0->l.takeWhile (λy=>decide (y≠b))=l.take k/\l.dropWhile (λy=>decide (y≠b))=l.drop k):Mv l b y=l.take k++y::l.drop k:=by
 unfold Mv;by_cases h0:b=0;.rw[Af h0,hb h0];simp
 .rw[Ad h0,(h2 h0).1,(h2 h0).2]
open Classical in
def Ļ{e p b:Int}(w:PA h a n m ps A)(d:Mh A)(ok:EZ A e):
  ∃Z h' Mi,B9 cx 73 [Pt a 0,I p,I x,I b] h (I Z) h'/\PA h' a n m Mi (A.Ie p x b)/\Ew h (λi=>i∈Fu a n m ps) h' (λi=>i∈Fu a n m Mi):=by
 by_cases gp:A.has p/\A.has x;rotate_left;.refine⟨3,h,ps,?_,by rw[Qc (λf=>gp ⟨f.hp,f.hn⟩)];exact w,.refl⟩;rw[Ag,Ps,M_];simp only[abS,Fl,(Lc (x:=p) (y:=x) w).Ac,Ad gp,Cy,(AM:¬(3:Int)=0)]
 obtain⟨hp,hx⟩:=gp;by_cases hb:b≠0/\¬A.has b;.refine⟨3,h,ps,?_,by rw[Qc (λf=>hb.2 (f.hb hb.1).1)];exact w,.refl⟩;rw[Ag,Ps,M_];simp only[abS,Fl,(Lc (x:=p) (y:=x) w).Ac,Af (And.intro hp hx),Cy,Cn,hb.1,(Va (x:=b) w).Ac,Ak hb.2,EV]
 have S6:b=0\/(b≠0/\A.has b):=by
  by_cases h0:b=0;.exact .inl h0
  .refine .inr ⟨h0,?_⟩;by_cases h1:A.has b;.exact h1
   .exact absurd ⟨h0,h1⟩ hb
 by_cases kp:Ow (A.nd p).kind;rotate_left
 .refine⟨4,h,ps,?_,by rw[Qc (λf=>kp f.kp)];exact w,.refl⟩;unfold Ow at kp;have c:¬(A.nd p).kind=1:=λe=>kp (.inl e);have s:¬(A.nd p).kind=2:=λe=>kp (.inr (.inl e));have E:¬(A.nd p).kind=4:=λe=>kp (.inr (.inr e));rw[Ag,Ps,M_];rcases S6 with h0|⟨h0,Qk⟩
  .simp only[abS,Fl,(Lc (x:=p) (y:=x) w).Ac,Af (And.intro hp hx),Cy,Cn,(Ij w d hp).Ac,(Ij w d hx).Ac,w.f0 hp,w.f0 hx,c,EV,h0,s,E]
  .simp only[abS,Fl,(Lc (x:=p) (y:=x) w).Ac,Af (And.intro hp hx),Cy,Cn,(Ij w d hp).Ac,(Ij w d hx).Ac,w.f0 hp,w.f0 hx,c,EV,h0,(Va (x:=b) w).Ac,Al Qk,s,E]
 by_cases kn:(A.nd x).kind=1\/(A.nd x).kind=2
 .refine⟨4,h,ps,?_,by rw[Qc (λf=>by have:=f.kn;omega)];exact w,.refl⟩;rw[Ag,Ps,M_];rcases kp with c|c|c<;>rcases kn with s|s<;>rcases S6 with h0|⟨h0,Qk⟩
  all_goals first|(simp only[abS,Fl,(Lc (x:=p) (y:=x) w).Ac,Af (And.intro hp hx),Cy,Cn,(Ij w d hp).Ac,(Ij w d hx).Ac,w.f0 hp,w.f0 hx,c,(AM:¬(2:Int)=1),(AM:¬(4:Int)=1),(AM:¬(4:Int)=2),EV,h0,s];done)|simp only[abS,Fl,(Lc (x:=p) (y:=x) w).Ac,Af (And.intro hp hx),Cy,Cn,(Ij w d hp).Ac,(Ij w d hx).Ac,w.f0 hp,w.f0 hx,c,(AM:¬(2:Int)=1),(AM:¬(4:Int)=1),(AM:¬(4:Int)=2),EV,h0,(Va (x:=b) w).Ac,Al Qk,s]
 have g:¬(A.nd x).kind=1:=λe=>kn (.inl e);have ļ:¬(A.nd x).kind=2:=λe=>kn (.inr e);have q:=aGj w ok hx hp;by_cases re:Reach A x p
 .refine⟨4,h,ps,?_,by rw[Qc (λf=>f.re re)];exact w,.refl⟩;rw[Al re] at q;rw[Ag,Ps,M_];rcases kp with c|c|c<;>rcases S6 with h0|⟨h0,Qk⟩
  all_goals first|(simp only[abS,Fl,(Lc (x:=p) (y:=x) w).Ac,Af (And.intro hp hx),Cy,Cn,(Ij w d hp).Ac,(Ij w d hx).Ac,w.f0 hp,w.f0 hx,c,(AM:¬(2:Int)=1),(AM:¬(4:Int)=1),(AM:¬(4:Int)=2),EV,h0,g,ļ,q.Ac];done)|simp only[abS,Fl,(Lc (x:=p) (y:=x) w).Ac,Af (And.intro hp hx),Cy,Cn,(Ij w d hp).Ac,(Ij w d hx).Ac,w.f0 hp,w.f0 hx,c,(AM:¬(2:Int)=1),(AM:¬(4:Int)=1),(AM:¬(4:Int)=2),EV,h0,(Va (x:=b) w).Ac,Al Qk,g,ļ,q.Ac]
 rw[Ak re] at q;by_cases o:b≠0/\(b=x\/(A.nd b).Hi≠p)
 .refine⟨5,h,ps,?_,by rw[Qc (λf=>by have:=f.hb o.1;rcases o.2 with h|h;exact this.2.1 h;exact h this.2.2)];exact w,.refl⟩;obtain⟨h0,o⟩:=o;have Qk:=(S6.resolve_left h0).2;rw[Ag,Ps,M_];by_cases l:b=x;.have aQW:=l;rcases kp with c|c|c<;>simp only[abS,Fl,(Lc (x:=p) (y:=x) w).Ac,Af (And.intro hp hx),Cy,Cn,(Ij w d hp).Ac,(Ij w d hx).Ac,w.f0 hp,w.f0 hx,c,(AM:¬(2:Int)=1),(AM:¬(4:Int)=1),(AM:¬(4:Int)=2),EV,g,ļ,q.Ac,l,show¬x=0 from l▸h0,Al hx,(Va (x:=x) w).Ac]
  .have o:=o.resolve_left l;rcases kp with c|c|c<;>simp only[abS,Fl,(Lc (x:=p) (y:=x) w).Ac,Af (And.intro hp hx),Cy,Cn,(Ij w d hp).Ac,(Ij w d hx).Ac,w.f0 hp,w.f0 hx,c,(AM:¬(2:Int)=1),(AM:¬(4:Int)=1),(AM:¬(4:Int)=2),EV,h0,(Va (x:=b) w).Ac,Al Qk,g,ļ,q.Ac,l,(Ij w d Qk).Ac,w.f1 Qk,o]
 have fits:aAo A p x b:=⟨hp,hx,λh0=>⟨(S6.resolve_left h0).2,λe=>o ⟨h0,.inl e⟩,by
  by_cases h1:(A.nd b).Hi=p;.exact h1
  .exact absurd ⟨h0,.inr h1⟩ o⟩,kp,⟨g,ļ⟩,re⟩
 have X:A.Ie p x b=(A.cut x).MI p x b:=by unfold Ar.Ie;rw[Af fits]
 obtain⟨h1,Yz,O,w1,S⟩:=Ĺ w d ok hx;have ZJ:=bW ok hx ļ;have ı:=d.cut (x:=x);have pM:(A.cut x).has p:=NT.2 hp;have Rw:(A.cut x).has x:=NT.2 hx;have H:x≠p:=by rintro rfl;exact re .refl
 have į:=ı.Bw ZJ p;obtain⟨k,YX,B,ym⟩:∃k,k<=((A.cut x).nd p).Bw.length/\(b=0->k=((A.cut x).nd p).Bw.length)/\(b≠0->Cc (λy=>decide (b=y)) 0 ((A.cut x).nd p).Bw=(k:Int)/\((A.cut x).nd p).Bw.takeWhile (λy=>decide (y≠b))=((A.cut x).nd p).Bw.take k/\((A.cut x).nd p).Bw.dropWhile (λy=>decide (y≠b))=((A.cut x).nd p).Bw.drop k):=by
  by_cases h0:b=0;.exact⟨_,Ae _,λ_=>rfl,λh=>absurd h0 h⟩
  .have t:=fits.hb h0;have aGr:((A.cut x).nd b).Hi=p:=by
    rw[Xb ok hx,Ad t.2.1];split;.exact t.2.2
    .exact t.2.2
   have Ý:b∈((A.cut x).nd p).Bw:=by have:=(ZJ.Hi b (NT.2 t.1) (by rw[aGr];have:=hp.1;omega)).2;rwa [aGr] at this
   obtain⟨k,c,s,_,E,V⟩:=dQ Ý;exact⟨k,Ab,λh=>absurd h h0,λ_=>⟨s,E,V⟩⟩
 have MP:=tq (y:=x) B λh=>(ym h).2;have PZ:=w1.PZ pM;obtain⟨h2,L,KX,rQ,lS⟩:=tn PZ YX į x;have J:=(w1.pn pM).2.1;obtain⟨r,á⟩:∃r:PN,r=⟨{(A.cut x).nd p with Bw:=Mv ((A.cut x).nd p).Bw b x},.C3 h1.length 0 (((A.cut x).nd p).Bw.length+1) 1,(pN Yz p).av,w1.att pM⟩:=⟨_,rfl⟩;have z:r.x={(A.cut x).nd p with Bw:=Mv ((A.cut x).nd p).Bw b x}:=by rw[á]
 have hrow:r.row=(pN Yz p).row.set 2 (.C3 h1.length 0 (((A.cut x).nd p).Bw.length+1) 1):=by rw[á];simp only[PN.row];rw[J];rfl
 have aGs:n∈Fu a n m Yz:=by simp[Fu]
 have K:Hp (pN Yz p).kv≠some n:=by intro D;have:=w1.nd;unfold Fu at this;simp only[B3,AG,Oi] at this;exact this.2.1 (Ap.2 (.inr (Cb.2 ⟨_,(w1.pn pM).2.2,D⟩)))
 have G:=w1.sto pM (k:=2) AM (v:= .C3 h1.length 0 (((A.cut x).nd p).Bw.length+1) 1) rfl hrow (rQ n (w1.lt n aGs) K);have hlen:(Mv ((A.cut x).nd p).Bw b x).length=((A.cut x).nd p).Bw.length+1:=by rw[MP,Aq,AJ,AB,Bg];omega
 have u:=w1.fq pM (p:=r) (h1:=h2) (λi hi hn=>rQ i (w1.lt i hi) hn) (by rw[á];refine .inr ⟨h1.length,[],by simp only[hlen],?_⟩;simp only[MP,BB];exact KX) (.inr λj hj=>by rw[á] at hj;cases hj;exact Ae _)
 have Wj:∀i,i∈Fu a n m (Yz.set (p.toNat-1) r)->i∈Fu a n m Yz\/i=h1.length:=by
  intro i hi;rcases jU w1 pM hi with h|h
  .exact .inl h
  .rw[á] at h;cases h;exact .inr rfl
 generalize C:h2.set n (.cells ((Yz.set (p.toNat-1) r).map PN.row).flatten)=Y at G u;generalize aQZ:Yz.set (p.toNat-1) r=tj at u Wj;rw[z] at u;have Yl:((A.cut x).set p {(A.cut x).nd p with Bw:=Mv ((A.cut x).nd p).Bw b x}).has x:=I1.2 Rw;have eV:((A.cut x).set p {(A.cut x).nd p with Bw:=Mv ((A.cut x).nd p).Bw b x}).nd x=(A.cut x).nd x:=by rw[JF,Ad (λh=>H h.1)]
 have gp:=(u.pn Yl).2.1;obtain⟨Q,M,T,W,U,l4⟩:=u.wr Yl (k:=1) AM (v:= I p) rfl (p:=⟨{(A.cut x).nd x with Hi:=p},(pN tj x).kv,(pN tj x).av,by have:=(pN tj x).ok;rw[gp,eV] at this;exact this⟩) (by simp only[PN.row];rw[gp,eV];rfl) rfl (B2 GQ.Bw eV).symm;have aGt:(A.cut x).MI p x b=((A.cut x).set p {(A.cut x).nd p with Bw:=Mv ((A.cut x).nd p).Bw b x}).set x {(A.cut x).nd x with Hi:=p}:=by unfold Ar.MI;simp only;rw[eV]
 refine⟨0,Q,_,?_,by rw[X,aGt];exact T,?_⟩
 .rw[Ag,Ps,M_];by_cases h0:b=0;.rw[B h0] at L;have kl:=PZ.len;rcases kp with c|c|c<;>simp only[abS,Fl,(Lc (x:=p) (y:=x) w).Ac,Af (And.intro hp hx),Cy,Cn,(Ij w d hp).Ac,(Ij w d hx).Ac,w.f0 hp,w.f0 hx,c,(AM:¬(2:Int)=1),(AM:¬(4:Int)=1),(AM:¬(4:Int)=2),EV,h0,g,ļ,q.Ac,O.Ac,w1.f2 pM,kl,Gk,L,G,M]
  .have t:=fits.hb h0;have Qk:=t.1;have N:=aCH PZ.Vb į b;rw[(ym h0).1] at N;have kl:=PZ.len;rcases kp with c|c|c<;>simp only[abS,Fl,(Lc (x:=p) (y:=x) w).Ac,Af (And.intro hp hx),Cy,Cn,(Ij w d hp).Ac,(Ij w d hx).Ac,w.f0 hp,w.f0 hx,c,(AM:¬(2:Int)=1),(AM:¬(4:Int)=1),(AM:¬(4:Int)=2),EV,h0,(Va (x:=b) w).Ac,Al Qk,g,ļ,q.Ac,t.2.1,(Ij w d Qk).Ac,w.f1 Qk,t.2.2,O.Ac,w1.f2 pM,kl,N.Ac,Gk,L,G,M]
 .have sG:Y.length=h1.length+1:=by rw[<-C,BV,lS]
  have R:Ew h1 (λi=>i∈Fu a n m Yz) Q (λi=>i∈Fu a n m (tj.set (x.toNat-1) ⟨{(A.cut x).nd x with Hi:=p},(pN tj x).kv,(pN tj x).av,by have:=(pN tj x).ok;rw[gp,eV] at this;exact this⟩)):=by
   refine⟨Ab,λi hi eX=>?_,λi hi=>?_⟩;.have P:i≠n:=λD=>eX (D▸aGs);rw[U i P,<-C,Ao (Dx P)];exact rQ i hi λD=>eX (KK (w1.pn pM).2.2 D)
   .rw[W] at hi;rcases Wj i hi with h|h
    .exact .inl h
    .exact .inr Ab
  exact S.trans R
end
def Pw(a:Nat)(b:BS)(o c t:Aa):List Aa:=[Pt a 0,I b.CK,o,c,I b.mode,I b.OE,t,I b.head,I b.HP,.bool b.Po,I b.ctx.node,I b.ctx.A6,.str b.ctx.name,.bool b.ctx.Ot,.bool b.fs,.bool b.FT,.str b.b_,.bool b.skip,I b.sw,.bool b.stop]
structure BX(h:Ai)(bi a:Nat)(o c t:Aa)(G:Nat->Prop)(b:BS):Prop where
 hb:h[bi]?=some (.cells (Pw a b o c t))
 o:Ds b.AK o
 t:GI b.tm t
 w:PW h G a b.a
 nb:¬G bi
section
variable{h:Ai}{bi a:Nat}{o c t:Aa}{G F:Nat->Prop}{b:BS}{x:Int}{m:Nat}
def BX.lt(w:BX h bi a o c t G b):bi<h.length:=(Aj.1 w.hb).1
def BX.DQ{h':Ai}(w:BX h bi a o c t G b)(hf:∀i,i=bi\/G i->h'[i]?=h[i]?):BX h' bi a o c t G b:=
 ⟨by rw[hf bi (.inl rfl)];exact w.hb,w.o,w.t,w.w.DQ λi hi=>hf i (.inr hi),w.nb⟩
def BX.JX(w:BX h bi a o c t G b){u:Ai}:BX (h++u) bi a o c t G b:=w.DQ λi hi=>An (by rcases hi with rfl|hi;exact w.lt;exact w.w.lt hi)
def BX.ld(w:BX h bi a o c t G b)(k:Nat):Bj h none (Pt bi k)=(Pw a b o c t)[k]?:=by simp only[Bj,w.hb,Gr]
def BX.l0(w:BX h bi a o c t G b):Bj h none (Pt bi 0)=some (Pt a 0):=w.ld 0
def BX.l1(w:BX h bi a o c t G b):Bj h none (Pt bi 1)=some (I b.CK):=w.ld 1
def BX.l4(w:BX h bi a o c t G b):Bj h none (Pt bi 4)=some (I b.mode):=w.ld 4
def BX.l7(w:BX h bi a o c t G b):Bj h none (Pt bi 7)=some (I b.head):=w.ld 7
def BX.l9(w:BX h bi a o c t G b):Bj h none (Pt bi 9)=some (.bool b.Po):=w.ld 9
def BX.Ľ(w:BX h bi a o c t G b):Bj h none (Pt bi 15)=some (.bool b.FT):=w.ld 15
def BX.l3(w:BX h bi a o c t G b):Bj h none (Pt bi 3)=some c:=w.ld 3
def BX.l6(w:BX h bi a o c t G b):Bj h none (Pt bi 6)=some t:=w.ld 6
def BX.atO(w:BX h bi a o c t G b):At h bi 2 o:=⟨_,w.hb,rfl⟩
def BX.pO(w:BX h bi a o c t G b):At h bi 3 c:=⟨_,w.hb,rfl⟩
def BX.sO(w:BX h bi a o c t G b):Lp h bi 2 b.AK:=⟨o,w.atO,w.o⟩
def BX.sA(w:BX h bi a o c t G b):bg h (Pt bi 2) b.AK:=w.sO.at
def HT(w:BX h bi a o c t G b):B9 cx 87 [Pt bi 0] h (.bool true) h:=by rw[Ag,qw,t87];simp only[abS,w.l0]
def PW.pa{A:Ar}(w:PW h G a A):∃n m ps,PA h a n m ps A:=let⟨n,m,ps,w,_⟩:=w;⟨n,m,ps,w⟩
def Vc(w:BX h bi a o c t G b)(ok:EI b)(rm:Cx b m)(x:Int):∃K V u,B9 cx 94 [Pt bi 0,I x] h (.agg [I (b.a.nd x).kind,I (b.a.nd x).Hi,K,I (b.a.nd x).CK,I (b.a.nd x).A6,.str (b.a.nd x).name,V,.str (b.a.nd x).data,.str (b.a.nd x).JV,.str (b.a.nd x).sys,.bool (b.a.nd x).CS,I (b.a.nd x).cont,I (b.a.nd x).EG]) (h++u)/\GI (b.a.nd x).Bw K/\Ky (h++u) V (b.a.nd x).Au/\Up h.length V:=by obtain⟨n,m',ps,d⟩:=w.w.pa;obtain⟨r,u,e,K,V,rfl,g,f⟩:=aCG (x:=x) d rm.UZ (rm.UZ.Bw ok.ok x);refine⟨K,V,u,?_,g,f⟩;rw[Ag,qx,t94];simp only[abS,w.l0,e.Ac]
def aCL(w:BX h bi a o c t G b)(rm:Cx b m):B9 cx 155 [Pt bi 0] h (.agg (E3 b.AK).row) h:=by have:=rm.AK;rw[Ag,uK,aBf];simp only[abS,Jr,(HT w).Ac,(f39 w.sA Ab).Ac]
def aGu(w:BX h bi a o c t G b)(ok:EI b)(rm:Cx b m):B9 cx 188 [Pt bi 0] h (.tuple [I b.MQ.1,I b.MQ.2]) h:=by
 have hl:=rm.AK;obtain⟨n,m',ps,g⟩:=w.w.pa;have f:=f144 w.sA (Ab:b.AK.length<=1000000000) IG;have r2:=f144 w.sA (Ab:b.AK.length<=1000000000) Bc;have b1:=NX (q:=Be [IG]) (l:=b.AK);have b2:=NX (q:=Be [Bc]) (l:=b.AK);unfold BS.MQ;simp only
 generalize AX (Be [IG]) b.AK=d at f b1⊢;generalize AX (Be [Bc]) b.AK=i at r2 b2⊢;rw[Ag,vD,aBz];simp only[Cf,f.Ac,r2.Ac];refine⟨λh1=>?_,λh1=>⟨λh2=>?_,λh2=>?_⟩⟩;.rw[Af h1];simp only[Cf,Jr,(U7 w.sA i).Ac]
 .rw[Ad h1,Af h2];simp only[Cf,Jr,(U7 w.sA 0).Ac]
 .rw[Ad h1,Ad h2];simp only[abS,Jr,(U7 w.sA d).Ac,w.l0,(aF6 (x:=(DJ b.AK d).node) g rm.UZ).Ac];refine⟨λe=>?_,λe=>?_⟩;.rw[Af e]
  .rw[Ad e];have j:(if d-1<0 then 0 else d-1)=max (d-1) 0:=Ab;simp only[Cf,Jr,DI (Ab: -9223372036854775808<=d-1) (Ab:d-1<9223372036854775808),bI,j,(U7 w.sA (max (d-1) 0)).Ac]
def ZK:Az (.Ch 1) [S IG,S oM,S oN,S oO,S wTr]=some (.sl 1 (I7.map Ca)):=El (ws:=I7) rfl AM
def pP{v:Aa}{ws:List Ah}(hv:HN ws v)(hn:ws.length<=1000000000)(a:Item)(h:Ai):B9 cx 133 [.agg a.row,v] h (.bool (Be ws a)) h:=by rw[Ag,tY,aA4];simp only[Cf,Jr,(Ú hv hn _ h).Ac,Be];refine⟨λh1=>by simp[h1],λh1=>by simp[h1]⟩
def tr{A:Ar}{x:Int}(hk:(A.nd x).kind=4)(ws:List Ah):Be ws ⟨0,(A.nd x).A6,(A.nd x).name,false⟩=decide (lU ws A x):=by
 by_cases h:lU ws A x;.rw[Al h];unfold Be;rw[Al];exact⟨h.2.1,h.2.2⟩
 .rw[Ak h];unfold Be;rw[Ak];exact λh2=>h ⟨hk,h2.1,h2.2⟩
def â(w:BX h bi a o c t G b)(ok:EI b)(rm:Cx b m)(x:Int):∃u,B9 cx 93 [Pt bi 0,I x] h (.tuple [I (b.place x).1,I (b.place x).2]) (h++u):=by
 have hl:=rm.AK;by_cases z:x=0/\b.AK=[]
 .refine⟨[],?_⟩;have A:b.place x=(b.CK,0):=by unfold BS.place;rw[Af z]
  rw[A,BB,Ag,pC,t93];simp only[abS,(HT w).Ac,z.1,z.2,Cn,(TG w.sA).Ac,Int.natCast_zero,w.l1]
 .obtain⟨t',ht⟩:∃t',t'=if x=0 then(E3 b.AK).node else x:=⟨_,rfl⟩
  obtain⟨U,R,q,P,_,_⟩:=Vc w ok rm t';have w1:=w.JX (u:=q);have A:b.place x=if(b.a.nd (if b.FT=true/\lU I7 b.a t' then b.MQ else(t',0)).1).cont≠0 then((b.a.nd (if b.FT=true/\lU I7 b.a t' then b.MQ else(t',0)).1).cont,0) else if b.FT=true/\lU I7 b.a t' then b.MQ else(t',0):=by unfold BS.place;rw[Ad z,<-ht]
  obtain⟨pb,oq⟩:∃pb,pb=if b.FT=true/\lU I7 b.a t' then b.MQ else(t',0):=⟨_,rfl⟩
  rw[<-oq] at A;obtain⟨T,Q,L,r2,_,_⟩:=Vc w1 ok rm pb.1;have O:=aGu w1 ok rm;have r:=pP (ws:=I7) CP AM ⟨0,(b.a.nd t').A6,(b.a.nd t').name,false⟩ (h++q);have em:∀s n,Az (.B6 [I 0,I 0,S [],ff] [(1,1),(2,1)]) [I s,.str n]=some (.agg (Item.row ⟨0,s,n,false⟩)):=λ_ _=>rfl;refine⟨q++L,?_⟩;rw[<-AS];have last:∀(y:Int×Int),y=pb->W cx (.call 94 [Pt bi 0,I y.1] λl=> .cells 13 l λd=> .op (.int .neq) [g d 11,I 0] λk=> .AD k (.ret .ret [.tuple [g d 11,I 0]]) (.ret .ret [.tuple [I y.1,I y.2]])) (λj vs h1=>j=FG.ret/\vs=[.tuple [I (b.place x).1,I (b.place x).2]]/\h1=h++q++L) (h++q):=by
   rintro _ rfl;rw[A];simp only[Cf,r2.Ac];refine⟨λh1=>?_,λh1=>?_⟩;.rw[Af h1]
   .rw[Ad h1]
  rw[Ag,pC,t93];have Ľ:=w1.Ľ;have mid:W cx (.call 94 [Pt bi 0,I t'] λK=> .cells 13 K λp=> .FZ 200009 (.op .LF [Pt bi 0] λJ=> .op (.Fb 15) [J] λv16=> .load none v16 λH=> .AD H (.op (.int .eql) [g p 0,I 4] λE=> .AD E (.op (.B6 [I 0,I 0,S [],ff] [(1,1),(2,1)]) [g p 4,g p 5] λD=> .op (.Ch 1) [S aTO,S aUn,S aUm,S aUo,S [116,114]] λv20=> .call 133 [D,v20] λC=> .ret .normal [C]) (.ret .normal [ff])) (.ret .normal [ff])) (λx N=>match x with
    | .normal=> .FZ 100046 (.AD (g N 0) (.call 188 [Pt bi 0] λv23=> .op (.ext 0) [v23] λv24=> .op (.ext 1) [v23] λB=> .ret .normal [v24,B]) (.ret .normal [I t',I 0])) (λx f=>match x with
     | .normal=> .call 94 [Pt bi 0,g f 0] λl=> .cells 13 l λd=> .op (.int .neq) [g d 11,I 0] λk=> .AD k (.ret .ret [.tuple [g d 11,I 0]]) (.ret .ret [.tuple [g f 0,g f 1]])
     | .exit i=> .fail
     | .ret=> .ret .ret [.tuple [g f 0,g f 1]])
    | .exit i=> .fail
    | .ret=> .ret .ret [.tuple [I t',I 0]])) (λj vs h1=>j=FG.ret/\vs=[.tuple [I (b.place x).1,I (b.place x).2]]/\h1=h++q++L) h:=by
   rw[P.Ac];by_cases hf:b.FT=true
   .rw[hf] at Ľ;by_cases v:(b.a.nd t').kind=4
    .rw[tr v] at r;by_cases hw:lU I7 b.a t';.rw[Al hw] at r;rw[Af ⟨hf,hw⟩] at oq;have:=last b.MQ oq.symm;simp only[abS,Ľ,v,em,ZK,r.Ac,O.Ac];simpa only[Cf,bK,AJ,Bt] using this
     .rw[Ak hw] at r;rw[Ad (λh=>hw h.2)] at oq;have:=last (t',0) oq.symm;simp only[abS,Ľ,v,em,ZK,r.Ac];simpa only[Cf,bK,AJ,Bt] using this
    .rw[Ad (λh=>v h.2.1)] at oq;have:=last (t',0) oq.symm;simp only[abS,Ľ,v];simpa only[Cf,bK,AJ,Bt] using this
   .rw[Ad (λh=>hf h.1)] at oq;have:=last (t',0) oq.symm;rw[show b.FT=false by simpa using hf] at Ľ;simp only[Cf,Ľ];simpa only[Cf,bK,AJ,Bt] using this
  by_cases h0:x=0
  .have hne:b.AK≠[]:=λe=>z ⟨h0,e⟩;have M:¬((b.AK.length:Nat):Int)=0:=by have:=Fa.2 hne;omega
   rw[Af h0] at ht;rw[ht] at mid;simp only[abS,(HT w).Ac];rw[h0] at mid⊢;simp only[abS,Jr,(TG w.sA).Ac,M,(aCL w rm).Ac] at mid⊢;exact mid
  .rw[Ad h0] at ht;rw[ht] at mid;simp only[abS,(HT w).Ac,h0,E8] at mid⊢;exact mid
end
section
def de{Q:J7}{h:Ai}{k:Aa->IT}:W cx (.MX k) Q h↔W cx (k (.map (some h.length))) Q (h++[.map (ft 0)]):=Q2
section
variable{v:Aa}{l:List A3}{h:Ai}
def aLh(hv:Bb l v)(hb:l.length<=1000)(sp:Int):∃u,B9 cx 171 [I sp,v] h u (h++[.map (ft 11)])/\Bb (l.map (DY sp)) u:=by
 have Gm:Bv 3 (l.map A3.row) v:=hv;have O5:Ev cx 171 [I sp,v] h λr h'=>h'=h++[.map (ft 11)]/\Bb (l.map (DY sp)) r:=by
  unfold Ev;rw[uY,aBs];rw[de];simp only[Cf,Nat.reduceLeDiff,↓reduceIte,Br,Fi,oD,aFi,aFj,aFk,aFl,aFm,aFn,aFo,aFp,aFq,aFr,aAl,Gm.F0];refine BM (λp:Nat×Aa=>[p.2,I (p.1:Int)]) (λp h1=>p.1<=l.length/\Bb ((l.take p.1).map (DY sp)) p.2/\h1=h++[.map (ft 11)]) (λp=>l.length-p.1) (0,.slnil) rfl ⟨A7 _,.nil,rfl⟩ ?_;rintro⟨n,u⟩ h1 ⟨hn,hu,rfl⟩;simp only at hn hu;rcases Bi n l.length with hlt|GX
  .have i1:(n:Int)<(l.length:Int):=by omega
   have IM:∀{q:List Aa},q=(DY sp l[n]).row->∃w,Az (.append 3 40) [u,.sl 3 [q]]=some w/\Bb ((l.take (n+1)).map (DY sp)) w:=by
    rintro _ rfl;refine⟨_,Bv.Zw (f:=A3.row) (a:=DY sp l[n]) (b:=40) hu ?_,?_⟩;.simp[AO];omega
    .rw[AQ hlt,BU];exact .mk
   have inc:=CI (Ab:n<9223372036854775807);by_cases e:sp=2
   .subst e;cases c:Jm (DD l[n].name Nh) with
    |some x=>obtain⟨w,d,hw⟩:=IM (q:=[I x.1,.str x.2,.str l[n].value]) (by simp only[DY,Mu,true_or,BE,c,A3.row]);simp only[Cf,Nat.reduceLeDiff,↓reduceIte,Br,i1,Gm.Df hlt,Fi,A3.row,(aFQ _).Bn rfl rfl,AU,AP,AH,LU,c,LV,d,inc];exact Bq.next (n+1,w) rfl ⟨hlt,hw,rfl⟩ Gx
    |none=>obtain⟨w,d,hw⟩:=IM (q:=[I 0,.str (DD l[n].name Nh),.str l[n].value]) (by simp only[DY,Mu,true_or,BE,c,A3.row]);simp only[Cf,Nat.reduceLeDiff,↓reduceIte,Br,i1,Gm.Df hlt,Fi,A3.row,(aFQ _).Bn rfl rfl,AU,AP,AH,LU,c,LV,d,inc];exact Bq.next (n+1,w) rfl ⟨hlt,hw,rfl⟩ Gx
   by_cases g:sp=3
   .subst g;by_cases hd:l[n].name=aFs
    .have c:Jm aAm=none:=by decide
     obtain⟨w,d,hw⟩:=IM (q:=[I 0,.str aAm,.str l[n].value]) (by simp only[DY,Mu,hd,or_true,BE,DU,c,A3.row,lJ,e]);simp only[Cf,Nat.reduceLeDiff,↓reduceIte,Br,i1,Gm.Df hlt,Fi,A3.row,hd,(AM:¬(3:Int)=2),AU,AV,AP,AH,LU,c,LV,d,inc];exact Bq.next (n+1,w) rfl ⟨hlt,hw,rfl⟩ Gx
    .cases c:Jm l[n].name with
     |some x=>obtain⟨w,d,hw⟩:=IM (q:=[I x.1,.str x.2,.str l[n].value]) (by simp only[DY,Mu,hd,or_true,BE,DU,c,A3.row,Ň,e]);simp only[Cf,Nat.reduceLeDiff,↓reduceIte,Br,i1,Gm.Df hlt,Fi,A3.row,hd,(AM:¬(3:Int)=2),AU,AV,AP,AH,LU,c,LV,d,inc];exact Bq.next (n+1,w) rfl ⟨hlt,hw,rfl⟩ Gx
     |none=>obtain⟨w,d,hw⟩:=IM (q:=[I 0,.str l[n].name,.str l[n].value]) (by simp only[DY,Mu,hd,or_true,BE,DU,c,A3.row,Ň,e]);simp only[Cf,Nat.reduceLeDiff,↓reduceIte,Br,i1,Gm.Df hlt,Fi,A3.row,hd,(AM:¬(3:Int)=2),AU,AV,AP,AH,LU,c,LV,d,inc];exact Bq.next (n+1,w) rfl ⟨hlt,hw,rfl⟩ Gx
   .obtain⟨w,d,hw⟩:=IM (q:=[I 0,.str l[n].name,.str l[n].value]) (by simp only[DY,e,g,or_self,DU,A3.row]);cases c:Jm l[n].name with
    |some x=>simp only[Cf,Nat.reduceLeDiff,↓reduceIte,Br,i1,Gm.Df hlt,Fi,A3.row,e,g,AU,AV,AP,AH,LU,c,LV,d,inc];exact Bq.next (n+1,w) rfl ⟨hlt,hw,rfl⟩ Gx
    |none=>simp only[Cf,Nat.reduceLeDiff,↓reduceIte,Br,i1,Gm.Df hlt,Fi,A3.row,e,g,AU,AV,AP,AH,LU,c,LV,d,inc];exact Bq.next (n+1,w) rfl ⟨hlt,hw,rfl⟩ Gx
  .have i1:¬(n:Int)<(l.length:Int):=by omega
   rw[A8 GX] at hu;simp only[Cf,Nat.reduceLeDiff,↓reduceIte,Br,i1,AV,AP,AH];exact⟨_,rfl,hu⟩
 obtain⟨r,h',hr,rfl,hu⟩:=O5.ret;exact⟨r,hr,hu⟩
end
end
def BK(bi:Nat)(G:Nat->Prop):Nat->Prop:=λi=>i=bi\/G i
section
variable{h h':Ai}{bi a:Nat}{o c t:Aa}{G G' F:Nat->Prop}{b:BS}{x:Int}{m:Nat}
def Ew.aGx(x:Ew h G h' G'):Ew h (Am.BK bi G) h' (Am.BK bi G'):=⟨x.len,λi hi hn=>x.old i hi λhg=>hn (.inr hg),λi hi=>by
 rcases hi with rfl|hi
 .exact .inl (.inl rfl)
 .rcases x.BK i hi with h|h
  .exact .inl (.inr h)
  .exact .inr h⟩
def BX.aGy{A':Ar}(w:BX h bi a o c t G b)(hp:PW h' G' a A')(x:Ew h G h' G'):BX h' bi a o c t G' {b with a:=A'}/\Ew h (BK bi G) h' (BK bi G'):=
 ⟨⟨by rw[x.old bi w.lt w.nb];exact w.hb,w.o,w.t,hp,λhg=>by rcases x.BK bi hg with h|h;exact w.nb h;have:=w.lt;omega⟩,x.aGx⟩
def BX.step{A':Ar}{R:Ai->Prop}(w:BX h bi a o c t G b)(d:∀n m ps,PA h a n m ps b.a->∃h' n' m' Mi,R h'/\PA h' a n' m' Mi A'/\Ew h (λi=>i∈Fu a n m ps) h' (λi=>i∈Fu a n' m' Mi)):
  ∃h' G',R h'/\BX h' bi a o c t G' {b with a:=A'}/\Ew h (BK bi G) h' (BK bi G'):=by
 obtain⟨n,m,ps,g,e⟩:=w.w;obtain⟨h',n',m',Mi,r,w',x⟩:=d n m ps g;have k:G=λi=>i∈Fu a n m ps:=funext λi=>propext (e i);obtain⟨j,f⟩:=w.aGy w'.pw (by rw[k];exact x);exact⟨h',_,r,j,f⟩
def BX.DZ(w:BX h bi a o c t G b){u:Ai}:Ew h (BK bi G) (h++u) (BK bi G):= .JX
def aGz{v:Aa}{l:List Int}{f:FuncId}{caps:List Aa}{q:Int->Bool}(hv:GI l v)(hb:l.length<=1000000000)(hf:f<=99999)(hq:∀k∈l,∀u,∃d,B9 cx f (I k::caps) (h++u) (.bool (q k)) (h++u++d)):
  ∃u,B9 cx 251 [v,.func (.func f) [] caps] h (I (Cc q 0 l)) (h++u):=by
 have Gm:Bv 1 (l.map DN) v:=hv;have O5:Ev cx 251 [v,.func (.func f) [] caps] h λr h'=>r= I (Cc q 0 l)/\∃u,h'=h++u:=by
  unfold Ev;rw[wZ,aCl];simp only[Cf,Gm.F0];refine BM (λk:Nat=>[I 0,I (k:Int)]) (λk h1=>k<=l.length/\Cc q 0 l=Cc q k (l.drop k)/\∃u,h1=h++u) (λk=>l.length-k) 0 rfl ⟨A7 _,rfl,[],Ax⟩ ?_;rintro k h1 ⟨hk,ha,u,rfl⟩;rcases Bi k l.length with hlt|GX
  .have i1:(k:Int)<(l.length:Int):=by omega
   have g:Bj (h++u) none (.BR (DN l[k]))=some (I l[k]):=rfl;obtain⟨d,e⟩:=hq _ (AY hlt) u;rw[Ay hlt,Cc] at ha;simp only[abS,↓reduceIte,CC,i1,Gm.Df hlt,g,hf,e.Ac,CI (Ab:k<9223372036854775807)];rw[Da];refine⟨λh2=>?_,λh2=>?_⟩;.exact⟨_,rfl,by rw[ha,Af h2],u++d,Ax⟩
   .rw[Ad (by simp[h2])] at ha;exact Bq.next (k+1) rfl ⟨hlt,ha,u++d,Ax⟩ Ab
  .have i1:¬(k:Int)<(l.length:Int):=by omega
   rw[AT GX,Cc] at ha;simp only[abS,↓reduceIte,CC,i1];exact⟨_,rfl,by rw[ha],u,rfl⟩
 obtain⟨r,h',hr,rfl,u,rfl⟩:=O5.ret;exact⟨u,hr⟩
def ã{l:List Int}{q:Int->Bool}:decide (0<=Cc q 0 l)=l.any q:=by
 rcases Gu (p:=q) (l:=l) (k:=0) with⟨h1,h2⟩|⟨n,y,h1,h2,d⟩
 .rw[h1,gu];have:=IJ.1 h2;simpa using this
 .rw[h1,gu];have f:=KZ d;have e:=Ht d;rw[Al Ab,J0];exact⟨y,e,f⟩
def BX.self(w:BX h bi a o c t G b){A':Ar}(e:A'=b.a):BX h bi a o c t G {b with a:=A'}:=by subst e;exact w
open Classical in
def jV{p bf:Int}(w:BX h bi a o c t G b)(ok:EI b)(rm:Cx b m):∃h' G',B9 cx 96 [Pt bi 0,I x,I p,I bf] h (.tuple []) h'/\BX h' bi a o c t G' {b with a:=b.a.If x p bf}/\Ew h (BK bi G) h' (BK bi G'):=by
 obtain⟨K1,Z,d,J,_,_⟩:=Vc w ok rm p;have w1:=w.JX (u:=d);have W:∀v,Aa.cells (.ptr v)=[.ptr v]:=λ_=>rfl;have HM:∀h2,(∃u,h2=h++u)->∃h' G',(∃s,B9 cx 73 [Pt a 0,I p,I x,I bf] h2 (I s) h')/\BX h' bi a o c t G' {b with a:=b.a.Ie p x bf}/\Ew h (BK bi G) h' (BK bi G'):=by
  rintro _ ⟨u,rfl⟩;have g:=w.JX (u:=u);obtain⟨h',G',r,w',x'⟩:=g.step (A':=b.a.Ie p x bf) (R:=λh'=>∃s,B9 cx 73 [Pt a 0,I p,I x,I bf] (h++u) (I s) h') (λn m ps P=>by obtain⟨s,h',Mi,r,wp,xp⟩:=Ļ P rm.UZ ok.ok (p:=p) (x:=x) (b:=bf);exact⟨h',n,m,Mi,⟨s,r⟩,wp,xp⟩)
  exact⟨h',G',r,w',w.DZ.trans x'⟩
 by_cases A:(b.a.nd p).kind=1
 .obtain⟨K2,Y,j,r2,_,_⟩:=Vc w1 ok rm x;have g:=w1.JX (u:=j);by_cases D:(b.a.nd x).kind=4
  .obtain⟨U,V,tj,M⟩:=g.w.pa;obtain⟨K,O,T⟩:=İ (x:=p) M rm.UZ (rm.UZ.Bw ok.ok p);obtain⟨H,S⟩:=aGz (h:=h++d++j) (f:=191) (caps:=[.BR [Pt bi 0]]) (q:=λk=>decide ((b.a.nd k).kind=4)) T (rm.UZ.Bw ok.ok p) AM (λk _ u=>by have E:=g.JX (u:=u);obtain⟨K3,X,Q,y,_,_⟩:=Vc E ok rm k;refine⟨Q,?_⟩;rw[Ag,vF,aBB];simp only[Cf,y.Ac])
   have i:B9 cx 189 [K,.func (.func 191) [] [.BR [Pt bi 0]]] (h++d++j) (.bool ((b.a.nd p).Bw.any λk=>decide ((b.a.nd k).kind=4))) (h++d++j++H):=by rw[Ag,vE,aBA,<-ã];simp only[Cf,S.Ac]
   have E:=g.JX (u:=H);by_cases L:∃k∈(b.a.nd p).Bw,(b.a.nd k).kind=4
   .have N:((b.a.nd p).Bw.any λk=>decide ((b.a.nd k).kind=4))=true:=by simpa using L
    rw[N] at i;have z:b.a.If x p bf=b.a:=by unfold Ar.If;rw[Af ⟨A,D,L⟩]
    refine⟨_,G,?_,E.self z,(w.DZ.trans w1.DZ).trans g.DZ⟩;rw[Ag,Xm,t96];simp only[abS,J.Ac,A,r2.Ac,D,g.l0,O.Ac,i.Ac]
   .have N:((b.a.nd p).Bw.any λk=>decide ((b.a.nd k).kind=4))=false:=by rw[aO1];intro k hk;simpa using λe=>L ⟨k,hk,e⟩
    rw[N] at i;have z:b.a.If x p bf=b.a.Ie p x bf:=by unfold Ar.If;rw[Ad (λh=>L h.2.2)]
    obtain⟨h',G',⟨s,y⟩,C,B⟩:=HM (h++d++j++H) ⟨d++j++H,Ax⟩;refine⟨h',G',?_,by rw[z];exact C,B⟩;rw[Ag,Xm,t96];simp only[abS,J.Ac,A,r2.Ac,D,g.l0,O.Ac,i.Ac,E.l0,y.Ac]
  .have z:b.a.If x p bf=b.a.Ie p x bf:=by unfold Ar.If;rw[Ad (λh=>D h.2.1)]
   obtain⟨h',G',⟨s,y⟩,C,B⟩:=HM (h++d++j) ⟨d++j,Ax⟩;refine⟨h',G',?_,by rw[z];exact C,B⟩;rw[Ag,Xm,t96];simp only[abS,J.Ac,A,r2.Ac,D,g.l0,y.Ac]
 .have z:b.a.If x p bf=b.a.Ie p x bf:=by unfold Ar.If;rw[Ad (λh=>A h.1)]
  obtain⟨h',G',⟨s,y⟩,C,B⟩:=HM (h++d) ⟨d,rfl⟩;refine⟨h',G',?_,by rw[z];exact C,B⟩;rw[Ag,Xm,t96];simp only[abS,J.Ac,A,w1.l0,y.Ac]
def aGA(w:BX h bi a o c t G b)(ok:EI b)(rm:Cx b m)(p:Int):∃u,B9 cx 174 [Pt bi 0,I p] h (I (b.MR p)) (h++u):=by
 obtain⟨n,j,d,f,_,_⟩:=Vc w ok rm p;have w1:=w.JX (u:=d);unfold BS.MR;by_cases hc:(b.a.nd p).cont=0
 .refine⟨d,?_⟩;rw[Ad (by simp[hc]),Ag,cW,Ä];simp only[abS,f.Ac,hc,Cy,Cn,w1.l1];refine⟨λh1=>?_,λh1=>?_⟩;.rw[Af h1]
  .rw[Ad h1]
 .obtain⟨k,i,e,r2,_,_⟩:=Vc w1 ok rm (b.a.nd p).cont;have g:=w1.JX (u:=e);refine⟨d++e,?_⟩;rw[Af hc,<-AS,Ag,cW,Ä];simp only[abS,f.Ac,r2.Ac,hc,Cy,g.l1];refine⟨λh1=>?_,λh1=>?_⟩;.rw[Af h1]
  .rw[Ad h1]
def Xy(nm:Ah)(av:Aa)(r:List Aa):Prop:=∃n k j i g f e d eZ sI,r=[n,.str nm,k,j,i,g,f,e,av,d,eZ,sI]
def QG:Aa.agg Item.zero.row= .agg [I 0,I 0,S [],ff]:=rfl
variable{nm:Ah}{av:Aa}{l:List A3}{r:List Aa}{sp p:Int}
def Cx.len{k:Nat}(rm:Cx b k)(hk:3<=k):b.a.len+3<=1000000000:=by have:=rm.n;unfold Ar.len;omega
def tw(w:BX h bi a o c t G b)(ok:EI b)(rm:Cx b (m+3))(hr:Xy nm av r)(hv:Bb l av)(hl:Eb l)(hn:nm.length<=1000)(p sp:Int):
  ∃h' G',B9 cx 67 [Pt bi 0,.agg r,I sp,I p] h (.agg (b.JG nm l sp).row) h'/\BX h' bi a o c t G' (b.FY nm l sp p)/\Ew h (BK bi G) h' (BK bi G'):=by
 obtain⟨N,M,L,K,J,H,E,D,eZ,sI,rfl⟩:=hr;by_cases hs:BS.LW sp
 .obtain⟨C,s,hu⟩:=aLh (h:=h) hv hl.1 sp;have w1:=w.JX (u:=[.map (ft 11)]);obtain⟨j,r2⟩:=aGA w1 ok rm p;have g:=w1.JX (u:=j);have hd:=ZB ok (p:=p);have i:∀y∈l.map (DY sp),BS.LW y.A6:=by intro y hy;obtain⟨z,_,rfl⟩:=A4.1 hy;exact oa
  obtain⟨h',G',⟨f,_⟩,B,v⟩:=g.step (A':=b.a.elem (b.MR p) sp (BS.NU sp nm) (l.map (DY sp))) (R:=λh'=>B9 cx 173 [Pt a 0,I (b.MR p),I sp,.str (BS.NU sp nm),C] (h++[.map (ft 11)]++j) (.tuple [I (b.a.len+1),I 0]) h'/\True) (λn m ps A=>by obtain⟨h',n',m',Mi,r,wp,xp,_⟩:=aGi A rm.UZ (rm.len Ab) hd hs hu (by rw[Av];have:=hl.1;omega) i (nm:=BS.NU sp nm);exact⟨h',n',m',Mi,⟨r,trivial⟩,wp,xp⟩)
  have d:=f96 (h:=h') hu (λy hy=>by obtain⟨z,hz,rfl⟩:=A4.1 hy;rw[cu];have:=(hl.2 z hz).2;have:AO=140737488355328:=rfl;omega) (by rw[Av];have:=hl.1;omega) sp (BS.NU sp nm);have em:Az (.B6 [I 0,I 0,S [],ff] [(0,1),(1,1),(2,1),(3,1)]) [I (b.a.len+1),I sp,.str (BS.NU sp nm),.bool (Iv sp (BS.NU sp nm) (l.map (DY sp)))]=some (.agg (b.JG nm l sp).row):=by rw[bl];unfold BS.JG;rw[Af hs]
  refine⟨h',G',?_,by unfold BS.FY;rw[Af hs];exact B,(w.DZ.trans w1.DZ).trans v⟩;have q:¬sp<0:=by have:=hs.1;omega
  have k:¬7<sp:=by have:=hs.2;omega
  have hlen:=λ(y:Item)=>@Item.DP y;rw[Ag,o8,t67];by_cases h2:sp=2
  .have e:BS.NU sp nm=DD nm Ng:=by unfold BS.NU;rw[Af h2]
   rw[e] at f d em;subst h2;simp only[abS,↓reduceIte,Br,Jr,(HT w).Ac,q,k,E8,s.Ac,GS,Cn,(aKC nm).Bn rfl rfl,w1.l0,r2.Ac,g.l0,Dl,f.Ac,Cy,d.Ac,em,hlen]
  .have e:BS.NU sp nm=nm:=by unfold BS.NU;rw[Ad h2]
   rw[e] at f d em;simp only[abS,↓reduceIte,Br,Jr,(HT w).Ac,q,k,E8,s.Ac,h2,w1.l0,r2.Ac,g.l0,Dl,f.Ac,Cy,Cn,d.Ac,em,hlen]
 .refine⟨h,G,?_,by unfold BS.FY;rw[Ad hs];exact w,.refl⟩;have e:b.JG nm l sp=Item.zero:=by unfold BS.JG;rw[Ad hs]
  rw[e,QG,Ag,o8,t67];unfold BS.LW at hs;by_cases h1:sp<0;.simp only[abS,↓reduceIte,Br,(HT w).Ac,h1,GS]
  .simp only[abS,↓reduceIte,Br,(HT w).Ac,h1,E8,(Ab:7<sp),GS]
def BL{k:Nat}{v:Aa}:Ew h (BK bi G) (put h bi k v) (BK bi G):=⟨by rw[Lo];exact Ae _,λi _ hn=>CV λe=>hn (.inl e),λ_ h=> .inl h⟩
def BX.put{k:Nat}{v o' c' t':Aa}{b':BS}(w:BX h bi a o c t G b)(e:(Pw a b o c t).set k v=Pw a b' o' c' t')(ea:b'.a=b.a)(ho:Ds b'.AK o')(ht:GI b'.tm t'):BX (Am.put h bi k v) bi a o' c' t' G b':=
 ⟨by rw[IF w.hb,e];exact AE w.lt,ho,ht,by rw[ea];exact w.w.DQ λi hi=>CV λe=>w.nb (e▸hi),w.nb⟩
def BX.MU{u:Aa}{l:List Item}(w:BX h bi a o c t G b)(hu:Ds l u):BX (Am.put h bi 2 u) bi a u c t G {b with AK:=l}:=w.put rfl rfl hu w.t
def BX.Qm{u:Aa}{l:List Co}(w:BX h bi a o c t G b):BX (Am.put h bi 3 u) bi a o u t G {b with AZ:=l}:=w.put rfl rfl w.o w.t
def BX.st{k:Nat}{v v0:Aa}(w:BX h bi a o c t G b)(hk:(Pw a b o c t)[k]?=some v0)(hv:v.cells=[v]):CL h 1 (Pt bi k) v=some (Am.put h bi k v):=At.store (v:=v0) ⟨_,w.hb,hk⟩ hv
variable{nm:Ah}{av:Aa}{l:List A3}{r:List Aa}{sp p:Int}
def aLi(w:BX h bi a o c t G b)(ok:EI b)(rm:Cx b (m+4))(hr:Xy nm av r)(hv:Bb l av)(hl:Eb l)(hn:nm.length<=1000)(sp:Int):
  ∃h' o' G',B9 cx 148 [Pt bi 0,.func (.func 67) [Pt bi 0] [],.agg r,I sp] h (I (b.OF sp)) h'/\BX h' bi a o' c t G' (b.Fq nm l sp)/\Ew h (BK bi G) h' (BK bi G'):=by
 obtain⟨v,q⟩:=â w ok rm 0;have w1:=w.JX (u:=v);obtain⟨h2,B,r2,n,j⟩:=tw (m:=m+1) w1 ok (rm.le Ab) hr hv hl hn (b.place 0).1 sp;have Hh:=hr;obtain⟨M,L,K,J,H,E,D,C,eZ,sI,rfl⟩:=hr;have ho:=rm.AK;by_cases hs:BS.LW sp
 .have f:=(So (nm:=nm) (at_:=l) (p:=(b.place 0).1) ok hs).1;have pQ:=Lr (m:=m+1) (nm:=nm) (sp:=sp) (p:=(b.place 0).1) (rm.le Ab) hl;have ľ:(b.JG nm l sp).node=b.a.len+1:=by unfold BS.JG;rw[Af hs]
  have Y5:¬(b.a.len+1=0):=by unfold Ar.len;omega
  have Qs:(b.FY nm l sp (b.place 0).1).AK=b.AK:=by unfold BS.FY;rw[Af hs]
  obtain⟨z,A,y,k,s⟩:=jV (x:=b.a.len+1) (p:=(b.place 0).1) (bf:=(b.place 0).2) n f pQ;obtain⟨v4,d,g⟩:=f95 k.sO (by simp only[Qs];omega) (b.JG nm l sp);refine⟨Am.put z bi 2 v4,v4,A,?_,?_,((w.DZ.trans j).trans s).trans BL⟩
  .have i:b.OF sp=b.a.len+1:=by unfold BS.OF;rw[Af hs]
   rw[Ag,cT,t148,i];simp only[abS,Nat.reduceAdd,↓reduceIte,CC,Jr,q.Ac,(AM:(67:Nat)<=99999),r2.Ac,ľ,Y5,Cy,y.Ac];have e:=@Item.UY (b.JG nm l sp);rw[ľ] at e;rw[<-e] at d;simp only[e] at d⊢;simp only[d.Ac,Cf]
  .have:=k.MU g;unfold BS.Fq;rw[Af hs];exact this
 .refine⟨h2,o,B,?_,?_,w.DZ.trans j⟩
  .have e:b.JG nm l sp=Item.zero:=by unfold BS.JG;rw[Ad hs]
   have i:b.OF sp=0:=by unfold BS.OF;rw[Ad hs]
   rw[e,QG] at r2;rw[Ag,cT,t148,i];simp only[abS,Nat.reduceAdd,↓reduceIte,CC,Jr,q.Ac,(AM:(67:Nat)<=99999),r2.Ac,Cy,Cn]
  .have:b.Fq nm l sp=b.FY nm l sp (b.place 0).1:=by unfold BS.Fq BS.FY;rw[Ad hs,Ad hs]
   rw[this];exact n
def aCN(w:BX h bi a o c t G b)(ok:EI b)(rm:Cx b (m+4))(hr:Xy nm av r)(hv:Bb l av)(hl:Eb l)(hn:nm.length<=1000)(sp:Int):
  ∃h' o' G',B9 cx 53 [Pt bi 0,.agg r,I sp] h (I (b.OF sp)) h'/\BX h' bi a o' c t G' (b.Fq nm l sp)/\Ew h (BK bi G) h' (BK bi G'):=by
 obtain⟨h',o',G',d,w',x'⟩:=aLi w ok rm hr hv hl hn sp;refine⟨h',o',G',?_,w',x'⟩;obtain⟨q,n,k,j,i,g,f,e,eZ,sI,rfl⟩:=hr;rw[Ag,p_,t53];simp only[abS,(HT w).Ac,d.Ac]
def tz(w:BX h bi a o c t G b)(ok:EI b)(rm:Cx b (m+4))(hr:Xy nm av r)(hv:Bb l av)(hl:Eb l)(hn:nm.length<=1000):
  ∃h' o' G',B9 cx 42 [Pt bi 0,.agg r] h (I (b.a.len+1)) h'/\BX h' bi a o' c t G' (b.Fq nm l 1)/\Ew h (BK bi G) h' (BK bi G'):=by
 obtain⟨h',o',G',d,w',x'⟩:=aCN w ok rm hr hv hl hn 1;refine⟨h',o',G',?_,w',x'⟩;have e:b.OF 1=b.a.len+1:=by unfold BS.OF;rw[Af Mg]
 rw[e] at d;obtain⟨s,q,n,k,j,i,g,f,eZ,sI,rfl⟩:=hr;rw[Ag,pt,t42];simp only[Cf,d.Ac]
end
def Di(l:List Co)(v:Aa):Prop:=∃fs:List C1,fs.map (·.c)=l/\EF fs v
def Uy{U Z:Type}{f:U->Z}{q:Z->Bool}{l:List U}:AX q (l.map f)=AX (λx=>q (f x)) l:=by unfold AX;rw[<-S3,List.findIdx?_map,Av];rfl
def pR{U Z:Type}{f:U->Z}{l:List U}{k:Nat}:(Bz l k).map f=Bz (l.map f) k:=by unfold Bz;simp
def ä{fs:List C1}:since fs=oL (fs.map (·.c)):=by unfold since oL;rw[Uy];rfl
def Xz{n:Int}{fs:List C1}:Kd n fs=Fw n (fs.map (·.c)):=by unfold Kd Fw;rw[Uy];rfl
def xZ{nm:Ah}{fs:List C1}:QD nm fs=Ff nm (fs.map (·.c)):=by
 unfold QD Ff;rw[<-S3];generalize fs.reverse=r;induction r with
 |nil=>rfl
 |cons x r ih=>simp only[A9,sW,Xe,ih,Av]
def aGB{e:Co}{fs:List C1}:Yu e fs=tE e (fs.map (·.c)).reverse:=by
 unfold Yu;rw[<-S3];generalize fs.reverse=r;induction r with
 |nil=>rfl
 |cons x r ih=>simp only[A9,zw,tE,ih]
def aGC{e:Co}{fs:List C1}:Q8 e fs=i5 e (fs.map (·.c)).reverse:=by
 unfold Q8;rw[<-S3];generalize fs.reverse=r;induction r with
 |nil=>rfl
 |cons x r ih=>simp only[A9,oH,i5,ih,Av]
def t_{e:Co}{d:C1}{fs:List C1}(he:d.c=e):(Q9 e fs++[d]).map (·.c)=i6 e (fs.map (·.c)):=by
 unfold Q9 i6;rw[aGB,aGC,BU,aM7,he];split;.rw[pR]
 .rfl
def dR{fs:List C1}:(fs.take (HB fs)).map (·.c)=Fx (fs.map (·.c)):=by unfold Fx HB;rw[HQ,ä]
def å{l:List Co}{fs:List C1}(e:fs.map (·.c)=l)(h:∀x∈l,x.Au.length<=1000):∀x∈fs,gi x:=by intro x hx;have:=h x.c (by rw[<-e];exact A4.2 ⟨x,hx,rfl⟩);unfold gi;omega
section
variable{h h':Ai}{bi a:Nat}{o c t:Aa}{G G' F:Nat->Prop}{b:BS}{x:Int}{m:Nat}
variable{nm:Ah}{av:Aa}{l:List A3}{r:List Aa}{sp p:Int}
def aGD(w:BX h bi a o c t G b)(hc:Di b.AZ c)(ok:EI b)(rm:Cx b (m+5))(hr:Xy nm av r)(hv:Bb l av)(hl:Eb l)(hn:nm.length<=1000):
  ∃h' o' c' G',B9 cx 54 [Pt bi 0,.agg r] h (I (b.a.len+1)) h'/\BX h' bi a o' c' t G' (b.Hn nm l)/\Di (b.Hn nm l).AZ c'/\Ew h (BK bi G) h' (BK bi G'):=by
 obtain⟨h1,j,k,i,w1,g⟩:=tz (m:=m+1) w ok (rm.le Ab) hr hv hl hn;obtain⟨fs,d,hf⟩:=hc;have ha:=rm.AZ;have Io:fs.length=b.AZ.length:=by rw[<-d,Av]
 obtain⟨u,n,aU,r2,hu⟩:=f30 (h:=h1) (id:=bi) (o:=3) (l:=fs) ⟨c,w1.pO,hf⟩ Ab (å d λx hx=>((rm.C7 x hx).2).1) (e:=⟨⟨b.a.len+1,nm,l⟩,av,hv⟩) (by unfold gi;have:=hl.1;simp only;omega);refine⟨_,j,u,k,?_,w1.Qm (u:=u),?_,g.trans BL⟩
 .obtain⟨C,B,A,z,y,v,s,q,eZ,sI,rfl⟩:=hr;have Y5:¬(b.a.len+1=0):=by unfold Ar.len;omega
  have f:B9 cx 149 [Pt bi 3,.agg [I (b.a.len+1),.str nm,av]] h1 (.tuple []) (put h1 bi 3 u):=r2;have fo:av.cells=[av]:=Bv.cells hv;rw[Ag,qa,t54];simp only[abS,Nat.reduceLeDiff,↓reduceIte,Br,i.Ac,Y5,Cy,fo,f.Ac]
 .refine⟨_,?_,hu⟩;rw[t_ aU,d];unfold BS.Hn;simp only;rw[FU]
end
def aGE:∀x:Fin 64,(BitVec.ofInt 8 192|||BitVec.ofInt 8 (x.val:Int)).toNat=192+x.val:=AM
def aGF:∀x:Fin 32,(BitVec.ofInt 8 224|||BitVec.ofInt 8 (x.val:Int)).toNat=224+x.val:=AM
def aGG:∀x:Fin 16,(BitVec.ofInt 8 240|||BitVec.ofInt 8 (x.val:Int)).toNat=240+x.val:=AM
def aGH:∀x:Fin 64,(BitVec.ofInt 8 128|||BitVec.ofInt 8 (x.val:Int)).toNat=128+x.val:=AM
def aGI:∀x:Fin 256,(BitVec.ofInt 8 (x.val:Int)&&& BitVec.ofInt 8 63).toNat=x.val%64:=AM
def yA{a b:Int}:Az (.int .or) [.int .u8 a,.int .u8 b]=some (.int .u8 (IntKind.u8.wrap (BitVec.ofInt 8 a|||BitVec.ofInt 8 b).toNat)):=rfl
def aCO{a b:Int}:Az (.int .and) [.int .u8 a,.int .u8 b]=some (.int .u8 (IntKind.u8.wrap (BitVec.ofInt 8 a&&& BitVec.ofInt 8 b).toNat)):=rfl
def ua{x:Nat}(h:x<64):Az (.int .or) [.int .u8 192,.int .u8 (x:Int)]=some (.int .u8 ((192+x:Nat):Int)):=by rw[yA,aGE ⟨x,h⟩,IntKind.wrap_u8];congr 2;simp only;omega
def jW{x:Nat}(h:x<32):Az (.int .or) [.int .u8 224,.int .u8 (x:Int)]=some (.int .u8 ((224+x:Nat):Int)):=by rw[yA,aGF ⟨x,h⟩,IntKind.wrap_u8];congr 2;simp only;omega
def ub{x:Nat}(h:x<16):Az (.int .or) [.int .u8 240,.int .u8 (x:Int)]=some (.int .u8 ((240+x:Nat):Int)):=by rw[yA,aGG ⟨x,h⟩,IntKind.wrap_u8];congr 2;simp only;omega
def KL{x:Nat}(h:x<64):Az (.int .or) [.int .u8 128,.int .u8 (x:Int)]=some (.int .u8 ((128+x:Nat):Int)):=by rw[yA,aGH ⟨x,h⟩,IntKind.wrap_u8];congr 2;simp only;omega
def KN{x:Nat}(h:x<256):Az (.int .and) [.int .u8 (x:Int),.int .u8 63]=some (.int .u8 ((x%64:Nat):Int)):=by rw[aCO,aGI ⟨x,h⟩,IntKind.wrap_u8];congr 2;simp only;omega
def Vy{n:Nat}:Az (.int .shr) [.int .i32 (n:Int),.int .u64 6]=some (.int .i32 ((n/64:Nat):Int)):=by rw[show Az (.int .shr) [.int .i32 (n:Int),.int .u64 6]=some (.int .i32 ((n:Int).fdiv 64)) from rfl,PM _ Ab];rfl
def XA{n:Nat}:Az (.int .shr) [.int .i32 (n:Int),.int .u64 12]=some (.int .i32 ((n/4096:Nat):Int)):=by rw[show Az (.int .shr) [.int .i32 (n:Int),.int .u64 12]=some (.int .i32 ((n:Int).fdiv 4096)) from rfl,PM _ Ab];rfl
def uc{n:Nat}:Az (.int .shr) [.int .i32 (n:Int),.int .u64 18]=some (.int .i32 ((n/262144:Nat):Int)):=by rw[show Az (.int .shr) [.int .i32 (n:Int),.int .u64 18]=some (.int .i32 ((n:Int).fdiv 262144)) from rfl,PM _ Ab];rfl
def XB{k:IntKind}{n:Nat}:Az (.conv .u8) [.int k (n:Int)]=some (.int .u8 ((n%256:Nat):Int)):=by rw[Vm,IntKind.wrap_u8];congr 2
def dS{n:Int}:Az (.conv .u32) [.int .i32 n]=some (.int .u32 (n%4294967296)):=by rw[Vm,IntKind.wrap_u32]
def xm{n:Nat}(h:n<256):((UInt8.ofNat n).toNat:Int)=(n:Int):=by rw[UInt8.toNat_ofNat'];congr 1;omega
def xn(b:UInt8):Aa:= .int .u8 (b.toNat:Int)
def Kk{h:Ai}{bs:Ah}(hb:bs≠[])(hl:bs.length<=8):GP h 1 1 .slnil (.sl 1 (CY bs))=some (h++[.cells (bs.map xn)],.C3 h.length 0 bs.length 1):=by
 have Io:∀bs:Ah,(CY bs).flatten=bs.map xn:=by
  intro bs;induction bs with
  |nil=>rfl
  |cons c bs ih=>show[xn c]++(CY bs).flatten=_;rw[ih];rfl
 cases bs with
 |nil=>exact absurd rfl hb
 |cons c bs=>
  have hm:AO=140737488355328:=rfl;have hlen:(CY (c::bs)).length=(c::bs).length:=by simp[CY]
  have e:CY (c::bs)=[.int .u8 c.toNat]::CY bs:=rfl;have a:Ha h 1 (.sl 1 (CY (c::bs)))=some (CY (c::bs)):=by simp[Ha]
  unfold GP;rw[a,e];simp only
  rw[<-e,Af (by rw[hlen];omega),Io,hlen]
def aLk{h:Ai}(r:Int)(hr: -2147483648<=r/\r<=2147483647):B9 cx 151 [.slnil,.int .i32 r] h (.C3 h.length 0 (LX r).length 1) (h++[.cells ((LX r).map xn)]):=by
 have one:∀{a:Nat} (h1:a<256),Az (.Ch 1) [.int .u8 (a:Int)]=some (.sl 1 (CY [UInt8.ofNat a])):=by intro a h1;simp only[CY,A9,Dw,xm h1];rfl
 have LN:∀{a b:Nat} (h1:a<256) (h2:b<256),Az (.Ch 1) [.int .u8 (a:Int),.int .u8 (b:Int)]=some (.sl 1 (CY [UInt8.ofNat a,UInt8.ofNat b])):=by intro a b h1 h2;simp only[CY,A9,Dw,xm h1,xm h2];rfl
 have YW:∀{a b c:Nat} (h1:a<256) (h2:b<256) (d:c<256),Az (.Ch 1) [.int .u8 (a:Int),.int .u8 (b:Int),.int .u8 (c:Int)]=some (.sl 1 (CY [UInt8.ofNat a,UInt8.ofNat b,UInt8.ofNat c])):=by intro a b c h1 h2 d;simp only[CY,A9,Dw,xm h1,xm h2,xm d];rfl
 have four:∀{a b c f:Nat} (h1:a<256) (h2:b<256) (d:c<256) (i:f<256),Az (.Ch 1) [.int .u8 (a:Int),.int .u8 (b:Int),.int .u8 (c:Int),.int .u8 (f:Int)]=some (.sl 1 (CY [UInt8.ofNat a,UInt8.ofNat b,UInt8.ofNat c,UInt8.ofNat f])):=by intro a b c f h1 h2 d i;simp only[CY,A9,Dw,xm h1,xm h2,xm d,xm i];rfl
 have Ő:Az (.Ch 1) [.int .u8 239,.int .u8 191,.int .u8 189]=some (.sl 1 (CY [239,191,189])):=rfl;rw[Ag,uG,aBb];simp only[Cf,dS];by_cases h0:0<=r
 .obtain⟨n,rfl⟩:=S2 h0;have em:(n:Int)%4294967296=(n:Int):=Ab;rw[em];by_cases q:n<128
  .have e:LX (n:Int)=[UInt8.ofNat n]:=by unfold LX;rw[Af Ab];rfl
   have j:n%256=n:=Ab;rw[e];simp only[Cf,bK,(Ab:(n:Int)<=127),XB,j,one (Ab:n<256),Kk (bs:=[UInt8.ofNat n]) Ax Ax]
  .have aCP:B9 cx 222 [.slnil,.int .i32 (n:Int)] h (.C3 h.length 0 (LX (n:Int)).length 1) (h++[.cells ((LX (n:Int)).map xn)]):=by
    rw[Ag,dE,Í];simp only[Cf,dS,em];by_cases p:n<2048
    .have e:LX (n:Int)=[UInt8.ofNat (192+n/64),UInt8.ofNat (128+n%64)]:=by unfold LX;rw[Ad Ab,Af Ab];rfl
     rw[e];have a1:n/64%256=n/64:=Ab;have a2:n%256%64=n%64:=Ab;simp only[Cf,bK,(Ab:(n:Int)<=2047),Vy,XB,a1,ua (Ab:n/64<64),KN (Ab:n%256<256),a2,KL (Ab:n%64<64),LN (Ab:192+n/64<256) (Ab:128+n%64<256),Kk (bs:=[UInt8.ofNat (192+n/64),UInt8.ofNat (128+n%64)]) Ax Ax]
    .by_cases o:n<65536/\¬(55296<=n/\n<57344)
     .have e:LX (n:Int)=[UInt8.ofNat (224+n/4096),UInt8.ofNat (128+n/64%64),UInt8.ofNat (128+n%64)]:=by unfold LX;rw[Ad Ab,Ad Ab,Af Ab];rfl
      rw[e];have a1:n/4096%256=n/4096:=Ab;have a2:n/64%256%64=n/64%64:=Ab;have a3:n%256%64=n%64:=Ab;have g:=Kk (h:=h) (bs:=[UInt8.ofNat (224+n/4096),UInt8.ofNat (128+n/64%64),UInt8.ofNat (128+n%64)]) Ax Ax;have t3:=YW (Ab:224+n/4096<256) (Ab:128+n/64%64<256) (Ab:128+n%64<256);by_cases m:n<55296;.simp only[abS,(Ab:¬(n:Int)<=2047),(Ab:(n:Int)<55296),Vy,XA,XB,a1,jW (Ab:n/4096<32),KN (Ab:n/64%256<256),a2,KL (Ab:n/64%64<64),KN (Ab:n%256<256),a3,KL (Ab:n%64<64),t3,g]
      .simp only[abS,(Ab:¬(n:Int)<=2047),(Ab:¬(n:Int)<55296),(Ab:(57343:Int)<n),(Ab:(n:Int)<=65535),Vy,XA,XB,a1,jW (Ab:n/4096<32),KN (Ab:n/64%256<256),a2,KL (Ab:n/64%64<64),KN (Ab:n%256<256),a3,KL (Ab:n%64<64),t3,g]
     .by_cases l:65536<=n/\n<=1114111
      .have e:LX (n:Int)=[UInt8.ofNat (240+n/262144),UInt8.ofNat (128+n/4096%64),UInt8.ofNat (128+n/64%64),UInt8.ofNat (128+n%64)]:=by unfold LX;rw[Ad Ab,Ad Ab,Ad Ab,Af Ab];rfl
       rw[e];have a0:n/262144%256=n/262144:=Ab;have a1:n/4096%256%64=n/4096%64:=Ab;have a2:n/64%256%64=n/64%64:=Ab;have a3:n%256%64=n%64:=Ab;have g:=Kk (h:=h) (bs:=[UInt8.ofNat (240+n/262144),UInt8.ofNat (128+n/4096%64),UInt8.ofNat (128+n/64%64),UInt8.ofNat (128+n%64)]) Ax Ax;have t4:=four (Ab:240+n/262144<256) (Ab:128+n/4096%64<256) (Ab:128+n/64%64<256) (Ab:128+n%64<256);simp only[abS,(Ab:¬(n:Int)<=2047),(Ab:¬(n:Int)<55296),(Ab:(57343:Int)<n),(Ab:¬(n:Int)<=65535),(Ab:(65535:Int)<n),(Ab:(n:Int)<=1114111),Vy,XA,uc,XB,a0,ub (Ab:n/262144<16),KN (Ab:n/4096%256<256),a1,KL (Ab:n/4096%64<64),KN (Ab:n/64%256<256),a2,KL (Ab:n/64%64<64),KN (Ab:n%256<256),a3,KL (Ab:n%64<64),t4,g]
      .have e:LX (n:Int)=[239,191,189]:=by unfold LX;rw[Ad Ab,Ad Ab,Ad Ab,Ad Ab]
       rw[e];have g:=Kk (h:=h) (bs:=[239,191,189]) Ax Ax;by_cases k:n<65536;.simp only[abS,(Ab:¬(n:Int)<=2047),(Ab:¬(n:Int)<55296),(Ab:¬(57343:Int)<n),(Ab:¬(65535:Int)<n),Ő,g]
       .simp only[abS,(Ab:¬(n:Int)<=2047),(Ab:¬(n:Int)<55296),(Ab:(57343:Int)<n),(Ab:¬(n:Int)<=65535),(Ab:(65535:Int)<n),(Ab:¬(n:Int)<=1114111),Ő,g]
   simp only[abS,(Ab:¬(n:Int)<=127),aCP.Ac]
 .have e:LX r=[239,191,189]:=by unfold LX;rw[Ad Ab,Ad Ab,Ad Ab,Ad Ab]
  have g:=Kk (h:=h) (bs:=[239,191,189]) Ax Ax;have aCP:B9 cx 222 [.slnil,.int .i32 r] h (.C3 h.length 0 (LX r).length 1) (h++[.cells ((LX r).map xn)]):=by rw[e,Ag,dE,Í];simp only[abS,dS,(Ab:¬(r%4294967296)<=2047),(Ab:¬(r%4294967296)<55296),(Ab:(57343:Int)<r%4294967296),(Ab:¬(r%4294967296)<=65535),(Ab:(65535:Int)<r%4294967296),(Ab:¬(r%4294967296)<=1114111),Ő,g]
  simp only[abS,(Ab:¬(r%4294967296)<=127),aCP.Ac]
def XC(r:Int):(LX r).length<=4:=by unfold LX;split<;>(try split)<;>(try split)<;>(try split)<;>simp
def ud{l:List Int}{bf:Int}(hb:bf≠0->bf∈l):∃i,i<=l.length/\(bf=0->i=l.length)/\(bf≠0->Cc (λy=>decide (bf=y)) 0 l=(i:Int))/\Tx l bf=if i=0 then none else l[i-1]?:=by
 by_cases h0:bf=0
 .refine⟨l.length,Ae _,λ_=>rfl,λh=>absurd h0 h,?_⟩;unfold Tx;rw[Af h0,Qo];split;.rename_i h;rw[C5 Ab]
  .rfl
 .obtain⟨k,j,e,g,d,f⟩:=dQ (hb h0);refine⟨k,Ab,λh=>absurd h h0,λ_=>e,?_⟩;unfold Tx;rw[Ad h0,d,Qo,AB,CE Ab];split;.rename_i h;subst h;simp
  .rw[Cj];rw[Af Ab]
def yB{s u:Ah}(h:s.length+u.length<=2000000000):Az (.str .add) [.str s,.str u]=some (.str (s++u)):=by have:s.length+u.length<=9223372036854775807:=Ab;simp[Az,fF,this]
def ZL:∀s:Ah,(CY s).flatten=s.map xn
 |[]=>rfl
 |c::s=>by show[xn c]++(CY s).flatten=_;rw[ZL s];rfl
section
variable{h h':Ai}{bi a:Nat}{o c t:Aa}{G G' F:Nat->Prop}{b:BS}{x:Int}{m:Nat}
variable{nm:Ah}{av:Aa}{l:List A3}{r:List Aa}{sp p:Int}
def yC{k d:Int}{s:Ah}(ok:EI b)(rm:Cx b (m+1))(hk:k=5\/k=6)(hd:b.a.has d/\(b.a.nd d).kind=1)(hs:s.length<=100000):EI {b with a:=b.a.add {kind:=k,CK:=d,data:=s}}/\Cx {b with a:=b.a.add {kind:=k,CK:=d,data:=s}} m:=
 ⟨ok.I8 (bZ ok.ok (by unfold Ar.len;omega) hd hk) Xh,rm.FH (k:=1) (KJ (A7 _) hs)⟩
def aGJ(w:BX h bi a o c t G b)(ok:EI b)(rm:Cx b (m+5))(r:Int)(hr: -2147483648<=r/\r<=2147483647):
  ∃h' G',B9 cx 55 [Pt bi 0,.int .i32 r] h (.tuple []) h'/\BX h' bi a o c t G' (b.Re r)/\Ew h (BK bi G) h' (BK bi G'):=by
 obtain⟨f,C⟩:=â w ok rm 0;obtain⟨hp,hbf⟩:=jE ok (t:=0) (.inl rfl);have w1:=w.JX (u:=f);unfold BS.Re;generalize(b.place 0).1=p at*;generalize(b.place 0).2=bf at*;obtain⟨K,V,d,r2,W,_⟩:=Vc w1 ok rm p;have Y:=w1.JX (u:=d);have x2:Ew h (BK bi G) (h++f++d) (BK bi G):=w.DZ.trans w1.DZ;unfold BS.Rd;by_cases hk:(b.a.nd p).kind=4\/(b.a.nd p).kind=2;rotate_left
 .refine⟨_,G,?_,?_,x2⟩;.have k4:¬(b.a.nd p).kind=4:=λe=>hk (.inl e);have k2:¬(b.a.nd p).kind=2:=λe=>hk (.inr e);rw[Ag,Xl,t55];simp only[abS,(HT w).Ac,C.Ac,r2.Ac,Cy,k4,k2]
  .rw[Ad hk];exact Y
 rw[Af hk];obtain⟨i,hi,ķ,xh,hpv⟩:=ud (l:=(b.a.nd p).Bw) (bf:=bf) (λh=>by have:=hbf h;have h2:=(ok.ok.Hi bf this.1 (by rw[this.2];have:=hp.1;omega)).2;rwa [this.2] at h2);rw[hpv];have YX:=rm.UZ.Bw ok.ok p;have E:=aCH (h:=h++f++d) (x:=bf) W.Vb YX;have xo:=aLk (h:=h++f++d) r hr;have fw:=XC r;generalize hs:LX r=s at*;have f3:Li (h++f++d++[.cells (s.map xn)]) (.C3 (h++f++d).length 0 s.length 1)=some (h++f++d++[.DF],.sl 1 (CY s)):=by have Io:=ZL s;have:=P2 (h:=h++f++d++[.cells (s.map xn)]) (id:=(h++f++d).length) (z:=1) (Aw:=CY s) (by intro q hq;obtain⟨y,_,rfl⟩:=A4.1 hq;rfl) (by rw[Io];simp);rw[show(CY s).length=s.length by simp[CY]] at this;rw[this];congr 2;rw[B5 _ _ (Ae _),Dy];rfl
 have b3:Az .X8 [.sl 1 (CY s)]=some (.str s):=by simp[Az,Z7,WO]
 have v:=Y.JX (u:=[.DF]);have x3:Ew h (BK bi G) (h++f++d++[.DF]) (BK bi G):=x2.trans Y.DZ;have ue:=ok.ok.CK p hp;have new:∀h3,(∃u,h3=h++f++d++[.DF]++u)->∃h' H G',B9 cx 153 [Pt a 0,I (b.a.nd p).CK,.str s] h3 (.tuple [I (b.a.len+1),I 0]) H/\B9 cx 96 [Pt bi 0,I (b.a.len+1),I p,I bf] H (.tuple []) h'/\BX h' bi a o c t G' {b with a:=(b.a.add {kind:=5,CK:=(b.a.nd p).CK,data:=s}).If (b.a.len+1) p bf}/\Ew h (BK bi G) h' (BK bi G'):=by
  rintro _ ⟨u,rfl⟩;have w4:=v.JX (u:=u);obtain⟨H,G4,⟨B,_⟩,w5,x5⟩:=w4.step (A':=b.a.add (L2 5 (b.a.nd p).CK s).x) (R:=λh'=>B9 cx 153 [Pt a 0,I (b.a.nd p).CK,.str s] (h++f++d++[.DF]++u) (.tuple [I (b.a.len+1),I 0]) h'/\True) (λn m ps Q=>by obtain⟨h',r,wp,o1,l1⟩:=aK3 (s:=s) Q rm.UZ (by have:=rm.n;unfold Ar.len;omega) ue;exact⟨h',_,_,_,⟨r,trivial⟩,wp,Q.Qb rfl o1 l1⟩)
  obtain⟨ok5,Z⟩:=yC (m:=m) (k:=5) (s:=s) ok (rm.le Ab) (.inl rfl) ue Ab;obtain⟨h',G',A,M,J⟩:=jV (x:=b.a.len+1) (p:=p) (bf:=bf) w5 ok5 Z;exact⟨h',H,G',B,A,M,(x3.trans v.DZ).trans (x5.trans J)⟩
 have kl:=(W.Vb (h:=h++f++d)).len;have Qj:i<=1000000000:=Ab;by_cases hz:i=0
 .subst hz;obtain⟨h',H,G',B,A,M,J⟩:=new (h++f++d++[.DF]) ⟨[],Ax⟩;simp only[↓reduceIte];refine⟨h',G',?_,M,J⟩;rw[Ag,Xl,t55];rcases hk with hk|hk<;>by_cases h0:bf=0
  all_goals first|(rw[<-ķ h0] at kl;simp only[abS,(HT w).Ac,C.Ac,r2.Ac,hk,Cy,Cn,(AM:¬(2:Int)=4),kl,A5 h0,xo.Ac,f3,b3,(AM:¬(0:Int)<((0:Nat):Int)),v.l0,B.Ac,Cn,A.Ac];done)|(rw[xh h0] at E;simp only[abS,(HT w).Ac,C.Ac,r2.Ac,hk,Cy,Cn,(AM:¬(2:Int)=4),kl,h0,xo.Ac,f3,b3,(AM:¬(0:Int)<((0:Nat):Int)),v.l0,B.Ac,Cn,A.Ac,E.Ac])
 .obtain⟨j,rfl⟩:∃j,i=j+1:=⟨i-1,Ab⟩;have hj:j<(b.a.nd p).Bw.length:=Ab;rw[Ad hz,eT,As hj];simp only
  have ht:=ok.ok.PZ p hp _ (AY hj);obtain⟨q,P,X⟩:=(W.Vb (h:=h++f++d++[.DF])).at_ j hj;obtain⟨K7,V7,S,U,_,_⟩:=Vc v ok rm (b.a.nd p).Bw[j];have L:=v.JX (u:=S);obtain⟨q',O,N⟩:=(W.Vb (h:=h++f++d++[.DF]++S)).at_ j hj;rw[P,Bx] at O;subst O;have T:Az (.int .sub) [I ((j+1:Nat):Int),I 1]=some (I (j:Int)):=by have:=NO (n:=j+1) Ab Ab;simpa using this
  generalize hte:(b.a.nd p).Bw[j]=g at*;by_cases D:(b.a.nd g).kind=5
  .rw[Af D];have f_:=rm.data g;obtain⟨h8,G8,⟨r8,_⟩,w8,x8⟩:=L.step (A':=b.a.Sn g ((b.a.nd g).data++s)) (R:=λh'=>B9 cx 152 [Pt a 0,I g,.str ((b.a.nd g).data++s)] (h++f++d++[.DF]++S) (I 0) h'/\True) (λn m ps Q=>by obtain⟨h',Mi,r,wp,xp⟩:=aK4 (s:=(b.a.nd g).data++s) Q rm.UZ ht.1 D;exact⟨h',n,m,Mi,⟨r,trivial⟩,wp,xp⟩)
   refine⟨h8,G8,?_,w8,(x3.trans v.DZ).trans x8⟩;rw[Ag,Xl,t55];rcases hk with hk|hk<;>by_cases h0:bf=0
   all_goals first|(rw[<-ķ h0] at kl;simp only[abS,(HT w).Ac,C.Ac,r2.Ac,hk,Cy,Cn,(AM:¬(2:Int)=4),kl,A5 h0,xo.Ac,f3,b3,(Ab:(0:Int)<((j+1:Nat):Int)),T,P,X,U.Ac,D,L.l0,N,yB (Ab:(b.a.nd g).data.length+s.length<=2000000000),Cn,r8.Ac];done)|(rw[xh h0] at E;simp only[abS,(HT w).Ac,C.Ac,r2.Ac,hk,Cy,Cn,(AM:¬(2:Int)=4),kl,h0,xo.Ac,f3,b3,(Ab:(0:Int)<((j+1:Nat):Int)),T,P,X,U.Ac,D,L.l0,N,yB (Ab:(b.a.nd g).data.length+s.length<=2000000000),Cn,r8.Ac,E.Ac])
  .rw[Ad D];obtain⟨h',H,G',B,A,M,J⟩:=new _ ⟨S,rfl⟩;refine⟨h',G',?_,M,J⟩;rw[Ag,Xl,t55];rcases hk with hk|hk<;>by_cases h0:bf=0
   all_goals first|(rw[<-ķ h0] at kl;simp only[abS,(HT w).Ac,C.Ac,r2.Ac,hk,Cy,Cn,(AM:¬(2:Int)=4),kl,A5 h0,xo.Ac,f3,b3,(Ab:(0:Int)<((j+1:Nat):Int)),T,P,X,U.Ac,D,L.l0,B.Ac,Cn,A.Ac];done)|(rw[xh h0] at E;simp only[abS,(HT w).Ac,C.Ac,r2.Ac,hk,Cy,Cn,(AM:¬(2:Int)=4),kl,h0,xo.Ac,f3,b3,(Ab:(0:Int)<((j+1:Nat):Int)),T,P,X,U.Ac,D,L.l0,B.Ac,Cn,A.Ac,E.Ac])
def XD{s:Ah}{p bf x:Int}{h0 h1:Ai}(hstart:(¬x=0/\p=x/\bf=0/\h1=h0)\/(x=0/\B9 cx 93 [Pt bi 0,I 0] h0 (.tuple [I p,I bf]) h1))
  (w0:BX h0 bi a o c t G b) (i:Ew h0 (BK bi G) h1 (BK bi G)) (w:BX h1 bi a o c t G b) (ok:EI b) (rm:Cx b (m+1)) (hs:s.length<=100000):
  ∃h' G',B9 cx 38 [Pt bi 0,.str s,I x] h0 (.tuple []) h'/\BX h' bi a o c t G' {b with a:=BS.Iy b.a s p bf}/\Ew h0 (BK bi G) h' (BK bi G'):=by
 obtain⟨K,V,q,r2,L,_⟩:=Vc w ok rm p;have d:=w.JX (u:=q);unfold BS.Iy;by_cases hk:Ow (b.a.nd p).kind
 .rw[Af hk];have hp:b.a.has p:=by
   by_cases hp:b.a.has p;.exact hp
   .rw[Ov hp] at hk;unfold Ow at hk;simp at hk
  have ue:=ok.ok.CK p hp;obtain⟨M,N,⟨y,_⟩,H,D⟩:=d.step (A':=b.a.add (L2 6 (b.a.nd p).CK s).x) (R:=λh'=>B9 cx 95 [Pt a 0,I (b.a.nd p).CK,.str s] (h1++q) (.tuple [I (b.a.len+1),I 0]) h'/\True) (λn m ps j=>by obtain⟨h',r,wp,J,l1⟩:=aF8 (s:=s) j rm.UZ (by have:=rm.n;unfold Ar.len;omega) ue;exact⟨h',_,_,_,⟨r,trivial⟩,wp,j.Qb rfl J l1⟩)
  obtain⟨g,e⟩:=yC (m:=m) (k:=6) (s:=s) ok rm (.inr rfl) ue hs;obtain⟨h',G',v,E,C⟩:=jV (x:=b.a.len+1) (p:=p) (bf:=bf) H g e;refine⟨h',G',?_,E,(i.trans w.DZ).trans (D.trans C)⟩;rw[Ag,oW,t38];rcases hstart with⟨hx,rfl,rfl,rfl⟩|⟨hx,f⟩
  .rcases hk with hk|hk|hk<;>simp only[abS,(HT w0).Ac,r2.Ac,hk,Cy,Cn,(AM:¬(2:Int)=1),(AM:¬(4:Int)=1),(AM:¬(4:Int)=2),d.l0,y.Ac,v.Ac,hx]
  .rcases hk with hk|hk|hk<;>simp only[abS,(HT w0).Ac,r2.Ac,hk,Cy,Cn,(AM:¬(2:Int)=1),(AM:¬(4:Int)=1),(AM:¬(4:Int)=2),d.l0,y.Ac,v.Ac,A5 hx,f.Ac]
 .rw[Ad hk];refine⟨_,G,?_,d,i.trans w.DZ⟩;unfold Ow at hk;have B:¬(b.a.nd p).kind=1:=Ab;have A:¬(b.a.nd p).kind=2:=Ab;have z:¬(b.a.nd p).kind=4:=Ab;rw[Ag,oW,t38];rcases hstart with⟨hx,rfl,rfl,rfl⟩|⟨hx,f⟩
  .simp only[abS,(HT w0).Ac,r2.Ac,Cy,B,A,z,hx]
  .simp only[abS,(HT w0).Ac,r2.Ac,Cy,B,A,z,A5 hx,f.Ac]
def aGK(w:BX h bi a o c t G b)(ok:EI b)(rm:Cx b (m+1))(s:Ah)(hs:s.length<=100000)(x:Int):
  ∃h' G',B9 cx 38 [Pt bi 0,.str s,I x] h (.tuple []) h'/\BX h' bi a o c t G' (b.EL s x)/\Ew h (BK bi G) h' (BK bi G'):=by
 unfold BS.EL;by_cases h0:x=0;.rw[Af h0];obtain⟨d,e⟩:=â w ok rm 0;exact XD (p:=(b.place 0).1) (bf:=(b.place 0).2) (.inr ⟨h0,e⟩) w w.DZ (w.JX (u:=d)) ok rm hs
 .rw[Ad h0];exact XD (p:=x) (bf:=0) (.inl ⟨h0,rfl,rfl,rfl⟩) w .refl w ok rm hs
def aGL(w:BX h bi a o c t G b)(ok:EI b)(rm:Cx b (m+4))(hr:Xy nm av r)(hv:Bb l av)(hl:Eb l)(hn:nm.length<=1000)(st:Int):
  ∃h' o' G',B9 cx 56 [Pt bi 0,.agg r,I st] h (.tuple []) h'/\BX h' bi a o' c t G' (b.EM nm l st)/\Ew h (BK bi G) h' (BK bi G'):=by
 obtain⟨h1,d,e,u,w1,i⟩:=tz w ok rm hr hv hl hn;have s:=w1.st (k:=18) (v:= I st) rfl rfl;have g:BX (put h1 bi 18 (I st)) bi a d c t e {b.Fq nm l 1 with sw:=st}:=w1.put rfl rfl w1.o w1.t;have q:=g.st (k:=5) (v:= I (b.Fq nm l 1).mode) rfl rfl;have f:BX (put (put h1 bi 18 (I st)) bi 5 (I (b.Fq nm l 1).mode)) bi a d c t e {b.Fq nm l 1 with sw:=st,OE:=(b.Fq nm l 1).mode}:=g.put rfl rfl w1.o w1.t;have n:=f.st (k:=4) (v:=I 8) rfl rfl;have j:BX (put (put (put h1 bi 18 (I st)) bi 5 (I (b.Fq nm l 1).mode)) bi 4 (I 8)) bi a d c t e (b.EM nm l st):=f.put rfl rfl w1.o w1.t;refine⟨_,d,e,?_,j,((i.trans BL).trans BL).trans BL⟩;obtain⟨H,E,D,C,B,A,z,y,eZ,sI,rfl⟩:=hr;rw[Ag,qb,t56];simp only[Cf,(HT w).Ac,u.Ac,w1.l4,s,q,n]
def aGM(w:BX h bi a o c t G b)(rm:Cx b m):
  ∃h' o',B9 cx 57 [Pt bi 0] h (.tuple []) h'/\BX h' bi a o' c t G b.CA/\Ew h (BK bi G) h' (BK bi G):=by
 have ho:=rm.AK;have d:=aFT w.sA (Ab:b.AK.length<=1000000000) 3 (v:= .sl 1 ([wP].map Ca)) (ws:=[wP]) CP AM;have em:Az (.Ch 1) [S [112]]=some (.sl 1 ([wP].map Ca)):=El (ws:=[wP]) rfl AM;unfold BS.CA;by_cases hs:Pl (Be [wP]) (NR 3) b.AK.reverse=true;.rw[Af hs];rw[hs] at d;obtain⟨g,r2,aN⟩:=aCD w.sO Ab wP;have w1:=w.MU aN;have Ee:=bR (b:=Eu wP) (a:=Db) (l:=b.AK);obtain⟨e,f,Qz⟩:=f66 w1.sO Gx (w:= .sl 1 ([wP].map Ca)) (ws:=[wP]) CP AM;refine⟨_,e,?_,w1.MU Qz,BL.trans BL⟩;rw[Ag,oY,t57];simp only[Cf,(HT w).Ac,em,d.Ac,r2.Ac,f.Ac]
 .rw[Ad hs];rw[show Pl (Be [wP]) (NR 3) b.AK.reverse=false by simpa using hs] at d;refine⟨h,o,?_,w,.refl⟩;rw[Ag,oY,t57];simp only[Cf,(HT w).Ac,em,d.Ac]
end
section
variable{h h':Ai}{bi a:Nat}{o c t:Aa}{G G' F:Nat->Prop}{b:BS}{x:Int}{m:Nat}
variable{nm:Ah}{av:Aa}{l:List A3}{r:List Aa}{sp p:Int}
def SC{U:Type}{l:List U}{n:Nat}(hn:n<l.length):(l.take (n+1)).reverse=l[n]::(l.take n).reverse:=by rw[AQ hn,HY];rfl
def aCQ(w:BX h bi a o c t G b)(rm:Cx b m)(nm:Ah):
  ∃h' o',B9 cx 44 [Pt bi 0,.str nm] h (.tuple []) h'/\BX h' bi a o' c t G (b.Dq nm)/\Ew h (BK bi G) h' (BK bi G):=by
 have ho:=rm.AK;have O5:Ev cx 44 [Pt bi 0,.str nm] h λr h'=>r= .tuple []/\∃o',BX h' bi a o' c t G (b.Dq nm)/\Ew h (BK bi G) h' (BK bi G):=by
  unfold Ev;rw[px,t44];simp only[abS,(HT w).Ac,(TG w.sA).Ac,DI (Ab: -9223372036854775808<=(b.AK.length:Int)-1) (Ab:(b.AK.length:Int)-1<9223372036854775808)];refine BM (λn:Nat=>[I ((n:Int)-1)]) (λn h1=>n<=b.AK.length/\(b.AK.reverse.find? λi=>Be [nm] i||Dj i)=((b.AK.take n).reverse.find? λi=>Be [nm] i||Dj i)/\h1=h) (λn=>n) b.AK.length rfl ⟨Ae _,by rw[BW],rfl⟩ ?_;rintro n h1 ⟨hn,ha,rfl⟩;cases n with
  |zero=>
   have e:b.Dq nm=b:=by unfold BS.Dq;rw[ha];rfl
   simp only[abS,(Ab:¬(0:Int)<=((0:Nat):Int)-1)];exact⟨_,rfl,rfl,o,by rw[e];exact w,.refl⟩
  |succ n=>
   have hlt:n<b.AK.length:=Ab;have i1:((n+1:Nat):Int)-1=(n:Int):=Ab;have j:=U7 w.sA (n:Int);rw[HH hlt] at j;have em:Az (.Ch 1) [.str nm]=some (.sl 1 ([nm].map Ca)):=El (ws:=[nm]) rfl Ax;have r2:=pP (ws:=[nm]) CP Ax b.AK[n] h1;rw[SC hlt,Hv] at ha;generalize hi:b.AK[n]=i at*;rw[Item.row] at r2;simp only[abS,Jr,i1,(Ab:(0:Int)<=(n:Int)),j.Ac,em];have f:B9 cx 133 [.agg i.row,.sl 1 ([nm].map Ca)] h1 (.bool (Be [nm] i)) h1:=r2;rw[f.Ac,Nf,Da];refine⟨λh2=>?_,λh2=>?_⟩
   .obtain⟨u,s,aN⟩:=aCD w.sO Ab nm;have w1:=w.MU aN;have Ee:=bR (b:=Eu nm) (a:=Db) (l:=b.AK);obtain⟨k,q,Qz⟩:=aFY w1.sO Gx i.node;simp only[Cf,s.Ac,q.Ac];refine⟨_,rfl,rfl,k,?_,BL.trans BL⟩;have e:b.Dq nm={b with AK:=I0 i.node (DT (Eu nm) Db b.AK)}:=by unfold BS.Dq;rw[ha];simp only[h2,OL,BE]
    rw[e];exact w1.MU Qz
   .simp only[h2,I2] at ha;simp only[(Ø i.A6 i.name).Bn rfl rfl];rw[Nf,Da];refine⟨λg=>?_,λg=>?_⟩
    .have d:Dj i=true:=g;rw[d] at ha;have e:b.Dq nm=b:=by unfold BS.Dq;rw[ha];simp only[h2,Ck,DU]
     simp only[Cf];exact⟨_,rfl,rfl,o,by rw[e];exact w,.refl⟩
    .have d:Dj i=false:=g;rw[d] at ha;simp only[Cf,DI (Ab: -9223372036854775808<=(n:Int)-1) (Ab:(n:Int)-1<9223372036854775808)];exact Bq.next n rfl ⟨Ab,ha,rfl⟩ Ab
 obtain⟨r,h',hr,rfl,o',w',x'⟩:=O5.ret;exact⟨h',o',hr,w',x'⟩
def aGN(w:BX h bi a o c t G b)(rm:Cx b m){k:Nat}(hk:k<=b.AK.length):B9 cx 231 [Pt bi 0,I (k:Int)] h (I (BS.P5 (b.AK.take k))) h:=by
 have ho:=rm.AK;rw[Ag,wL,aB8];simp only[Cf,DI (Ab: -9223372036854775808<=(k:Int)-1) (Ab:(k:Int)-1<9223372036854775808)];refine BM (λn:Nat=>[I 0,I ((n:Int)-1)]) (λn h1=>n<=k/\((b.AK.take k).reverse.find? λi=>Be [Bc] i||Be [IG] i)=((b.AK.take n).reverse.find? λi=>Be [Bc] i||Be [IG] i)/\h1=h) (λn=>n) k rfl ⟨Ae _,rfl,rfl⟩ ?_;rintro n h1 ⟨hn,ha,rfl⟩;cases n with
 |zero=>simp only[abS,(Ab:¬(0:Int)<=((0:Nat):Int)-1)];unfold BS.P5;rw[ha];rfl
 |succ n=>
  have hlt:n<b.AK.length:=Ab;have i1:((n+1:Nat):Int)-1=(n:Int):=Ab;have g:=U7 w.sA (n:Int);rw[HH hlt] at g;have f:Az (.Ch 1) [S Bc]=some (.sl 1 ([Bc].map Ca)):=El (ws:=[Bc]) rfl AM;have e:Az (.Ch 1) [S IG]=some (.sl 1 ([IG].map Ca)):=El (ws:=[IG]) rfl AM;have r2:=pP (ws:=[Bc]) CP AM b.AK[n] h1;have j:=pP (ws:=[IG]) CP AM b.AK[n] h1;rw[SC hlt,Hv] at ha;simp only[abS,i1,(Ab:(0:Int)<=(n:Int)),g.Ac,f,r2.Ac,e,j.Ac,DI (Ab: -9223372036854775808<=(n:Int)-1) (Ab:(n:Int)-1<9223372036854775808)];rw[Da];refine⟨λh2=>?_,λh2=>?_⟩;.simp only[h2,OL] at ha;unfold BS.P5;rw[ha];simp only[h2,BE]
  .simp only[h2,I2] at ha;rw[Da];refine⟨λd=>?_,λd=>?_⟩;.rw[d] at ha;unfold BS.P5;rw[ha];simp only[h2,Ck,DU]
   .rw[d] at ha;exact Bq.next n rfl ⟨Ab,ha,rfl⟩ Ab
def pS(r:Ah×Int):List Aa:=[.str r.1,I r.2]
def dT{z:Nat}{Aw:List (List Aa)}{args:List Aa}(e:args=Aw.map Aa.agg)(hz:∀r∈Aw,r.length=z)(hl:Aw.length*z<=16777216):Az (.Ch z) args=some (.sl z Aw):=by
 subst e;have f:(Aw.map Aa.agg).all (λa=>a.cells.length==z)=true:=by simp[Aa.cells];exact hz
 have d:(Aw.map Aa.agg).map (·.cells)=Aw:=by rw[aDF];exact List.map_id _
 rw[sP,f,d];simp[hl]
def uf{args:List Aa}(e:args=(JH.map pS).map Aa.agg):Az (.Ch 2) args=some (.sl 2 (JH.map pS)):=dT e (λr hr=>by obtain⟨x,_,rfl⟩:=A4.1 hr;rfl) AM
def aGO:B9 cx 230 [] h (.sl 2 (JH.map pS)) h:=by rw[Ag,wK,aB7];simp only[abS,Nat.reduceLeDiff,↓reduceIte,Br];exact(B2 (λz=>Zm z λv=>[v]=[Aa.sl 2 (JH.map pS)]) (uf rfl)).mpr (by rw[LS])
def ZM{s:Ah}{i:Item}:Be [s] i=decide (i.A6=1/\i.name=s):=by unfold Be;simp
def df{i:Item}{k:Nat}:b.NW i k=match JH.find? λr=>Be [r.1] i with
  |some r=>some r.2
  |none=>if Be [NV] i then some (BS.P5 (b.AK.take k)) else if Be [Ĥ,ĥ] i&&decide (0<k) then some 15 else if Be [Bc] i then some (b.tm.getLast?.getD 7) else if Be [Xf] i&&decide (0<k) then some 4 else if Be [Gb] i then some (if b.head=0 then 3 else 6) else if k=0 then some 7 else none:=by
 unfold BS.NW;by_cases hs:i.A6=1
 .rw[Af hs];have e:(λr:Ah×Int=>Be [r.1] i)=λr=>decide (r.1=i.name):=by funext r;rw[ZM,C9];exact⟨λh=>h.2.symm,λh=>⟨hs,h.symm⟩⟩
  rw[e];cases hf:JH.find? λr=>decide (r.1=i.name) with
  |some r=>rfl
  |none=>simp only[Be,hs,Nq,AG,J1,lM,AN,B0]
 .rw[Ad hs];have e:(λr:Ah×Int=>Be [r.1] i)=λ_=>false:=by funext r;rw[ZM,Ak (λh=>hs h.1)]
  rw[e];have d:JH.find? (λ_=>false)=none:=AM;rw[d];simp only[Be,hs,ň,E8,Ck,DU,Bool.false_and]
def aGP(w:BX h bi a o c t G b)(rm:Cx b m)(i:Item){k:Nat}(hk:k<=b.AK.length):B9 cx 158 [Pt bi 0,.agg i.row,I (k:Int)] h (.tuple [I ((b.NW i k).getD 7),.bool (b.NW i k).isSome]) h:=by
 have ho:=rm.AK;have P:=rm.tm;have rR:Bv 2 (JH.map pS) (.sl 2 (JH.map pS)):= .mk;have C:=λws hw=>pP (ws:=ws) CP hw i h;rw[df,Ag,uM,aBh];have hlen:JH.length=9:=rfl;have O:=rR.F0;rw[hlen] at O;simp only[Cf,↓reduceIte,Jr,aGO.Ac,O];refine BM (λn:Nat=>[I 0,ff,I (n:Int)]) (λn h1=>n<=9/\(JH.find? λr=>Be [r.1] i)=((JH.drop n).find? λr=>Be [r.1] i)/\h1=h) (λn=>9 -n) 0 rfl ⟨A7 _,rfl,rfl⟩ ?_;rintro n h1 ⟨hn,ha,rfl⟩;rcases Bi n 9 with hlt|GX
 .have dL:n<JH.length:=hlt;have em:Az (.Ch 1) [.str JH[n].1]=some (.sl 1 ([JH[n].1].map Ca)):=El (ws:=[JH[n].1]) rfl Ax;rw[Ay dL,Hv] at ha;simp only[Cf,Nat.reduceLeDiff,↓reduceIte,bK,(Ab:(n:Int)<((9:Nat):Int)),rR.Df dL,pS,em,(C [JH[n].1] Ax).Ac,CI (Ab:n<9223372036854775807)];rw[Da];refine⟨λh2=>?_,λh2=>?_⟩;.rw[h2] at ha;rw[ha];simp
  .rw[h2] at ha;exact Bq.next (n+1) rfl ⟨hlt,ha,rfl⟩ Ab
 .have Q:n=9:=by omega
  subst Q;have ha:(JH.find? λr=>Be [r.1] i)=none:=ha;rw[ha];have q:Az (.Ch 1) [S aUf]=some (.sl 1 ([NV].map Ca)):=El (ws:=[NV]) rfl AM;have s:Az (.Ch 1) [S [116,100],S [116,104]]=some (.sl 1 ([Ĥ,ĥ].map Ca)):=El (ws:=[Ĥ,ĥ]) rfl AM;have u:Az (.Ch 1) [S aTz]=some (.sl 1 ([Bc].map Ca)):=El (ws:=[Bc]) rfl AM;have E:Az (.Ch 1) [S aTB]=some (.sl 1 ([Xf].map Ca)):=El (ws:=[Xf]) rfl AM;have J:Az (.Ch 1) [S aTA]=some (.sl 1 ([Gb].map Ca)):=El (ws:=[Gb]) rfl AM;have f:=C [NV] AM;have d:=C [Ĥ,ĥ] AM;have g:=C [Bc] AM;have y:=C [Xf] AM;have B:=C [Gb] AM;have rs:=aGN w rm hk;have lt:=(GI.Vb (h:=h1) w.t);have j:¬((9:Nat):Int)<((9:Nat):Int):=AM;have l6:=w.l6;have D:b.tm≠[]->∃p,Az (.int .sub) [I (b.tm.length:Int),I 1]=some (I ((b.tm.length-1:Nat):Int))/\Az (.FA 1) [t,I ((b.tm.length-1:Nat):Int)]=some p/\Bj h1 none p=some (I (b.tm.getLast?.getD 7)):=by intro hne;have hpos:=Fa.2 hne;obtain⟨p,p1,p2⟩:=lt.at_ (b.tm.length-1) Ab;refine⟨p,NO hpos Ab,p1,?_⟩;rw[p2,Qo,As Ab];rfl
  by_cases g1:Be [NV] i=true;.rw[g1] at f;simp only[abS,↓reduceIte,j,q,f.Ac,rs.Ac,g1,Fy,aM4]
  .have g1:Be [NV] i=false:=by simpa using g1
   rw[g1] at f;by_cases A:0<k
   .have L:¬k=0:=by omega
    have z:¬(k:Int)=0:=Ab;have v:(0:Int)<(k:Int):=Ab;cases g2:Be [Ĥ,ĥ] i<;>rw[g2] at d;rotate_left;.simp only[Cf,↓reduceIte,j,q,f.Ac,s,d.Ac,A,v,g1,UX]
    cases g3:Be [Bc] i<;>rw[g3] at g;rotate_left
    .by_cases ht:b.tm=[];.simp only[Cf,↓reduceIte,j,q,f.Ac,s,d.Ac,u,g.Ac,A,v,g1,UX,l6,lt.len,ht,Int.natCast_zero,Ă,aO5]
     .obtain⟨p,p1,p2,K⟩:=D ht;have Ir:¬b.tm.length=0:=λe=>ht (Ŋ.1 e);simp only[Cf,↓reduceIte,j,q,f.Ac,s,d.Ac,u,g.Ac,A,v,g1,UX,l6,lt.len,(Ab:(0:Int)<(b.tm.length:Int)),p1,p2,K]
    cases N:Be [Xf] i<;>rw[N] at y;rotate_left;.simp only[Cf,↓reduceIte,j,q,f.Ac,s,d.Ac,u,g.Ac,E,y.Ac,A,v,g1,UX]
    all_goals cases M:Be [Gb] i<;>rw[M] at B
    all_goals first
     |simp only[Cf,↓reduceIte,j,q,f.Ac,s,d.Ac,u,g.Ac,E,y.Ac,J,B.Ac,A,L,z,v,g1,UX];done
     |by_cases H:b.head=0
      .simp only[Cf,↓reduceIte,j,q,f.Ac,s,d.Ac,u,g.Ac,E,y.Ac,J,B.Ac,A,z,v,g1,UX,w.l7,H]
      .simp only[Cf,↓reduceIte,j,q,f.Ac,s,d.Ac,u,g.Ac,E,y.Ac,J,B.Ac,A,z,v,g1,UX,w.l7,H]
   .have L:k=0:=by omega
    subst L;have v:¬(0:Int)<((0:Nat):Int):=AM;have z:((0:Nat):Int)=0:=rfl;by_cases g3:Be [Bc] i=true
    .rw[g3] at g;cases g2:Be [Ĥ,ĥ] i<;>rw[g2] at d<;>by_cases ht:b.tm=[];all_goals first
      |simp only[Cf,↓reduceIte,j,q,f.Ac,s,d.Ac,u,g.Ac,z,g1,g3,UX,l6,lt.len,ht,Ă,aO5,Dc];done
      |obtain⟨p,p1,p2,K⟩:=D ht
       have Ir:¬b.tm.length=0:=λe=>ht (Ŋ.1 e);simp only[Cf,↓reduceIte,j,q,f.Ac,s,d.Ac,u,g.Ac,z,g1,g3,UX,l6,lt.len,(Ab:(0:Int)<(b.tm.length:Int)),p1,p2,K,Dc]
    .have g3:Be [Bc] i=false:=by simpa using g3
     rw[g3] at g;cases g2:Be [Ĥ,ĥ] i<;>rw[g2] at d<;>cases N:Be [Xf] i<;>rw[N] at y<;>cases M:Be [Gb] i<;>rw[M] at B<;>by_cases H:b.head=0;all_goals simp only[Cf,↓reduceIte,j,q,f.Ac,s,d.Ac,u,g.Ac,E,y.Ac,J,B.Ac,z,g1,g3,UX,w.l7,H,Dc]
end
section
variable{h h':Ai}{bi a:Nat}{o c t:Aa}{G G' F:Nat->Prop}{b:BS}{x:Int}{m:Nat}
variable{nm:Ah}{av:Aa}{l:List A3}{r:List Aa}{sp p:Int}
def BX.aGQ(w:BX h bi a o c t G b):Bj h (some 4) (Pt bi 10)=some (.agg b.ctx.row):=by simp only[Bj,w.hb];rfl
def BX.aCR(w:BX h bi a o c t G b)(v:Int):BX (Am.put h bi 4 (I v)) bi a o c t G {b with mode:=v}:=w.put rfl rfl w.o w.t
def Cx.mode{v:Int}(rm:Cx b m):Cx {b with mode:=v} m:=⟨rm.n,rm.at_,rm.data,rm.AK,rm.AZ,rm.tm,rm.C7,rm.cB⟩
def ug(w:BX h bi a o c t G b)(rm:Cx b m):
  ∃h',B9 cx 59 [Pt bi 0] h (.tuple []) h'/\BX h' bi a o c t G b.IQ/\Ew h (BK bi G) h' (BK bi G):=by
 have ho:=rm.AK;have O5:Ev cx 59 [Pt bi 0] h λr h'=>r= .tuple []/\BX h' bi a o c t G b.IQ/\Ew h (BK bi G) h' (BK bi G):=by
  unfold Ev;have w1:=w.aCR 7;rw[qc,t59];simp only[abS,(HT w).Ac,w.st (k:=4) (v:=I 7) rfl rfl,(TG w1.sA).Ac,DI (Ab: -9223372036854775808<=(b.AK.length:Int)-1) (Ab:(b.AK.length:Int)-1<9223372036854775808)];refine BM (λn:Nat=>[I ((n:Int)-1)]) (λn h1=>n<=b.AK.length/\b.Tz b.AK.length=b.Tz n/\h1=Am.put h bi 4 (I 7)) (λn=>n) b.AK.length rfl ⟨Ae _,rfl,rfl⟩ ?_;rintro n h1 ⟨hn,ha,rfl⟩;cases n with
  |zero=>
   have e:b.IQ={b with mode:=7}:=by unfold BS.IQ;rw[ha];rfl
   simp only[abS,(Ab:¬(0:Int)<=((0:Nat):Int)-1)];exact⟨_,rfl,rfl,by rw[e];exact w1,BL⟩
  |succ n=>
   have hlt:n<b.AK.length:=Ab;have i1:((n+1:Nat):Int)-1=(n:Int):=Ab;have g:=U7 w1.sA (n:Int);rw[show DJ ({b with mode:=7}:BS).AK (n:Int)=b.AK[n] from HH hlt] at g;have r2:∀i:Item,B9 cx 158 [Pt bi 0,.agg i.row,I (n:Int)] (Am.put h bi 4 (I 7)) (.tuple [I ((b.NW i n).getD 7),.bool (b.NW i n).isSome]) (Am.put h bi 4 (I 7)):=λi=>aGP w1 rm.mode i (k:=n) Gx;have d:=r2 (b.GY n);have IK:∀v,CL (Am.put h bi 4 (I 7)) 1 (Pt bi 4) (I v)=some (Am.put (Am.put h bi 4 (I 7)) bi 4 (I v)):=λv=>w1.st (k:=4) rfl rfl;have e:b.Tz (n+1)=match b.NW (b.GY n) n with|some m=>m|none=>b.Tz n:=rfl
   rw[e] at ha;have fD:=w1.l9;have hlc:=w1.aGQ;have Wj:=DI (Ab: -9223372036854775808<=(n:Int)-1) (Ab:(n:Int)-1<9223372036854775808);cases hm:b.NW (b.GY n) n with
   |none=>
    rw[hm] at d ha;by_cases h0:n=0
    .have zY:((n:Int)=0)=True:=A5 Ab;cases hf:b.Po with
     |true=>
      have f:b.GY n=b.ctx:=by unfold BS.GY;rw[Af ⟨h0,hf⟩]
      rw[f] at d;rw[show({b with mode:=7}:BS).Po=true from hf] at fD;simp only[Cf,Jr,i1,g.Ac,fD,hlc,d.Ac,IK,UX,(Ab:(0:Int)<=(n:Int)),zY,Wj];exact Bq.next n rfl ⟨Ab,ha,rfl⟩ Ab
     |false=>
      have f:b.GY n=b.AK[n]:=by unfold BS.GY;rw[Ad (by simp[hf]),AR,As hlt];rfl
      rw[f] at d;rw[show({b with mode:=7}:BS).Po=false from hf] at fD;simp only[Cf,Jr,i1,g.Ac,fD,hlc,d.Ac,IK,UX,(Ab:(0:Int)<=(n:Int)),zY,Wj];exact Bq.next n rfl ⟨Ab,ha,rfl⟩ Ab
    .have f:b.GY n=b.AK[n]:=by unfold BS.GY;rw[Ad (by simp[h0]),AR,As hlt];rfl
     rw[f] at d;have zY:¬(n:Int)=0:=Ab;simp only[Cf,Jr,i1,g.Ac,d.Ac,IK,UX,(Ab:(0:Int)<=(n:Int)),zY,Wj];exact Bq.next n rfl ⟨Ab,ha,rfl⟩ Ab
   |some v=>
    rw[hm] at d ha;have e:b.IQ={b with mode:=v}:=by unfold BS.IQ;rw[ha]
    have j:BX (Am.put (Am.put h bi 4 (I 7)) bi 4 (I v)) bi a o c t G b.IQ:=by rw[e];exact w1.aCR v
    by_cases h0:n=0
    .have zY:((n:Int)=0)=True:=A5 Ab;cases hf:b.Po with
     |true=>
      have f:b.GY n=b.ctx:=by unfold BS.GY;rw[Af ⟨h0,hf⟩]
      rw[f] at d;rw[show({b with mode:=7}:BS).Po=true from hf] at fD;simp only[Cf,Jr,i1,g.Ac,fD,hlc,d.Ac,IK,UX,(Ab:(0:Int)<=(n:Int)),zY];exact⟨_,rfl,rfl,j,BL.trans BL⟩
     |false=>
      have f:b.GY n=b.AK[n]:=by unfold BS.GY;rw[Ad (by simp[hf]),AR,As hlt];rfl
      rw[f] at d;rw[show({b with mode:=7}:BS).Po=false from hf] at fD;simp only[Cf,Jr,i1,g.Ac,fD,hlc,d.Ac,IK,UX,(Ab:(0:Int)<=(n:Int)),zY];exact⟨_,rfl,rfl,j,BL.trans BL⟩
    .have f:b.GY n=b.AK[n]:=by unfold BS.GY;rw[Ad (by simp[h0]),AR,As hlt];rfl
     rw[f] at d;have zY:¬(n:Int)=0:=Ab;simp only[Cf,Jr,i1,g.Ac,d.Ac,IK,UX,(Ab:(0:Int)<=(n:Int)),zY];exact⟨_,rfl,rfl,j,BL.trans BL⟩
 obtain⟨r,h',hr,rfl,w',x'⟩:=O5.ret;exact⟨h',hr,w',x'⟩
def dg{h0 u:Ai}{V:Aa}{L:List A3}{N:Nat}(j:N=h0.length)(g:Ky (h0++u) V L)(i:Up N V)(hb:L.length<=1000000000)(y:A3):
  ∃f d,GP (h0++u) 3 40 V (.sl 3 [y.row])=some (h0++f,d)/\Ky (h0++f) d (L++[y])/\Up N d:=by
 subst j;have xi:AO=140737488355328:=rfl;rcases g with⟨rfl,rfl⟩|⟨id,rfl,hc,hl⟩
 .refine⟨u++[.cells (([y]:List A3).map A3.row).flatten],.C3 (h0++u).length 0 1 3,by rw[<-AS];rfl,.inr ⟨(h0++u).length,rfl,Ax,Ax⟩,λid k e=>by injection e with e;rw[<-e,Aq];omega⟩
 .have HV:h0.length<=id:=i id _ rfl;have hg:=Q4 (b:=40) (Aw:=L.map A3.row) (r2:=[y.row]) (v:= .sl 3 [y.row]) (aCF L) AM hc .mk Ax (by rw[Av];simp;omega);rw[Av] at hg;have e:(h0++u).set id .DF++[.cells (L.map A3.row++[y.row]).flatten]=h0++(u.set (id-h0.length) .DF++[.cells ((L++[y]).map A3.row).flatten]):=by rw[B5 _ _ HV,AS,BU];rfl
  rw[e] at hg;have lS:(h0++(u.set (id-h0.length) ED.DF++[.cells ((L++[y]).map A3.row).flatten]))=(h0++u.set (id-h0.length) ED.DF)++[.cells ((L++[y]).map A3.row).flatten]:=by rw[AS]
  have sG:(h0++u.set (id-h0.length) ED.DF).length=(h0++u).length:=Ax;refine⟨_,_,hg,.inr ⟨(h0++u).length,Ax,?_,?_⟩,λid k e=>by injection e with e;rw[<-e,Aq];omega⟩;.rw[lS,<-sG,BI (Ae _),Dy];rfl
  .rw[lS];simp only[Aq,BV,AJ,Bt];omega
def aGR(y c:A3)(h:Ai):B9 cx 160 [.agg c.row,.BR y.row] h (.bool (decide (keyOf ⟨0,y.name,y.value⟩=keyOf c))) h:=by
 rw[Ag,uN,aBi,A3.row,A3.row];simp only[Cf];refine⟨λh1=>?_,λh1=>?_⟩;.congr 2;rw[C9];simp[keyOf,h1];exact gu
 .rw[Ak (λe=>h1 (by simp[keyOf] at e;exact e.1.symm))]
def A3.dh{y:A3}:(⟨0,y.name,y.value⟩:A3).row=[I 0,.str y.name,.str y.value]:=rfl
def TI(k:Int×Ah):∀{l out:List A3},(Gw out l).any (λz=>decide (k=keyOf z))=(out++l).any λz=>decide (k=keyOf z)
 |[],out=>by simp[Gw]
 |y::l,out=>by
  rw[Gw];split
  .rename_i h;rw[TI k,List.any_append,List.any_append,Ru];by_cases hk:k=keyOf y;.subst hk;rw[h];rfl
   .simp[hk]
  .rw[TI k,AS];rfl
def uh(k:Int×Ah)(l:List A3):(C8 l).any (λz=>decide (k=keyOf z))=l.any λz=>decide (k=keyOf z):=TI k
def TJ{l:List A3}{y:A3}:C8 (l++[y])=if(C8 l).any (λz=>decide (keyOf y=keyOf z)) then C8 l else C8 l++[y]:=Xv
def aGS(w:BX h bi a o c t G b)(ok:EI b)(rm:Cx b (m+1000))(hr:Xy nm av r)(hv:Bb l av)(hl:Eb l)(x:Int):
  ∃h' G',B9 cx 60 [Pt bi 0,.agg r,I x] h (.tuple []) h'/\BX h' bi a o c t G' (b.GR l x)/\Ew h (BK bi G) h' (BK bi G'):=by
 obtain⟨K1,V1,d,B,_,_⟩:=Vc w ok rm x;have w1:=w.JX (u:=d);obtain⟨Y,X,W,U,T,S,Q,P,eZ,sI,rfl⟩:=hr;have v:Ew h (BK bi G) (h++d) (BK bi G):=w.DZ;by_cases hk:(b.a.nd x).kind=4;rotate_left;.refine⟨h++d,G,?_,by unfold BS.GR;rw[Ad hk];exact w1,v⟩;rw[Ag,o7,t60];simp only[abS,↓reduceIte,(HT w).Ac,B.Ac,Cy,hk]
 obtain⟨K2,Z,A,r2,_,f,g⟩:=Vc w1 ok rm x;have w2:=w1.JX (u:=A);have x2:Ew h (BK bi G) (h++d++A) (BK bi G):=v.trans w1.DZ;have hx:b.a.has x:=by
  by_cases hp:b.a.has x;.exact hp
  .rw[Ov hp] at hk;simp at hk
 have aM:=rm.at_ x;have rO:=hl.1;have O5:Ev cx 60 [Pt bi 0,.agg [Y,.str nm,X,W,U,T,S,Q,av,P,eZ,sI],I x] h λr h'=>r= .tuple []/\∃G',BX h' bi a o c t G' (b.GR l x)/\Ew h (BK bi G) h' (BK bi G'):=by
  unfold Ev;rw[o7,t60];have hvl:=Bv.F0 hv;simp only[abS,↓reduceIte,(HT w).Ac,B.Ac,r2.Ac,Cy,hk,hvl];refine BM (λs:Aa×Nat=>[s.1,I (s.2:Int)]) (λs h1=>∃u L,h1=h++d++u/\s.2<=l.length/\Ky h1 s.1 L/\Up (h++d).length s.1/\C8 L=C8 ((b.a.nd x).Au++BS.plain (l.take s.2))/\(∀y∈L,BS.LW y.A6)/\L.length<=(b.a.nd x).Au.length+s.2) (λs=>l.length-s.2) (Z,0) rfl ⟨A,(b.a.nd x).Au,rfl,A7 _,f,g,?_,?_,Ax⟩ ?_;.simp[BS.plain]
  .exact λy hy=>(ok.ok.Uw x hx).z_ y hy
  rintro⟨V,n⟩ h1 ⟨u,L,rfl,hn,f,g,j,hs,Ee⟩;simp only at hn f g j Ee;rcases Bi n l.length with hlt|GX
  .have E:=Bv.Df (k:= .i64) hv hlt;rw[A3.row] at E;have i:=ĵ f.in_ Ab (F:= .func (.func 160) [] [.BR l[n].row]) (q:=λc=>decide (keyOf ⟨0,l[n].name,l[n].value⟩=keyOf c)) ⟨_,_,rfl,AM,λc=>aGR l[n] c _⟩;rw[A3.row] at i;obtain⟨O,V',g1,g2,g3⟩:=dg (N:=(h++d).length) rfl f g Ab ⟨0,l[n].name,l[n].value⟩;rw[A3.dh] at g1;have em:Az (.Ch 3) [.agg [I 0,.str l[n].name,.str l[n].value]]=some (.sl 3 [[I 0,.str l[n].name,.str l[n].value]]):=rfl;have H:C8 ((b.a.nd x).Au++BS.plain (l.take (n+1)))=C8 (L++[⟨0,l[n].name,l[n].value⟩]):=by rw[AQ hlt,BS.plain,BU,<-AS,aM7,TJ,TJ,j];rfl
   have D:C8 (L++[⟨0,l[n].name,l[n].value⟩])=if L.any (λz=>decide (keyOf ⟨0,l[n].name,l[n].value⟩=keyOf z)) then C8 L else C8 L++[⟨0,l[n].name,l[n].value⟩]:=by rw[TJ,uh]
   simp only[abS,Nat.reduceLeDiff,↓reduceIte,Br,(Ab:(n:Int)<(l.length:Int)),E,i.Ac,em,g1,CI (Ab:n<9223372036854775807)];rw[Da];refine⟨λh2=>?_,λh2=>?_⟩
   .refine Bq.next (V',n+1) rfl ⟨O,_,rfl,hlt,g2,g3,H.symm,?_,Ei⟩ Gx;intro y hy;rcases Ap.1 hy with hy|hy
    .exact hs y hy
    .simp at hy;subst hy;exact⟨Gx,Gx⟩
   .have h2:(L.any λz=>decide (keyOf ⟨0,l[n].name,l[n].value⟩=keyOf z))=true:=by simpa using h2
    rw[Af h2] at D;exact Bq.next (V,n+1) rfl ⟨u,L,rfl,hlt,f,g,by rw[H,D],hs,Gx⟩ Gx
  .have Qj:n=l.length:=by omega
   subst Qj;rw[BW] at j;simp only[abS,↓reduceIte,(Ab:¬(l.length:Int)<(l.length:Int)),(w1.JX (u:=u)).l0];obtain⟨C,G3,i,M,J⟩:=(w1.JX (u:=u)).step (A':=b.a.LY x L) (R:=λC=>B9 cx 161 [Pt a 0,I x,V] (h++d++u) (I 0) C) λn m ps K=>by obtain⟨h',Mi,f1,f2,f3⟩:=aGa K rm.UZ hx hk f.in_ Ab hs;exact⟨h',n,m,Mi,f1,f2,f3⟩
   have e:b.GR l x={b with a:=b.a.LY x L}:=by unfold BS.GR;rw[Af hk];unfold Ar.LY;rw[j]
   simp only[Cf,i.Ac];refine⟨_,rfl,rfl,G3,?_,?_⟩;.rw[e];exact M
   .exact(v.trans w1.DZ).trans J
 obtain⟨r,h',hr,rfl,G',w',x'⟩:=O5.ret;exact⟨h',G',hr,w',x'⟩
end
section
variable{h h':Ai}{bi a:Nat}{o c t:Aa}{G G' F:Nat->Prop}{b b':BS}{x:Int}{m:Nat}
variable{nm:Ah}{av:Aa}{l:List A3}{r:List Aa}{sp p:Int}
def Cx.sub(rm:Cx b m)(ha:b'.a=b.a)(ho:b'.AK.Sublist b.AK)(hc:b'.AZ.Sublist b.AZ)(ht:b'.tm.length<=b.tm.length):Cx b' m:=
 ⟨by rw[ha];exact rm.n,by rw[ha];exact rm.at_,by rw[ha];exact rm.data,by have:=rm.AK;have:=ho.length_le;omega,by have:=rm.AZ;have:=hc.length_le;omega,by have:=rm.tm;omega,λe he=>rm.C7 e (hc.subset he),λi hi=>rm.cB i (ho.subset hi)⟩
def æ{v:Aa}{l:List Int}(hv:GI l v)(hb:l.length<=1000000000)(h:Ai):∃u,B9 cx 80 [v] h u h/\GI l u:=by
 have Gm:Bv 1 (l.map DN) v:=hv;have hm:AO=140737488355328:=rfl;obtain⟨u,e,hu⟩:=Bv.be (l:=([]:List Int)) (f:=DN) (v:= .sl 1 []) (b:=8) .mk Gm Ei;rcases Gm with rfl|⟨rfl,h0⟩
 .refine⟨u,?_,hu⟩;rw[Ag,o9,t80];simp only[Cf,show Az (.Ga false .sl) [.sl 1 (l.map DN),.slnil]=some (.bool false) from rfl,show Az (.Ch 1) []=some (.sl 1 []) from rfl,e]
 .refine⟨.slnil,?_,.inr ⟨rfl,h0⟩⟩;rw[Ag,o9,t80];simp only[Cf,show Az (.Ga false .sl) [.slnil,.slnil]=some (.bool true) from rfl]
def BX.ui{u:Aa}{l:List Int}(w:BX h bi a o c t G b)(hu:GI l u):BX (Am.put h bi 6 u) bi a o c u G {b with tm:=l}:=w.put rfl rfl w.o hu
def yD:Az (.Ch 1) [S aTz]=some (.sl 1 ([Bc].map Ca)):=El (ws:=[Bc]) rfl AM
def aGT(w:BX h bi a o c t G b)(hc:Di b.AZ c)(rm:Cx b m):
  ∃h' o' c' t',B9 cx 61 [Pt bi 0] h (.tuple []) h'/\BX h' bi a o' c' t' G b.Dd/\Di b.Dd.AZ c'/\Ew h (BK bi G) h' (BK bi G):=by
 have ho:=rm.AK;have X7:=rm.AZ;have P:=rm.tm;have A:=f144 w.sA Ab Bc;by_cases Jt:AX (Be [Bc]) b.AK<0;.refine⟨h,o,c,t,?_,by unfold BS.Dd;rw[Af Jt];exact w,by unfold BS.Dd;rw[Af Jt];exact hc,.refl⟩;rw[Ag,cE,t61];simp only[abS,(HT w).Ac,A.Ac,Jt]
 obtain⟨y,r2,aN⟩:=aKQ w.sO Ab;have w1:=w.MU aN;have l1:(DT DM Db b.AK).length<=b.AK.length:=bR;obtain⟨f,J,Qz⟩:=f66 w1.sO Gx (CP (ws:=[Bc])) AM;have E:=w1.MU Qz;obtain⟨fs,Jy,hcs⟩:=hc;have Io:fs.length=b.AZ.length:=by rw[<-Jy,Av]
 obtain⟨d,H,C⟩:=f65 (show Tt _ bi 3 fs from⟨c,E.pO,hcs⟩) Ab;have j:=E.Qm (u:=d) (l:=Fx b.AZ);have Zg:Di (Fx b.AZ) d:=⟨_,by rw[dR,Jy],C⟩;have lt:=Bv.F0 w.t;have l6:=j.l6;have e:b.Dd=BS.IQ {b with AK:=DT Db (Be [Bc]) (DT DM Db b.AK),AZ:=Fx b.AZ,tm:=b.tm.dropLast}:=by unfold BS.Dd;rw[Ad Jt]
 have sO:(DT Db (Be [Bc]) (DT DM Db b.AK)).Sublist b.AK:=(Cs (p:=Db) (q:=Be [Bc]) (l:=DT DM Db b.AK)).trans Cs;have D:Ew h (BK bi G) (put (put (put h bi 2 y) bi 2 f) bi 3 d) (BK bi G):=(BL.trans BL).trans BL;by_cases h0:b.tm=[]
 .have v:BX (put (put (put h bi 2 y) bi 2 f) bi 3 d) bi a f d t G {b with AK:=DT Db (Be [Bc]) (DT DM Db b.AK),AZ:=Fx b.AZ,tm:=b.tm.dropLast}:=by
   have:b.tm.dropLast=b.tm:=by rw[h0];rfl
   rw[this];exact j
  obtain⟨R,z,s,L⟩:=ug v (rm.sub (b':={b with AK:=DT Db (Be [Bc]) (DT DM Db b.AK),AZ:=Fx b.AZ,tm:=b.tm.dropLast}) rfl sO (Cl _ _) Ax);refine⟨R,f,d,t,?_,by rw[e];exact s,by rw[e];exact Zg,D.trans L⟩;have B:Az (.len false) [t]=some (I 0):=by rw[lt,h0];rfl
  rw[Ag,cE,t61];simp only[abS,(HT w).Ac,A.Ac,Jt,r2.Ac,yD,J.Ac,H.Ac,l6,B,z.Ac,UX]
 .have hpos:=Fa.2 h0;obtain⟨T,S,i⟩:=Bv.Sg w.t (k:= .i64) (n:=b.tm.length-1) Ab;rw[<-aEg] at i;obtain⟨N,z,g⟩:=æ i Ei (put (put (put h bi 2 y) bi 2 f) bi 3 d);have s:=j.ui g;obtain⟨Q,O,M,K⟩:=ug s (rm.sub (b':={b with AK:=DT Db (Be [Bc]) (DT DM Db b.AK),AZ:=Fx b.AZ,tm:=b.tm.dropLast}) rfl sO (Cl _ _) Ax);refine⟨Q,f,d,N,?_,by rw[e];exact M,by rw[e];exact Zg,(D.trans BL).trans K⟩;rw[Ag,cE,t61];simp only[abS,(HT w).Ac,A.Ac,Jt,r2.Ac,yD,J.Ac,H.Ac,l6,lt,(Ab:(0:Int)<(b.tm.length:Int)),NO hpos (Ab:b.tm.length<9223372036854775807),S,z.Ac,j.st (k:=6) (v0:=t) rfl (Bv.cells g),O.Ac,UX]
def aGW(w:BX h bi a o c t G b):∃h',B9 cx 39 [Pt bi 0] h (.tuple []) h'/\BX h' bi a o c t G {b with stop:=true}/\Ew h (BK bi G) h' (BK bi G):=by refine⟨_,?_,w.put (k:=19) (v:= .bool true) rfl rfl w.o w.t,BL⟩;rw[Ag,pj,t39];simp only[Cf,(HT w).Ac,w.st (k:=19) (v:=tt) rfl rfl]
def aCS(w:BX h bi a o c t G b)(rm:Cx b m):∃h' o',B9 cx 64 [Pt bi 2] h (.agg b.cj.row) h'/\BX h' bi a o' c t G b.KI/\Ew h (BK bi G) h' (BK bi G):=by
 have ho:=rm.AK;have ld:Bj h none (Pt bi 2)=some o:=w.ld 2;have lo:=Bv.F0 w.o;unfold BS.KI BS.cj;by_cases h2:b.AK.length<2;.refine⟨h,o,?_,by rw[Af h2];exact w,.refl⟩;rw[Af h2,Ag,cF,t64];simp only[abS,↓reduceIte,Br,(TG w.sA).Ac,(Ab:(b.AK.length:Int)<2)];rfl
 .obtain⟨u,e,hu⟩:=Bv.Sg w.o (k:= .i64) (n:=b.AK.length-1) Ab;refine⟨_,u,?_,by rw[Ad h2];exact w.MU hu,BL⟩;rw[Ad h2,Ag,cF,t64];simp only[abS,↓reduceIte,Br,Jr,(TG w.sA).Ac,(Ab:¬(b.AK.length:Int)<2),(f39 w.sA Ab).Ac,ld,lo,NO (Ab:0<b.AK.length) (Ab:b.AK.length<9223372036854775807),e,w.st (k:=2) (v0:=o) rfl (Bv.cells hu)]
end
def SD{U:Type}(enc:U->List Aa)(DG:U->Ai->Prop)(Z:U->Nat)(i:Nat)(HM:U->Ai->Prop)(s:U):J7:=
 λx vs h1=>(x= .normal/\∃s',vs=enc s'/\DG s' h1/\Z s'<Z s)\/(x= .exit i/\∃s',vs=enc s'/\HM s' h1)
def SD.next{U:Type}{enc:U->List Aa}{DG HM:U->Ai->Prop}{Z:U->Nat}{i:Nat}{s:U}{vs:List Aa}{h:Ai}(s':U)(e:vs=enc s')(hi:DG s' h)(hl:Z s'<Z s):SD enc DG Z i HM s .normal vs h:= .inl ⟨rfl,s',e,hi,hl⟩
def SD.HM{U:Type}{enc:U->List Aa}{DG HM:U->Ai->Prop}{Z:U->Nat}{i:Nat}{s:U}{vs:List Aa}{h:Ai}(s':U)(e:vs=enc s')(hi:HM s' h):SD enc DG Z i HM s (.exit i) vs h:= .inr ⟨rfl,s',e,hi⟩
def En{C:Fv}{Q:J7}{h:Ai}{U:Type}{key i:Nat}{init:List Aa}{body:List Aa->IT}{k:FG->List Aa->IT}(enc:U->List Aa)(DG:U->Ai->Prop)(Z:U->Nat)(HM:U->Ai->Prop)(s0:U)(h0:init=enc s0)(hi:DG s0 h)
  (round:∀s h,DG s h->W C (body (enc s)) (SD enc DG Z i HM s) h) (hk:∀s h,HM s h->W C (k (.exit i) (enc s)) Q h):W C (.loop key init body k) Q h:=by
 refine BM enc DG Z s0 h0 hi λs h hs=>W.mono (round s h hs) ?_;rintro x vs h1 (hn|⟨rfl,s',rfl,hf⟩);.exact .inl hn
 .exact .inr ⟨Ax,hk s' h1 hf⟩
def di{h:Ai}{id z:Nat}{Aw:List (List Aa)}(hr:∀r∈Aw,r.length=z)(hc:h[id]?=some (.cells Aw.flatten)){i:Nat}(hi:i<Aw.length):Bj h (some z) (Pt id (i*z))=some (.agg Aw[i]):=by
 have hl:i*z+z<=Aw.flatten.length:=by rw[Gt hr];have:=DV z (Ab:i+1<=Aw.length);rwa [BA,Ed] at this
 simp only[Bj,hc,Ms];rw[Af hl,Iu hr,Ay hi,CH,Du (by rw[hr _ (AY hi)];exact Ae _),A8 (by rw[hr _ (AY hi)];exact Ae _)]
section
variable{h h':Ai}{bi a:Nat}{o c t:Aa}{G G' F:Nat->Prop}{b b':BS}{x:Int}{m:Nat}
variable{nm:Ah}{av:Aa}{l:List A3}{r:List Aa}{sp p:Int}
def uj(e:C1)(h:Ai):∃r,B9 cx 122 [.agg e.row] h (.agg r) h/\Xy e.c.name e.v r:=by have hv:e.v.cells=[e.v]:=Bv.cells e.ok;refine⟨_,?_,I 2,ff,S [],ff,S [],ff,ff,ff,S [],.int .i32 0,rfl⟩;rw[Ag,tT,aAZ,C1.row];simp only[abS,Nat.reduceLeDiff,↓reduceIte,Br,hv]
def ZN:∀{l:List Co} {b:BS} {m:Nat},Cx b (m+4*l.length)->(∀e∈l,e.name.length<=1000/\Eb e.Au)->Cx (BS.Lq l b).2 m
 |[],b,m,r,_=>by simpa[BS.Lq] using r
 |e::l,b,m,r,hl=>by have h1:=hl e Ax;rw[BS.Lq];exact ZN (L0 (m:=m+4*l.length) (r.le Ei) h1.2 h1.1) λx hx=>hl x (by simp[hx])
def dU:b.OG<=b.AZ.length:=by unfold BS.OG;rcases DX (q:=b.settled) (l:=b.AZ) with⟨h,_⟩|⟨n,h1,h2,_⟩<;>omega
structure dV(h:Ai)(bi a:Nat)(t:Aa)(G0:Nat->Prop)(b:BS)(fs:List C1)(id m k:Nat)(h1:Ai):Prop where
 le:k<=fs.length
 low:b.OG<=k
 ex:∃(o:Aa) (G:Nat->Prop) (b1:BS) (Kz:List C1),BX h1 bi a o (.C3 id 0 fs.length 3) t G b1/\EI b1/\Cx b1 (m+4*(fs.length-k))/\h1[id]?=some (.cells (Kz.map C1.row).flatten)/\Kz.length=fs.length/\Kz.drop k=fs.drop k/\
  BS.Bf b={(BS.Lq (b.AZ.drop k) b1).2 with AZ:=(Kz.take k).map (·.c)++(BS.Lq (b.AZ.drop k) b1).1}/\¬BK bi G id/\Ew h (BK bi G0) h1 (BK bi G)
def BX.dW(w:BX h bi a o c t G {b with AZ:=b.AZ}):BX h bi a o c t G b:=w
def XE{h1:Ai}{id:Nat}{v v':Aa}(ha:At h id 3 v)(hf:Li h v=some (h1,v'))(he:h1[id]?=h[id]?):LJ h 3 (Pt id 0)=some (Am.put h1 id 3 v'):=by obtain⟨cs,hc,e⟩:=ha;rw[hc] at he;unfold LJ;simp only[hc,BJ,e,hf,Cm,he];rw[IF he]
def ç{v:Aa}{l:List C1}(hv:EF l v):Li h v=some (h,v):=by rcases hv with rfl|⟨rfl,_⟩<;>rfl
def aGX{v:Aa}(hv:EF [] v)(h:Ai):∃u,B9 cx 121 [v] h u h/\EF [] u:=by
 have d:=iL (h:=h) (s:= .sl 3 []) (b:=48) (.inr rfl) hv;rcases hv with rfl|⟨rfl,h0⟩
 .refine⟨.sl 3 [],?_,.mk⟩;rw[Ag,Vs,rl];simp only[Dw] at d;simp only[Cf,Dw,show Az (.Ga false .sl) [.sl 3 [],.slnil]=some (.bool false) from rfl,show Az (.Ch 3) []=some (.sl 3 []) from rfl,d]
 .refine⟨.slnil,?_,.inr ⟨rfl,rfl⟩⟩;rw[Ag,Vs,rl];simp only[Cf,show Az (.Ga false .sl) [.slnil,.slnil]=some (.bool true) from rfl]
def dV.init(w:BX h bi a o c t G b)(ok:EI b)(rm:Cx b (m+4*b.AZ.length)){fs:List C1}(Jy:fs.map (·.c)=b.AZ):
  dV h bi a t G b fs h.length m b.OG (Am.put (h++[.cells (fs.map C1.row).flatten]) bi 3 (.C3 h.length 0 fs.length 3)):=by
 have Io:b.AZ.length=fs.length:=by rw[<-Jy,Av]
 have hk:=dU (b:=b);have hne:h.length≠bi:=Nat.ne_of_gt w.lt;refine⟨Ab,Ae _,o,G,b,fs,((w.JX (u:=[.cells (fs.map C1.row).flatten])).Qm (l:=b.AZ)).dW,ok,rm.le Ab,?_,rfl,rfl,?_,?_,w.DZ.trans BL⟩;.rw[CV hne];simp
 .unfold BS.Bf;simp only;rw[HQ,Jy]
 .rintro(rfl|hg);.exact hne rfl
  .exact absurd (w.w.lt hg) (Dc _)
def dV.step{fs:List C1}{id k:Nat}{h1:Ai}(Jy:fs.map (·.c)=b.AZ)(Rg:∀e∈b.AZ,e.name.length<=1000/\Eb e.Au)(hi:h.length<=id)(hlt:k<fs.length)(i:dV h bi a t G b fs id m k h1):
  ∃(r:List Aa) (h2:Ai) (n:Int),Bj h1 none (Pt bi 3)=some (.C3 id 0 fs.length 3)/\Bj h1 (some 3) (Pt id (k*3))=some (.agg fs[k].row)/\B9 cx 122 [.agg fs[k].row] h1 (.agg r) h1/\B9 cx 42 [Pt bi 0,.agg r] h1 (I n) h2/\Bj h2 none (Pt bi 3)=some (.C3 id 0 fs.length 3)/\
   CL h2 1 (Pt id (k*3)) (I n)=some (Am.put h2 id (k*3) (I n))/\dV h bi a t G b fs id m (k+1) (Am.put h2 id (k*3) (I n)):=by
 obtain⟨E,H,b1,Kz,w1,ZJ,f,Yg,fA,g,è,RP,q⟩:=i.ex;have dX:k<Kz.length:=Ab;have Io:b.AZ.length=fs.length:=by rw[<-Jy,Av]
 have aGY:k<b.AZ.length:=Ab;have s:Kz[k]=fs[k]:=by have:=B2 (λl=>l[0]?) g;simp only[Cp,Bk] at this;rw[As dX,As hlt] at this;exact DE this
 have z:b.AZ[k]=fs[k].c:=by simp only[<-Jy,ET]
 have ŭ:=di (Tu Kz) Yg (i:=k) (by simpa using dX);rw[ET,s] at ŭ;have Rg:=Rg fs[k].c (by rw[<-z];exact AY aGY);obtain⟨r,B,hr⟩:=uj fs[k] h1;obtain⟨h2,C,A,r2,y,d⟩:=tz (m:=m+4*(fs.length-(k+1))) w1 ZJ (f.le Ab) hr fs[k].ok Rg.2 Rg.1;have yr:id<h1.length:=(Aj.1 Yg).1;have KX:h2[id]?=some (.cells (Kz.map C1.row).flatten):=by rw[d.old id yr RP];exact Yg
 have eV:¬BK bi A id:=λhg=>by
  rcases d.BK id hg with hg|hg
  .exact RP hg
  .omega
 have w:At h2 id (k*3) (I fs[k].c.node):=⟨_,KX,by have:=Pv (k:=0) (Tu Kz) AM (i:=k) (r:=fs[k].row) (by rw[Cd,As dX,s];rfl);rw[Bk] at this;rw[this];rfl⟩
 let u:C1:=⟨{fs[k].c with node:=b1.a.len+1},fs[k].v,fs[k].ok⟩
 have hrow:(Kz.map C1.row).flatten.set (k*3) (I (b1.a.len+1))=((Kz.set k u).map C1.row).flatten:=by have:=TH (Aw:=Kz.map C1.row) (i:=k) (k:=0) (v:= I (b1.a.len+1)) (Tu Kz) (by simpa using dX) AM;rw[Bk] at this;rw[GO,Cv,Af (by rw[Gt (Tu Kz),Av];omega)];rw[AS] at this;rw[show u.row=((Kz.map C1.row)[k]'(by simpa using dX)).set 0 (I (b1.a.len+1)) by rw[ET,s];rfl];exact this
 have D:id≠bi:=λe=>eV (.inl e);refine⟨r,h2,b1.a.len+1,w1.l3,ŭ,B,r2,y.l3,w.store rfl,⟨hlt,by have:=i.low;omega,C,A,_,Kz.set k u,y.DQ λj hj=>CV λe=>eV (e▸hj),Rf ZJ,L0 (m:=m+4*(fs.length-(k+1))) (f.le Ab) Rg.2 Rg.1,?_,by rw[BV];exact fA,?_,?_,eV,⟨by rw[Lo];exact(q.trans d).len,λj hj hn=>(CV Ab).trans ((q.trans d).old j hj hn),(q.trans d).BK⟩⟩⟩;.rw[IF KX,AE (by have:=d.len;omega),hrow]
 .rw[aIQ (SZ k)];have:=B2 (λl=>l.drop 1) g;simpa[Es] using this
 .rw[è,Ay aGY,z,BS.Lq];simp only
  congr 1
  rw[AQ (by rw[BV];exact dX),List.getElem_set_self,BU,YI (Ae k),AS];rfl
def aGZ(w:BX h bi a o c t G b)(hc:Di b.AZ c)(ok:EI b)(rm:Cx b (m+4*b.AZ.length)):
  ∃h' o' c' G',B9 cx 41 [Pt bi 0] h (.tuple []) h'/\BX h' bi a o' c' t G' b.Bf/\Di b.Bf.AZ c'/\Ew h (BK bi G) h' (BK bi G'):=by
 have ho:=rm.AK;have X7:=rm.AZ;obtain⟨fs,Jy,hcs⟩:=hc;have Io:b.AZ.length=fs.length:=by rw[<-Jy,Av]
 have O5:Ev cx 41 [Pt bi 0] h λr h'=>r= .tuple []/\∃o' c' G',BX h' bi a o' c' t G' b.Bf/\Di b.Bf.AZ c'/\Ew h (BK bi G) h' (BK bi G'):=by
  unfold Ev;have l3:=w.l3;have lc:=Bv.F0 hcs;rw[pq,t41];simp only[abS,(HT w).Ac,l3,lc];refine En (i:=0) (λn:Nat=>[I (n:Int)]) (λn h1=>n<=fs.length/\AX b.settled b.AZ=AX b.settled (b.AZ.take n)/\h1=h) (λn=>n) (λn h1=>n=b.OG/\h1=h) fs.length rfl ⟨Ae _,by rw[<-Io,BW],rfl⟩ ?_ ?_
  .rintro n h1 ⟨hn,ha,rfl⟩;cases n with
   |zero=>simp only[abS,(AM:¬(0:Int)<((0:Nat):Int))];refine .HM 0 rfl ⟨?_,rfl⟩;unfold BS.OG;rw[ha];rfl
   |succ n=>
    have hlt:n<b.AZ.length:=Ab;have dL:n<fs.length:=Ab;rw[NQ hlt] at ha;have i1:=NO (n:=n+1) (Ab:0<n+1) (Ab:n+1<9223372036854775807);rw[eT] at i1;have d:=Bv.Df (k:= .i64) hcs dL;have en:fs[n].c.node=b.AZ[n].node:=by simp only[<-Jy,ET]
    have f:=Yx w.sA Ab b.AZ[n].node;have g:b.settled b.AZ[n]=true->n+1=b.OG:=by intro hs;rw[Af hs] at ha;unfold BS.OG;rw[ha];omega
    rw[C1.row,en] at d;simp only[abS,(Ab:(0:Int)<((n+1:Nat):Int)),l3,i1,d,f.Ac,Cy];refine⟨λh1=>⟨λh2=>?_,λh2=>?_⟩,λh1=>?_⟩
    .have hs:b.settled b.AZ[n]=false:=by unfold BS.settled;rw[Ak];omega
     rw[Ad (by rw[hs];decide)] at ha;exact .next n rfl ⟨Ab,ha,rfl⟩ Ab
    .exact .HM (n+1) rfl ⟨g (by unfold BS.settled;rw[Al];omega),rfl⟩
    .exact .HM (n+1) rfl ⟨g (by unfold BS.settled;rw[Al];omega),rfl⟩
  .rintro n h1 ⟨rfl,Q⟩;rw[Q];by_cases hne:fs=[]
   .subst hne;have ha:b.AZ=[]:=Jy.symm;have g:b.OG=0:=by have:=dU (b:=b);rw[ha] at this;exact Nat.le_zero.1 this
    have hb:b.Bf=b:=by unfold BS.Bf;rw[ha];simp only[List.drop_nil,BS.Lq,List.take_nil,BT];rw[<-ha]
    obtain⟨u,f,hu⟩:=aGX hcs h;have w1:=(w.Qm (u:=u) (l:=b.AZ)).dW;have d:=XE w1.pO (ç hu) rfl;have B:=Bv.F0 hu;have y:=w1.l3;rw[Bt] at B;have hz:(b.OG:Int)=((0:Nat):Int):=by rw[g]
    simp only[abS,l3,f.Ac,w.st (k:=3) (v0:=c) rfl (Bv.cells hu)];refine En (i:=2) (λn:Nat=>[I (n:Int)]) (λn h1=>n=0/\h1=Am.put h bi 3 u) (λn=>n) (λn h1=>n=0/\h1=Am.put h bi 3 u) 0 (by rw[hz]) ⟨rfl,rfl⟩ ?_ ?_;.rintro n h1 ⟨rfl,rfl⟩;simp only[abS,y,B,(AM:¬((0:Nat):Int)<((0:Nat):Int))];exact .HM 0 rfl ⟨rfl,rfl⟩
    .rintro n h1 ⟨rfl,rfl⟩;simp only[Cf,d];refine⟨_,rfl,rfl,o,u,G,?_,⟨[],by rw[hb,ha];rfl,hu⟩,BL.trans BL⟩;rw[hb];exact(w1.Qm (l:=b.AZ)).dW
   .have i0:=dV.init (m:=m) w ok rm Jy;have f:=aCE (h:=h) hcs hne Ab;have w0:=w.JX (u:=[.cells (fs.map C1.row).flatten]);simp only[abS,l3,f.Ac,w0.st (k:=3) (v:= .C3 h.length 0 fs.length 3) (v0:=c) rfl rfl];refine En (i:=2) (λn:Nat=>[I (n:Int)]) (λk h1=>dV h bi a t G b fs h.length m k h1) (λk=>fs.length-k) (λk h1=>k=fs.length/\dV h bi a t G b fs h.length m k h1) b.OG rfl i0 ?_ ?_
    .intro k h1 i;have Ee:=i.le;have C:Az (.len false) [.C3 h.length 0 fs.length 3]=some (I (fs.length:Int)):=rfl;rcases Bi k fs.length with hlt|GX
     .obtain⟨r,h2,n,N,M,L,K,J,H,E⟩:=dV.step Jy rm.C7 (Ae _) hlt i;have d:Az (.FA 3) [.C3 h.length 0 fs.length 3,I (k:Int)]=some (Pt h.length (k*3)):=Fe hlt;simp only[abS,N,C,(Ab:(k:Int)<(fs.length:Int)),d,M,L.Ac,Dl,K.Ac,J,H,CI (Ab:k<9223372036854775807)];exact .next (k+1) rfl E Ab
     .obtain⟨s,A,b1,Kz,w1,_⟩:=i.ex;simp only[abS,w1.l3,C,(Ab:¬(k:Int)<(fs.length:Int))];exact .HM k rfl ⟨Ab,i⟩
    .rintro k h1 ⟨rfl,i⟩;obtain⟨s,A,b1,Kz,w1,ZJ,O,Yg,fA,P,è,RP,q⟩:=i.ex;have hf:=P2 (Tu Kz) Yg;rw[Av,fA] at hf;have z:h.length≠bi:=λe=>RP (.inl e);have d:=XE w1.pO hf (by rw[Ao z]);have D:BX (h1.set h.length .DF) bi a s _ t A b1:=w1.DQ λj hj=>Ao λe=>RP (by rw[e];exact hj);simp only[Cf,d];have hb:b.Bf={b1 with AZ:=Kz.map (·.c)}:=by rw[è,AT Ab,A8 Ab];simp only[BS.Lq,BB]
     refine⟨_,rfl,rfl,s,_,A,by rw[hb];exact D.Qm,⟨Kz,by rw[hb],.mk⟩,?_⟩;refine Ew.trans ⟨by rw[BV];exact q.len,λj hj hn=>?_,q.BK⟩ BL;rw[Ao Ab];exact q.old j hj hn
 obtain⟨r,h',hr,rfl,o',c',G',w',Ns,x'⟩:=O5.ret;exact⟨h',o',c',G',hr,w',Ns,x'⟩
end
def é{id l k:Nat}(hl:0<l)(hk:k<=l):Az (.OM 3 false false true) [.C3 id 0 l 3,I (k:Int)]=some (.C3 id 0 k 3):=by
 have d:Ey (k:Int) l=some k:=by unfold Ey;rw[Af Ab];rfl
 simp[Az,IY,Dz,d];omega
def ê{id l k:Nat}(hk:k<=l):Az (.OM 3 false true false) [.C3 id 0 l 3,I (k:Int)]=some (if k<l then .C3 id (k*3) (l-k) 3 else .sl 3 []):=by
 have d:Ey (k:Int) l=some k:=by unfold Ey;rw[Af Ab];rfl
 simp[Az,IY,Dz,d];split<;>rfl
def Ja{U:Type}{l:List U}{k:Nat}(hk:k<l.length):(Bz l k).length=l.length-1:=by unfold Bz;rw[Aq,AB,Bg];omega
def aG0{h:Ai}{id k:Nat}{Aw:List (List Aa)}(hr:∀r∈Aw,r.length=3)(hc:h[id]?=some (.cells Aw.flatten))(hk:k<Aw.length)(hb:Aw.length<=1000000000):
  ∃GB,B9 cx 268 [.C3 id 0 Aw.length 3,I (k:Int),I ((k+1:Nat):Int)] h (.C3 id 0 (Aw.length-1) 3) (h.set id (.cells ((Bz Aw k).flatten++GB))):=by
 have HV:=(Aj.1 hc).1;have u:=Ja hk;have fD:=Gt hr;have s:∀r∈Bz Aw k,r.length=3:=λr hm=>hr r (by
  unfold Bz at hm;rcases Ap.1 hm with hm|hm
  .exact A0 hm
  .exact Bu hm)
 have rM:=Gt s;rw[u] at rM;have Ub:(Aw.take k).flatten=Aw.flatten.take (k*3):=(Zt hr).symm;have ū:(Aw.drop (k+1)).flatten=Aw.flatten.drop ((k+1)*3):=(Iu hr).symm;obtain⟨RU,w,hcl⟩:∃RU,GP h 3 48 (.C3 id 0 k 3) (if k+1<Aw.length then .C3 id ((k+1)*3) (Aw.length-(k+1)) 3 else .sl 3 [])=some (h.set id (.cells ((Bz Aw k).flatten++RU)),.C3 id 0 (Aw.length-1) 3)/\RU.length=3:=by
  have f:Ha h 3 (if k+1<Aw.length then .C3 id ((k+1)*3) (Aw.length-(k+1)) 3 else .sl 3 [])=some (Aw.drop (k+1)):=by
   by_cases YX:k+1<Aw.length;.rw[Af YX];have j:=Zu hr (n:=Aw.length-(k+1)) (off:=k+1) Ab;rw[A8 (by rw[Bg];exact Ae _)] at j;simp only[Ha,BE,hc,j];rw[Af (by rw[fD];omega)]
   .rw[Ad YX,AT Ab];rfl
  by_cases aGl:k+1=Aw.length
  .refine⟨Aw.flatten.drop (k*3),?_,by rw[Bg,fD];omega⟩;have g:Aw.drop (k+1)=[]:=AT Ab;rw[g] at f;have v:(Bz Aw k).flatten++Aw.flatten.drop (k*3)=Aw.flatten:=by unfold Bz;rw[g,BB,Ub,Cw]
   have B:h.set id (.cells ((Bz Aw k).flatten++Aw.flatten.drop (k*3)))=h:=by rw[v];obtain⟨lS,A⟩:=Aj.1 hc;rw[<-A,Jd]
   simp only[GP,f,BE];rw[B,(Ab:Aw.length-1=k)]
  .obtain⟨y,q,hd⟩:∃y q,Aw.drop (k+1)=y::q:=⟨_,_,Ay (Ab:k+1<Aw.length)⟩;have jT:(y::q).length=Aw.length-(k+1):=by rw[<-hd,Bg]
   refine⟨Aw.flatten.drop ((Aw.length-1)*3),?_,by rw[Bg,fD];omega⟩;rw[hd] at f;simp only[GP,f,hc,BE];rw[jT,Af (by rw[fD];omega)];rw[<-hd,ū,BJ,BJ,(Ab:k+(Aw.length-(k+1))=Aw.length-1)];unfold Bz;rw[Ko,Ub,ū]
 generalize ĸ:h.set id (.cells ((Bz Aw k).flatten++RU))=h2 at w;have KX:h2[id]?=some (.cells ((Bz Aw k).flatten++RU)):=by rw[<-ĸ];exact AE HV
 have pL:((Bz Aw k).flatten++RU).length=Aw.length*3:=by rw[Aq,rM,hcl];omega
 have g:DS (.zA 3 true true) h2 [.C3 id 0 (Aw.length-1) 3,I ((Aw.length-1:Nat):Int),I (Aw.length:Int)]=some (h2,.C3 id ((Aw.length-1)*3) 1 3):=by
  simp only[DS,fH,KX];have C:Ey (Aw.length:Int) ((((Bz Aw k).flatten++RU).length-0)/3)=some Aw.length:=by unfold Ey;rw[Af (by rw[pL];omega)];rfl
  have j:Ey ((Aw.length-1:Nat):Int) Aw.length=some (Aw.length-1):=by unfold Ey;rw[Af Ab];rfl
  rw[Af ⟨trivial,trivial,A7 _⟩];simp only[Dz,C,j,Cm,By];rw[Af (by rw[pL];omega)];congr 3
  .omega
  .omega
 have z:DS (.clear 3 [I 0,S [],.slnil]) h2 [.C3 id ((Aw.length-1)*3) 1 3]=some (h.set id (.cells ((Bz Aw k).flatten++[I 0,S [],.slnil])),.bool true):=by
  simp only[DS,VE,KX];rw[Af ⟨trivial,rfl,by rw[pL];omega⟩];congr 2
  rw[<-ĸ,lL];congr 2
  rw[IX rM,AT (by rw[pL];omega)];simp
 refine⟨[I 0,S [],.slnil],?_⟩;have d:∀i n,Az (.len false) [.C3 i 0 n 3]=some (I (n:Int)):=λ_ _=>rfl;have v:DS (.lZ 3) h [.C3 id 0 Aw.length 3,I (k:Int),I ((k+1:Nat):Int),I (Aw.length:Int)]=some (h,.bool true):=by simp only[DS,VF];simp;omega
 rw[Ag,xH,aCt];simp only[abS,d,v,(Ab:¬(k:Int)=((k+1:Nat):Int)),é (id:=id) (Ab:0<Aw.length) (Ab:k<=Aw.length),ê (id:=id) (Ab:k+1<=Aw.length),w,g,z]
def SE{z:Nat}:∀{Aw:List (List Aa)} {cs Tm:List Aa},(∀r∈Aw,r.length=z)->Cr (Tm++(Aw.flatten++cs)) z Tm.length Aw.length=Aw
 |[],_,_,_=>rfl
 |x::Aw,cs,Tm,h=>by have hx:=h x Ax;have:=SE (Aw:=Aw) (cs:=cs) (Tm:=Tm++x) (λr hr=>h r (by simp[hr]));simp only[AS,Aq,hx] at this;simp only[CH,AJ,Cr,AS];rw[KY rfl,IX hx,this]
def pT{h:Ai}{id z:Nat}{Aw:List (List Aa)}{cs:List Aa}(hr:∀r∈Aw,r.length=z)(hc:h[id]?=some (.cells (Aw.flatten++cs))):Li h (.C3 id 0 Aw.length z)=some (h.set id .DF,.sl z Aw):=by unfold Li;simp only[hc,BJ];have:=SE (cs:=cs) (Tm:=[]) hr;simp only[BT,Bt] at this;rw[Af (by rw[Aq,Gt hr];omega),this]
def Fm(e:C1)(at_ mk:Int)(anc far:Item)(last:Int):List Aa:=
 [I e.c.node,.str e.c.name,e.v,I at_,I mk,I anc.node,I anc.A6,.str anc.name,.bool anc.Ot,I far.node,I far.A6,.str far.name,.bool far.Ot,I last]
def Mj(ai bi:Nat)(G:Nat->Prop):Nat->Prop:=λi=>i=ai\/BK bi G i
section
variable{h h':Ai}{bi a ai:Nat}{o c t:Aa}{G G' F:Nat->Prop}{b b':BS}{x:Int}{m:Nat}
variable{nm:Ah}{av:Aa}{l:List A3}{r:List Aa}{sp p:Int}{e:C1}{at_ mk last:Int}{anc far:Item}
def Eo(x:Ew h (BK bi G) h' (BK bi G'))(ai:Nat):Ew h (Mj ai bi G) h' (Mj ai bi G'):=
 ⟨x.len,λi hi hn=>x.old i hi λhg=>hn (.inr hg),λi hi=>by
  rcases hi with hi|hi
  .exact .inl (.inl hi)
  .rcases x.BK i hi with h|h
   .exact .inl (.inr h)
   .exact .inr h⟩
def Px{k:Nat}{v:Aa}:Ew h (Am.Mj ai bi G) (put h ai k v) (Am.Mj ai bi G):=⟨by rw[Lo];exact Ae _,λi _ hn=>CV λe=>hn (.inl e),λ_ h=> .inl h⟩
def Jn{id k:Nat}{v:Aa}{cs:List Aa}(hc:h[id]?=some (.cells cs)):(put h id k v)[id]?=some (.cells (cs.set k v)):=by rw[IF hc,AE (Aj.1 hc).1]
def down(k:Nat)(x:Int):Int:=if(k:Int)<x then x-1 else x
def yE(w:BX h bi a o c t G b)(hc:Di b.AZ c)(rm:Cx b m)(ha:h[ai]?=some (.cells (Fm e at_ mk anc far last)))(hn:¬BK bi G ai){k:Nat}(hk:k<b.AZ.length)(h1:0<=at_/\at_<=1000000000)(h2:0<=mk/\mk<=1000000000):
  ∃h' c',B9 cx 225 [Pt ai 0,Pt bi 0,I (k:Int)] h (.tuple []) h'/\BX h' bi a o c' t G {b with AZ:=Bz b.AZ k}/\Di (Bz b.AZ k) c'/\h'[ai]?=some (.cells (Fm e (down k at_) (down k mk) anc far last))/\Ew h (Mj ai bi G) h' (Mj ai bi G):=by
 obtain⟨fs,Jy,hcs⟩:=hc;have X7:=rm.AZ;have Io:b.AZ.length=fs.length:=by rw[<-Jy,Av]
 have hne:fs≠[]:=by intro e;rw[Io,e] at hk;exact absurd hk (Nat.not_lt_zero _)
 have iI:ai≠bi:=λe=>hn (.inl e);have z:ai<h.length:=(Aj.1 ha).1;have C:=aCE (h:=h) hcs hne Ab;have hX:(h++[ED.cells (fs.map C1.row).flatten])[h.length]?=some (.cells (fs.map C1.row).flatten):=Ax;obtain⟨GB,r2⟩:=aG0 (Tu fs) hX (k:=k) Ei Ei;rw[Av] at r2;have e2:(h++[ED.cells (fs.map C1.row).flatten]).set h.length (.cells ((Bz (fs.map C1.row) k).flatten++GB))=h++[.cells ((Bz (fs.map C1.row) k).flatten++GB)]:=by rw[B5 _ _ (Ae _),Dy];rfl
 rw[e2] at r2;generalize A:h++[ED.cells ((Bz (fs.map C1.row) k).flatten++GB)]=H at r2;have w1:BX H bi a o c t G b:=by rw[<-A];exact w.JX
 have mc:H[ai]?=some (.cells (Fm e at_ mk anc far last)):=by rw[<-A,An z];exact ha
 have Q:H[h.length]?=some (.cells ((Bz (fs.map C1.row) k).flatten++GB)):=by rw[<-A];simp
 have hL:H.length=h.length+1:=by rw[<-A];simp
 have Z:Ew h (Mj ai bi G) H (Mj ai bi G):=by rw[<-A];exact Eo w.DZ ai
 have s:bi≠h.length:=OK w.lt;have aM:ai≠h.length:=OK z;have B:=w1.st (k:=3) (v:= .C3 h.length 0 (fs.length-1) 3) (v0:=c) rfl rfl;have w2:=w1.Qm (u:= .C3 h.length 0 (fs.length-1) 3) (l:=b.AZ);have RV:(put H bi 3 (.C3 h.length 0 (fs.length-1) 3))[ai]?=some (.cells (Fm e at_ mk anc far last)):=by rw[CV iI];exact mc
 have P:(put H bi 3 (.C3 h.length 0 (fs.length-1) 3))[h.length]?=some (.cells ((Bz (fs.map C1.row) k).flatten++GB)):=by rw[CV (Dx s)];exact Q
 have Y:Ew h (Mj ai bi G) (put H bi 3 (.C3 h.length 0 (fs.length-1) 3)) (Mj ai bi G):=Z.trans (Eo BL ai);generalize R:put H bi 3 (.C3 h.length 0 (fs.length-1) 3)=f at*;have hL2:f.length=h.length+1:=by rw[<-R,Lo,hL]
 have t3:At f ai 3 (I at_):=⟨_,RV,rfl⟩;have mh:=Jn (k:=3) (v:= I (down k at_)) RV;have E:put f ai 3 (I (down k at_))=if(k:Int)<at_ then put f ai 3 (I (at_-1)) else f:=by
  unfold down;split;.rfl
  .exact t3.same
 have w3:BX (put f ai 3 (I (down k at_))) bi a o _ t G _:=w2.DQ λj hj=>CV λe=>hn (e▸hj);have O:(put f ai 3 (I (down k at_)))[h.length]?=_:=(CV (Dx aM)).trans P;have X:=Y.trans (Px (k:=3) (v:= I (down k at_)));generalize hH3:put f ai 3 (I (down k at_))=d at*;have t4:At d ai 4 (I mk):=⟨_,mh,rfl⟩;have M:=Jn (k:=4) (v:= I (down k mk)) mh;have q:put d ai 4 (I (down k mk))=if(k:Int)<mk then put d ai 4 (I (mk-1)) else d:=by
  unfold down;split;.rfl
  .exact t4.same
 have T:BX (put d ai 4 (I (down k mk))) bi a o _ t G _:=w3.DQ λj hj=>CV λe=>hn (e▸hj);have N:(put d ai 4 (I (down k mk)))[h.length]?=_:=(CV (Dx aM)).trans O;have J:=X.trans (Px (k:=4) (v:= I (down k mk)));generalize hH4:put d ai 4 (I (down k mk))=S at*;have L:∀r∈Bz (fs.map C1.row) k,r.length=3:=λr hm=>Tu fs r (by
  unfold Bz at hm;rcases Ap.1 hm with hm|hm
  .exact A0 hm
  .exact Bu hm)
 have f4:=pT L N;rw[Ja Ei,Av] at f4;have D:=XE T.pO f4 (by rw[Ao (Dx s)]);have w5:BX (S.set h.length .DF) bi a o _ t G {b with AZ:=b.AZ}:=T.DQ λj hj=>Ao λe=>by
  subst e;rcases hj with hj|hj
  .exact s hj.symm
  .exact absurd (w.w.lt hj) (Dc _)
 have ed:Bz (fs.map C1.row) k=(Bz fs k).map C1.row:=by unfold Bz;rw[BU,HQ,KV]
 have ec:(Bz fs k).map (·.c)=Bz b.AZ k:=by unfold Bz;rw[BU,HQ,KV,Jy]
 refine⟨_,.sl 3 (Bz (fs.map C1.row) k),?_,w5.Qm (l:=Bz b.AZ k),⟨Bz fs k,ec,by rw[ed];exact .mk⟩,?_,?_⟩
 .have i:Bj f none (Pt ai 3)=some (I at_):=t3.load;have g:Bj d none (Pt ai 4)=some (I mk):=t4.load;have inc:=CI (Ab:k<9223372036854775807);have W:=DI (Ab: -9223372036854775808<=at_-1) (Ab:at_-1<9223372036854775808);have V:=DI (Ab: -9223372036854775808<=mk-1) (Ab:mk-1<9223372036854775808);rw[Ag,wF,aB2];by_cases y:(k:Int)<at_
  .rw[Af y] at E;have U:CL f 1 (Pt ai 3) (I (at_-1))=some d:=by rw[E];exact t3.store rfl
   by_cases n:(k:Int)<mk
   .rw[Af n] at q;have K:CL d 1 (Pt ai 4) (I (mk-1))=some S:=by rw[q];exact t4.store rfl
    simp only[abS,w.l3,C.Ac,inc,r2.Ac,B,i,y,W,U,g,n,V,K,D]
   .rw[Ad n] at q;subst q;simp only[abS,w.l3,C.Ac,inc,r2.Ac,B,i,y,W,U,g,n,D]
  .rw[Ad y] at E;subst E;by_cases n:(k:Int)<mk
   .rw[Af n] at q;have K:CL d 1 (Pt ai 4) (I (mk-1))=some S:=by rw[q];exact t4.store rfl
    simp only[abS,w.l3,C.Ac,inc,r2.Ac,B,i,y,g,n,V,K,D]
   .rw[Ad n] at q;subst q;simp only[abS,w.l3,C.Ac,inc,r2.Ac,B,i,y,g,n,D]
 .rw[CV iI,Ao (Dx aM),M];rfl
 .refine Ew.trans ⟨by rw[BV];exact J.len,λj hj hn=>?_,J.BK⟩ (Eo BL ai);rw[Ao Ab];exact J.old j hj hn
end
section
variable{U:Type}{q:U->Bool}{l:List U}
def L3{p:Nat}(hp:p<l.length)(h1:q l[p]=true)(h2:∀j (hj:j<l.length),p<j->q l[j]=false):AX q l=(p:Int):=by
 rcases DX (q:=q) (l:=l) with⟨e,h⟩|⟨n,hn,e,d,f⟩
 .rw[h _ (AY hp)] at h1;exact absurd h1 AM
 .rcases aO6 n p with h|h|h
  .have:=f p hp h;rw[this] at h1;exact absurd h1 AM
  .rw[e,h]
  .have:=h2 n hn h;rw[this] at d;exact absurd d AM
def KO{p:Nat}(e:AX q l=(p:Int)):∃hp:p<l.length,q l[p]=true/\∀j (hj:j<l.length),p<j->q l[j]=false:=by
 rcases DX (q:=q) (l:=l) with⟨g,h⟩|⟨n,hn,g,f,d⟩
 .omega
 .have:n=p:=by omega
  subst this;exact⟨hn,f,λj hj h=>d j hj h⟩
def jX{k j:Nat}(hk:k<l.length):(Bz l k)[j]?=if j<k then l[j]? else l[j+1]?:=by
 unfold Bz;by_cases h:j<k;.rw[Af h,An (by rw[AB];omega),Cj,Af h]
 .rw[Ad h,BI (by rw[AB];omega),Cp];congr 1
  rw[AB];omega
def N5{k j:Nat}(hk:k<l.length)(hj:j<(Bz l k).length):(Bz l k)[j]=if h:j<k then l[j]'(by omega) else l[j+1]'(by rw[Ja hk] at hj;omega):=by
 have hl:=Ja hk;have:=jX (j:=j) hk;rw[As hj] at this;by_cases h:j<k;.rw[lK h];rw[Af h,As Ab] at this;exact DE this
 .rw[dif_neg h];rw[Ad h,As Ab] at this;exact DE this
def dY{p k:Nat}(e:AX q l=(p:Int))(hk:k<l.length)(hne:k≠p):AX q (Bz l k)=down k p:=by
 obtain⟨hp,h1,h2⟩:=KO e;have hl:=Ja hk;unfold down;by_cases d:k<p
 .rw[Af Ab,(Ab:(p:Int)-1=((p-1:Nat):Int))];refine L3 Ab ?_ ?_;.rw[N5 hk,dif_neg Ab];have:p-1+1=p:=Ab;simp only[this,h1]
  .intro j hj h;rw[N5 hk,dif_neg Ab];exact h2 _ _ Ab
 .rw[Ad Ab];refine L3 Ab ?_ ?_;.rw[N5 hk,lK Ab];exact h1
  .intro j hj h;rw[N5 hk];split;.exact h2 _ _ h
   .exact h2 _ _ Ab
def jY{p k:Nat}{x:U}(e:AX q l=(p:Int))(hne:k≠p)(hx:q x=false):AX q (l.set k x)=(p:Int):=by
 obtain⟨hp,h1,h2⟩:=KO e;refine L3 (by rw[BV];exact hp) ?_ ?_;.rw[List.getElem_set_ne hne];exact h1
 .intro j hj h;rw[List.getElem_set];split;.exact hx
  .rw[BV] at hj;exact h2 j hj h
end
def dZ{l:List Item}(hn:(l.map Item.node).Nodup){i:Nat}(hi:i<l.length):AX (BQ l[i].node) l=(i:Int):=by
 refine L3 hi (by simp[BQ]) λj hj h=>?_;by_cases he:l[i].node=l[j].node
 .have h2:(l.map Item.node)[i]'(by simpa using hi)=(l.map Item.node)[j]'(by simpa using hj):=by simpa using he
  exact absurd h2 (xt.1 hn i j (by simpa using hi) (by simpa using hj) h)
 .unfold BQ;simpa using λe=>he e.symm
def JK{n:Int}{l:List Co}(h:0<=Fw n l):∃p:Nat,∃hp:p<l.length,Fw n l=(p:Int)/\n≠0/\l[p].node=n/\AX (Xd n) l=(p:Int):=by
 unfold Fw at h⊢;split at h;.omega
 .rename_i h0;rw[Ad h0];obtain⟨p,hp⟩:∃p:Nat,AX (Xd n) l=(p:Int):=⟨_,(HX h).symm⟩;obtain⟨h1,h2,_⟩:=KO hp;exact⟨p,h1,hp,h0,by simpa[Xd] using h2,hp⟩
def dj{n:Int}{l:List Co}{k:Nat}(h:0<=Fw n l)(hk:k<l.length)(hne:l[k].node≠n):Fw n (Bz l k)=down k (Fw n l):=by obtain⟨p,hp,e,h0,h1,h2⟩:=JK h;rw[e,<-dY h2 hk (by rintro rfl;exact hne h1)];unfold Fw;rw[Ad h0]
def uk{n:Int}{l:List Co}{k:Nat}{x:Co}(h:0<=Fw n l)(hk:k<l.length)(hne:l[k].node≠n)(hx:x.node≠n):Fw n (l.set k x)=Fw n l:=by obtain⟨p,hp,e,h0,h1,h2⟩:=JK h;rw[e,<-jY (x:=x) (k:=k) h2 (by rintro rfl;exact hne h1) (by simp[Xd];exact hx)];unfold Fw;rw[Ad h0]
def dk{n:Int}{l:List Co}(hn:((l.map Co.node).filter λn=>decide (n≠0)).Nodup)(h:0<=Fw n l):Fw n (Bz l (Fw n l).toNat)<0:=by
 obtain⟨p,hp,e,h0,h1,h2⟩:=JK h;rw[e,BD];refine Int.not_le.1 λg=>?_;obtain⟨p2,f,i,_,d,_⟩:=JK g;have:l=l.take p++l[p]::l.drop (p+1):=by rw[<-Ay hp,Cw]
 rw[this,BU,A9,EK,GW,Af (by simpa[h1] using h0),BN,B3] at hn;have hm:=AY f;generalize(Bz l p)[p2]=y at hm d;unfold Bz at hm;rcases Ap.1 hm with hm|hm
 .exact hn.2.2 y.node (Dg.2 ⟨OC hm,by simpa[d] using h0⟩) l[p].node Ax (by rw[d,h1])
 .exact hn.2.1.1 (Dg.2 ⟨by rw[h1,<-d];exact OC hm,by simpa[h1] using h0⟩)
section
variable{h h':Ai}{bi a ai:Nat}{o c t:Aa}{G G' F:Nat->Prop}{b b':BS}{x:Int}{m:Nat}
variable{nm:Ah}{av:Aa}{l:List A3}{r:List Aa}{sp p:Int}{e:C1}{at_ mk last:Int}{anc far:Item}
def XF{blk anc:Int}{far i:Nat}{l:Int}{mk m:Nat}(r:Cx b (m+4)):Cx (BS.Ig blk anc far i b l mk).1 m:=by
 unfold BS.Ig;simp only
 split;.exact(r.le Ab).sub rfl C0 (AF _) (Ae _)
 .split;.exact(r.le Ab).sub rfl C0 C0 (Ae _)
  .rename_i he _;obtain⟨p,hp,f,_,_,_⟩:=JK (T0.1 he);rw[f,BD,AR,As hp,Fy];have Rg:=r.C7 _ (AY hp);have d:=Lr (m:=m+1) (nm:=b.AZ[p].name) (l:=b.AZ[p].Au) (sp:=1) (p:=anc) (r.le Ab) Rg.2;have r2:=(d.le (m':=m) Ab).I8 (Kh (p:=(b.JG b.AZ[p].name b.AZ[p].Au 1).node) (x:=l) (bf:=0));refine⟨r2.n,r2.at_,r2.data,by simp only[BV];exact r2.AK,by simp only[BV];exact r2.AZ,r2.tm,λe he=>?_,λi hi=>?_⟩
   .rcases Dv he with he|rfl
    .exact r2.C7 e he
    .exact Rg
   .rcases Dv hi with hi|rfl
    .exact r2.cB i hi
    .exact Pq Rg.1
end
def TK{A:Ar}{x p bf:Int}(h:(A.nd p).kind=4):A.If x p bf=A.Ie p x bf:=by unfold Ar.If;rw[Ad (by rw[h];intro h;exact absurd h.1 AM)]
section
variable{h h':Ai}{bi a ai:Nat}{o c t:Aa}{G G' F:Nat->Prop}{b b':BS}{x:Int}{m:Nat}
variable{nm:Ah}{av:Aa}{l:List A3}{r:List Aa}{sp p:Int}{e:C1}{at_ mk last:Int}{anc far:Item}
def Di.at(hc:Di b.AZ c)(w:BX h bi a o c t G b)(rm:Cx b m)(n:Int):B9 cx 156 [Pt bi 3,I n] h (I (Fw n b.AZ)) h:=by obtain⟨fs,Jy,hv⟩:=hc;have ha:=rm.AZ;have:=f41 w.pO hv (by rw[<-Jy,Av] at ha;omega) n;rwa [Xz,Jy] at this
structure jZ(h:Ai)(bi a ai:Nat)(t:Aa)(G0:Nat->Prop)(fe:C1)(anc far:Item)(k N m:Nat)(s0:BS×Int×Nat)(n:Nat)(h1:Ai)(o c:Aa)(G:Nat->Prop)(s:BS×Int×Nat):Prop where
 le:n<=N
 w:BX h1 bi a o c t G s.1
 hc:Di s.1.AZ c
 ok:EI s.1
 rm:Cx s.1 (m+4*n)
 last:s.1.a.has s.2.1
 st:h1[ai]?=some (.cells (Fm fe (Fw fe.c.node s.1.AZ) (s.2.2:Int) anc far s.2.1))
 hn:¬BK bi G ai
 x:Ew h (Mj ai bi G0) h1 (Mj ai bi G)
 gd:0<=Fw fe.c.node s.1.AZ
 mkb:s.2.2<=1000000000
 AK:s.1.AK.take (k+n+1)=s0.1.AK.take (k+n+1)
 len:k+n+1<=s.1.AK.length
 eq:BS.Pp far.node anc.node (k+1+N) k N s0=BS.Pp far.node anc.node (k+1+N) k n s
 fe:s.1.a.has fe.c.node
def dm{blk anc:Int}{far i:Nat}{l:Int}{mk:Nat}(hi:i<b.AK.length):(BS.Ig blk anc far i b l mk).1.AK.take i=b.AK.take i/\i<=(BS.Ig blk anc far i b l mk).1.AK.length:=by
 have h1:(Bz b.AK i).take i=b.AK.take i/\i<=(Bz b.AK i).length:=by refine⟨?_,by rw[Ja hi];omega⟩;unfold Bz;rw[Du (by rw[AB];omega),FV,Nat.min_self]
 unfold BS.Ig;simp only
 split;.exact h1
 .split;.exact h1
  .have Qs:∀nm l p,(b.FY nm l 1 p).AK=b.AK:=λnm l p=>by unfold BS.FY;rw[Af Mg]
   simp only[Qs];exact⟨YI (Ae i),by rw[BV];omega⟩
def jZ.step{h1 h2:Ai}{C D A z:Aa}{B u:Nat->Prop}{fe:C1}{k N n:Nat}{s0 s s':BS×Int×Nat}(i:jZ h bi a ai t G fe anc far k N m s0 (n+1) h1 C D B s)(e:s'=BS.Ig far.node anc.node (k+1+N) (k+(n+1)) s.1 s.2.1 s.2.2)
  (w:BX h2 bi a A z t u s'.1) (hc:Di s'.1.AZ z) (st:h2[ai]?=some (.cells (Fm fe (Fw fe.c.node s'.1.AZ) (s'.2.2:Int) anc far s'.2.1))) (hn:¬BK bi u ai) (x:Ew h1 (Mj ai bi B) h2 (Mj ai bi u)) (gd:0<=Fw fe.c.node s'.1.AZ) (mk:s'.2.2<=1000000000):
  jZ h bi a ai t G fe anc far k N m s0 n h2 A z u s':=by
 obtain⟨g,last',j⟩:=jH (blk:=far.node) (anc:=anc.node) (far:=k+1+N) (i:=k+(n+1)) (m:=s.2.2) i.ok i.last;have hl:=i.len;obtain⟨f,v⟩:=dm (blk:=far.node) (anc:=anc.node) (far:=k+1+N) (i:=k+(n+1)) (l:=s.2.1) (mk:=s.2.2) (b:=s.1) Ab;have d:=XF (blk:=far.node) (anc:=anc.node) (far:=k+1+N) (i:=k+(n+1)) (l:=s.2.1) (mk:=s.2.2) (m:=m+4*n) (i.rm.le Ab);have Qs:=i.AK;have y:BS.Pp far.node anc.node (k+1+N) k (n+1) s=BS.Pp far.node anc.node (k+1+N) k n (BS.Ig far.node anc.node (k+1+N) (k+(n+1)) s.1 s.2.1 s.2.2):=rfl;have q:=i.eq.trans y;rw[<-e] at g last' j f v d q;refine⟨by have:=i.le;omega,w,hc,g,d,last',st,hn,i.x.trans x,gd,mk,?_,Ab,q,j.has _ i.fe⟩;have:=B2 (λl=>l.take (k+(n+1))) Qs;simp only[FV] at this;rw[(Ab:k+n+1=k+(n+1)),f];rwa [CE Ab] at this
def aG2{fe:C1}{k N:Nat}{s0:BS×Int×Nat}(i0:jZ h bi a ai t G fe anc far k N m s0 N h o c G s0)(xb:1<=k)(YX:AX (BQ fe.c.node) s0.1.AK=(k:Int))(hN:k+1+N<s0.1.AK.length):
  ∃h' o' c' G' s',B9 cx 227 [Pt bi 0,Pt ai 0,I (k:Int),I ((k+1+N:Nat):Int)] h (.tuple []) h'/\s'=BS.Pp far.node anc.node (k+1+N) k N s0/\jZ h bi a ai t G fe anc far k N m s0 0 h' o' c' G' s':=by
 have ho:=i0.rm.AK;have O5:Ev cx 227 [Pt bi 0,Pt ai 0,I (k:Int),I ((k+1+N:Nat):Int)] h λr h'=>r= .tuple []/\∃o' c' G' s',s'=BS.Pp far.node anc.node (k+1+N) k N s0/\jZ h bi a ai t G fe anc far k N m s0 0 h' o' c' G' s':=by
  unfold Ev;rw[wH,aB4];have i1:=DI (a:=((k+1+N:Nat):Int)) (b:=1) Ab Ab;rw[(Ab:((k+1+N:Nat):Int)-1=((k+N:Nat):Int))] at i1;simp only[Cf,i1];refine BM (λn:Nat=>[I ((N-n:Nat):Int),I ((k+n:Nat):Int)]) (λn h1=>∃o c G1 s,jZ h bi a ai t G fe anc far k N m s0 n h1 o c G1 s) (λn=>n) N (by rw[Dy];rfl) ⟨o,c,_,s0,i0⟩ ?_;rintro n h1 ⟨o1,c1,G1,s,i⟩;cases n with
  |zero=>simp only[abS,↓reduceIte,(Ab:¬(k:Int)<(k:Int))];exact⟨_,rfl,rfl,o1,c1,G1,s,i.eq.symm,i⟩
  |succ n=>
   have hnN:=i.le;have hlen:=i.len;have sL:k+(n+1)<s.1.AK.length:=Ab;have hwo:=i.rm.AK;have hwa:=i.rm.AZ;have iI:ai≠bi:=λe=>i.hn (.inl e);have hai:ai<h1.length:=(Aj.1 i.st).1;have K:=U7 i.w.sA ((k+(n+1):Nat):Int);rw[HH sL] at K;have U:=dZ i.ok.xj sL;have hxf:s.1.AK[k+(n+1)].node≠fe.c.node:=by have h2:=B2 (λl=>l[k+(n+1)]?) i.AK;simp only[Cj] at h2;rw[Af Ab,Af Ab,As sL,As Ab] at h2;obtain⟨_,_,L⟩:=KO YX;have g:=L (k+(n+1)) Ab Ab;rw[DE h2];intro h5;unfold BQ at g;rw[h5] at g;simp at g
   have um:s.1.AK.getD (k+(n+1)) Item.zero=s.1.AK[k+(n+1)]:=by rw[AR,As sL];rfl
   generalize s.1.AK[k+(n+1)]=x at*;have r2:=i.hc.at i.w i.rm x.node;obtain⟨q,hq,á,hq0,hq2,hq3⟩:=JK i.gd;have inc:Az (.int .add) [I ((N-(n+1):Nat):Int),I 1]=some (I ((N-n:Nat):Int)):=by have:=CI (n:=N-(n+1)) Ab;rwa [(Ab:N-(n+1)+1=N-n)] at this
   have dec:Az (.int .sub) [I ((k+(n+1):Nat):Int),I 1]=some (I ((k+n:Nat):Int)):=by have:=NO (n:=k+(n+1)) Ab Ab;rwa [(Ab:k+(n+1)-1=k+n)] at this
   have y:(k:Int)<((k+(n+1):Nat):Int):=Ab;have W:∀l:List Item,l=s.1.AK->Dt x.node l=Bz l (k+(n+1)):=by intro l e;subst e;unfold Dt;rw[U,Ad Ab,BD]
   by_cases he:Fw x.node s.1.AZ<0
   .obtain⟨u,C,hu⟩:=Ü i.w.sO Ab x.node;rw[W _ rfl] at hu;have z:=i.w.MU hu;have es:({s.1 with AK:=Bz s.1.AK (k+(n+1))},s.2.1,s.2.2)=BS.Ig far.node anc.node (k+1+N) (k+(n+1)) s.1 s.2.1 s.2.2:=by unfold BS.Ig;simp only[um];rw[Af he]
    have D:=i.step es z i.hc ((CV iI).trans i.st) i.hn (Eo BL ai) i.gd i.mkb;by_cases Zg:(3:Int)<((N-n:Nat):Int);.simp only[abS,↓reduceIte,Jr,y,K.Ac,inc,r2.Ac,Zg,he,(Ab:¬(0:Int)<=Fw x.node s.1.AZ),C.Ac,dec];exact Bq.next n rfl ⟨_,_,_,_,D⟩ Ab
    .simp only[abS,↓reduceIte,Jr,y,K.Ac,inc,r2.Ac,Zg,he,C.Ac,dec];exact Bq.next n rfl ⟨_,_,_,_,D⟩ Ab
   .obtain⟨p,hp,ep,hx0,gp,hp3⟩:=JK (T0.1 he);have GX:(0:Int)<=(p:Int):=Ab;rw[ep] at r2;have X:s.1.AZ[p].node≠fe.c.node:=by rw[gp];exact hxf
    have E:(Fw x.node s.1.AZ).toNat=p:=by rw[ep,BD]
    by_cases Zg:(3:Int)<((N-n:Nat):Int)
    .obtain⟨h2,c2,C,z,KX,Ŀ,H⟩:=yE i.w i.hc i.rm i.st i.hn hp ⟨i.gd,Ab⟩ ⟨Ab,by have:=i.mkb;omega⟩;have pQ:Cx {s.1 with AZ:=Bz s.1.AZ p} (m+4*(n+1)):=i.rm.sub rfl (AF _) C0 (Ae _);have r4:=Di.at (b:={s.1 with AZ:=Bz s.1.AZ p}) KX z pQ x.node;have rU:Fw x.node (Bz s.1.AZ p)<0:=by have:=dk (n:=x.node) i.ok.gl (T0.1 he);rwa [E] at this
     obtain⟨u,r5,hu⟩:=Ü z.sO Gx x.node;rw[W _ rfl] at hu;have M:=z.MU hu;have uo:(((if p<s.2.2 then s.2.2 -1 else s.2.2:Nat)):Int)=down p (s.2.2:Int):=by unfold down;split<;>split<;>omega
     have es:({s.1 with AZ:=Bz s.1.AZ p,AK:=Bz s.1.AK (k+(n+1))},s.2.1,if p<s.2.2 then s.2.2 -1 else s.2.2)=BS.Ig far.node anc.node (k+1+N) (k+(n+1)) s.1 s.2.1 s.2.2:=by unfold BS.Ig;simp only[um];rw[Ad he,Af (Ab:k+(n+1)+3<k+1+N),E]
     have aG4:=dj i.gd hp X;have hd0:0<=down p (Fw fe.c.node s.1.AZ):=by unfold down;split<;>omega
     have D:=i.step es M KX (by rw[CV iI,Ŀ];simp only;rw[aG4,uo]) i.hn (H.trans (Eo BL ai)) (by simp only;rw[aG4];exact hd0) (by have:=i.mkb;simp only;split<;>omega);simp only[abS,↓reduceIte,Jr,y,K.Ac,inc,r2.Ac,Zg,GX,C.Ac,r4.Ac,rU,r5.Ac,dec];exact Bq.next n rfl ⟨_,_,_,_,D⟩ Ab
    .obtain⟨fs,Jy,hv⟩:=i.hc;have Io:s.1.AZ.length=fs.length:=by rw[<-Jy,Av]
     have aLp:p<fs.length:=Ab;have efp:fs[p].c=s.1.AZ[p]:=by simp only[<-Jy,ET]
     have l3:=i.w.l3;have e1:=Bv.Df (k:= .i64) hv aLp;have l5:Bj h1 none (Pt ai 5)=some (I anc.node):=At.load ⟨_,i.st,rfl⟩;obtain⟨r,C,hr⟩:=uj fs[p] h1;have Rg:=i.rm.C7 _ (AY hp);rw[<-efp] at Rg;obtain⟨h2,G2,r4,z,H⟩:=tw (m:=m+4*n) i.w i.ok (i.rm.le Ab) hr fs[p].ok Rg.2 Rg.1 anc.node 1;obtain⟨ok2,f,le2⟩:=So (nm:=fs[p].c.name) (at_:=fs[p].c.Au) (p:=anc.node) i.ok Mg;have pQ:=Lr (m:=m+4*n+1) (nm:=fs[p].c.name) (l:=fs[p].c.Au) (sp:=1) (p:=anc.node) (i.rm.le Ab) Rg.2;have Qs:(s.1.FY fs[p].c.name fs[p].c.Au 1 anc.node).AK=s.1.AK:=by unfold BS.FY;rw[Af Mg]
     have X7:(s.1.FY fs[p].c.name fs[p].c.Au 1 anc.node).AZ=s.1.AZ:=by unfold BS.FY;rw[Af Mg]
     have Z:BS.Ig far.node anc.node (k+1+N) (k+(n+1)) s.1 s.2.1 s.2.2=({s.1.FY fs[p].c.name fs[p].c.Au 1 anc.node with a:=(s.1.FY fs[p].c.name fs[p].c.Au 1 anc.node).a.Ie (s.1.JG fs[p].c.name fs[p].c.Au 1).node s.2.1 0,AK:=(s.1.FY fs[p].c.name fs[p].c.Au 1 anc.node).AK.set (k+(n+1)) (s.1.JG fs[p].c.name fs[p].c.Au 1),AZ:=(s.1.FY fs[p].c.name fs[p].c.Au 1 anc.node).AZ.set p {fs[p].c with node:=(s.1.JG fs[p].c.name fs[p].c.Au 1).node}},(s.1.JG fs[p].c.name fs[p].c.Au 1).node,if s.2.1=far.node then p+1 else s.2.2):=by unfold BS.Ig;simp only[um];rw[Ad he,Ad Ab,E,AR,As hp,Fy,<-efp]
     have ji:=P8 i.ok f;have hna:=TA i.ok f;have hnf:(s.1.JG fs[p].c.name fs[p].c.Au 1).node≠fe.c.node:=λe2=>f.new (by rw[e2];exact i.fe);have aLr:=le2.has _ i.last;have aLs:(s.1.JG fs[p].c.name fs[p].c.Au 1).name.length<=1000:=Pq Rg.1;generalize s.1.JG fs[p].c.name fs[p].c.Au 1=d at*;generalize s.1.FY fs[p].c.name fs[p].c.Au 1 anc.node=b2 at*;have eV:¬BK bi G2 ai:=λhg=>by
      rcases H.BK ai hg with hg|hg
      .exact i.hn hg
      .omega
     have Ŀ:h2[ai]?=_:=(H.old ai hai i.hn).trans i.st;obtain⟨J,O,r5,aN⟩:=aKU z.sO (by have:=pQ.AK;omega) x.node d;have ë:Pm x.node d b2.AK=b2.AK.set (k+(n+1)) d:=by unfold Pm;rw[Qs,U,Ad Ab,BD]
     rw[ë] at aN;have M:=(z.MU aN).JX (u:=O);have x3:Ew h1 (Mj ai bi G1) (put h2 bi 2 J++O) (Mj ai bi G2):=(Eo H ai).trans (Eo (BL.trans (z.MU aN).DZ) ai);have ai2:ai<h2.length:=by have:=H.len;omega
     have st3:(put h2 bi 2 J++O)[ai]?=_:=(An (by rw[Lo];exact ai2)).trans ((CV iI).trans Ŀ);have ai3:ai<(put h2 bi 2 J++O).length:=by rw[Aq,Lo];omega
     generalize put h2 bi 2 J++O=L at*;have aLt:=(Rg.2).1;obtain⟨B,t2,e2,he2,r6,Qz⟩:=aK0 (h:=L) (id:=bi) (o:=3) (l:=fs) ⟨c1,M.pO,hv⟩ Ab x.node (e:=⟨{fs[p].c with node:=d.node},fs[p].v,fs[p].ok⟩) (by unfold gi;simp only;omega);have hei:Kd x.node fs=(p:Int):=by rw[Xz,Jy,ep]
     rw[hei,Ad Ab,BD] at Qz;have w4:=(M.Qm (u:=B) (l:=b2.AZ.set p {fs[p].c with node:=d.node})).JX (u:=t2);have hc4:Di (b2.AZ.set p {fs[p].c with node:=d.node}) B:=⟨_,by rw[GO,Jy,he2,X7],Qz⟩;have x4:=x3.trans (Eo ((BL (k:=3) (v:=B)).trans (BX.DZ (u:=t2) (M.Qm (u:=B) (l:=b2.AZ.set p {fs[p].c with node:=d.node})))) ai);have A:(put L bi 3 B++t2)[ai]?=_:=(An (by rw[Lo];exact ai3)).trans ((CV iI).trans st3);generalize put L bi 3 B++t2=g at*;have ok3:=ok2.oe (i:=d) (k:=k+(n+1)) ⟨f.has,f.kind,f.A6,f.name⟩ (by rw[Qs];exact ji);have Ĩ:=ok3.oj (e:={fs[p].c with node:=d.node}) (k:=p) ⟨f.has,f.kind⟩ (by simp only[X7];exact hna);have rm4:Cx {b2 with AK:=b2.AK.set (k+(n+1)) d,AZ:=b2.AZ.set p {fs[p].c with node:=d.node}} (m+4*n+1):=by
      refine⟨pQ.n,pQ.at_,pQ.data,by simp only[BV];exact pQ.AK,by simp only[BV];exact pQ.AZ,pQ.tm,λe he=>?_,λi hi=>?_⟩
      .rcases Dv he with he|rfl
       .exact pQ.C7 e he
       .exact Rg
      .rcases Dv hi with hi|rfl
       .exact pQ.cB i hi
       .exact aLs
     have S:Bj g none (Pt ai 13)=some (I s.2.1):=At.load ⟨_,A,rfl⟩;have l9:Bj g none (Pt ai 9)=some (I far.node):=At.load ⟨_,A,rfl⟩;have t4:At g ai 4 (I (s.2.2:Int)):=⟨_,A,rfl⟩;obtain⟨eA,dr⟩:∃eA:Nat,eA=if s.2.1=far.node then p+1 else s.2.2:=⟨_,rfl⟩
     have e5:put g ai 4 (I (eA:Int))=if s.2.1=far.node then put g ai 4 (I ((p+1:Nat):Int)) else g:=by
      rw[dr];split;.rfl
      .exact t4.same
     have Q:=Jn (k:=4) (v:= I (eA:Int)) A;have w5:BX (put g ai 4 (I (eA:Int))) bi a J B t G2 {b2 with AK:=b2.AK.set (k+(n+1)) d,AZ:=b2.AZ.set p {fs[p].c with node:=d.node}}:=w4.DQ λj hj=>CV λe=>eV (e▸hj);have x5:=x4.trans (Px (k:=4) (v:= I (eA:Int)));have ai5:ai<(put g ai 4 (I (eA:Int))).length:=by have:=x5.len;omega
     have t5:Bj (put g ai 4 (I (eA:Int))) none (Pt ai 13)=some (I s.2.1):=At.load ⟨_,Q,rfl⟩;generalize hh5:put g ai 4 (I (eA:Int))=h5 at*;obtain⟨h6,G6,r7,w6,x6⟩:=jV (x:=s.2.1) (p:=d.node) (bf:=0) w5 Ĩ rm4;rw[TK (by exact f.kind)] at w6;have Y:¬BK bi G6 ai:=λhg=>by
      rcases x6.BK ai hg with hg|hg
      .exact eV hg
      .omega
     have P:h6[ai]?=_:=(x6.old ai ai5 eV).trans Q;have t6:At h6 ai 13 (I s.2.1):=⟨_,P,rfl⟩;have st7:=Jn (k:=13) (v:= I d.node) P;have w7:BX (put h6 ai 13 (I d.node)) bi a J B t G6 _:=w6.DQ λj hj=>CV λe=>Y (e▸hj);have x7:=(x5.trans (Eo x6 ai)).trans (Px (k:=13) (v:= I d.node));have du:Fw fe.c.node (b2.AZ.set p {fs[p].c with node:=d.node})=Fw fe.c.node s.1.AZ:=by rw[X7];exact uk i.gd hp X hnf
     rw[<-dr] at Z;have D:=i.step Z.symm w7 hc4 (by simp only;rw[st7,du];rfl) Y x7 (by simp only;rw[du];exact i.gd) (by simp only;rw[dr];have:=i.mkb;split<;>omega);have V:fs[p].v.cells=[fs[p].v]:=Bv.cells fs[p].ok;have T:=CI (Ab:p<9223372036854775807);have R:B9 cx 270 [Pt bi 3,I x.node,.agg [I d.node,.str fs[p].c.name,fs[p].v]] L (.bool (decide (0<=Kd x.node fs))) g:=r6;rw[C1.row] at e1 C;by_cases fD:s.2.1=far.node
     .rw[Af fD] at e5;have s5:CL g 1 (Pt ai 4) (I ((p+1:Nat):Int))=some h5:=by rw[e5];exact t4.store rfl
      simp only[abS,Nat.reduceLeDiff,↓reduceIte,Br,Jr,y,K.Ac,inc,r2.Ac,Zg,GX,(Ab:¬(p:Int)<0),l3,e1,l5,C.Ac,Dl,r4.Ac,r5.Ac,V,R.Ac,S,l9,A5 fD,T,s5,t5,r7.Ac,t6.store (u:= I d.node) rfl,dec];exact Bq.next n rfl ⟨_,_,_,_,D⟩ Ab
     .rw[Ad fD] at e5;subst e5;simp only[abS,Nat.reduceLeDiff,↓reduceIte,Br,Jr,y,K.Ac,inc,r2.Ac,Zg,GX,(Ab:¬(p:Int)<0),l3,e1,l5,C.Ac,Dl,r4.Ac,r5.Ac,V,R.Ac,S,l9,fD,r7.Ac,t6.store (u:= I d.node) rfl,dec];exact Bq.next n rfl ⟨_,_,_,_,D⟩ Ab
 obtain⟨r,h',hr,rfl,o',c',G',s',e',i'⟩:=O5.ret;exact⟨h',o',c',G',s',hr,e',i'⟩
end
end Go.Am
end
