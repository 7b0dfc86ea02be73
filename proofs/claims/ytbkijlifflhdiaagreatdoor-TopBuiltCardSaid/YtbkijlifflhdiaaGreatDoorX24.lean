/- Lemmas -/
import Derived.Test.YtbkijlifflhdiaaGreatDoorX23
set_option linter.all false
set_option maxHeartbeats 0
set_option maxRecDepth 100000
section
namespace Go.Am
open Go
section
variable{h h':Ah}{a n:Nat}{m:Option Nat}{ps:List PN}{A:Ar}{x:Int}{F:Nat->Prop}
def aJ{p:PN}(w:PA h a n m ps A)(hx:A.has x){i:Nat}(hi:i∈Fp a n m (ps.set (x.toNat-1) p)):i∈Fp a n m ps\/GM p.kv=some i:=by
 obtain⟨c,b⟩:=UO w hx p;unfold Fp at hi⊢;rw[b,Eh] at hi;simp only[Az,Ak,B1] at hi⊢;rcases hi with h1|h1|h1|⟨q,h1,h2⟩|⟨q,h1,h2⟩
 .exact .inl (.inl h1)
 .exact .inl (.inr (.inl h1))
 .exact .inl (.inr (.inr (.inl h1)))
 .exact .inl (.inr (.inr (.inr ⟨q,AN h1,h2⟩)))
 .rcases h1 with rfl|h1
  .exact .inr h2
  .exact .inl (.inr (.inr (.inr ⟨q,A6 h1,h2⟩)))
def wI{kv:Aa}{l:List Int}{k:Nat}(hk:I3 h kv l)(V5:k<=l.length)(hb:l.length<=1000000000)(y:Int):
  ∃h1,EC .mG h [kv,I (k:Int),.sl 1 [[I y]]]=some (h1,.CL h.length 0 (l.length+1) 1)/\h1[h.length]?=some (.cells ((l.take k++y::l.drop k).map (Aa.int .i64)))/\(∀i,i<h.length->GM kv≠some i->h1[i]?=h[i]?)/\h1.length=h.length+1:=by
 rcases hk with⟨rfl,rfl⟩|⟨id,cs,rfl,hc⟩
 .have:k=0:=by simpa using V5
  subst this;exact⟨h++[.cells [I y]],rfl,Aw,λi hi _=>Al hi,Aw⟩
 .have Hw:=(Ae.1 hc).1;refine⟨h.set id .DK++[.cells ((l.take k++y::l.drop k).map (Aa.int .i64))],?_,by rw[Bp Aw];simp,λi hi hn=>?_,Aw⟩
  .simp only[EC,Oe,hc];rw[Ad (by have:AQ=140737488355328:=rfl;simp;omega)];simp only[Bn];have c:(l.map (Aa.int .i64)++cs).take k=(l.take k).map (Aa.int .i64):=by rw[Di (by simpa using V5),Ie]
   have b:(l.map (Aa.int .i64)++cs).take l.length=l.map (Aa.int .i64):=Ia Aw;rw[c,b];simp
  .rw[Al (by simpa using hi),An];intro e;exact hn (by rw[e];rfl)
def Ox{p b:Int}(hf:¬tk A p x b):A.D9 p x b=A:=by unfold Ar.D9;rw[Ac hf]
def wJ{l:List Int}{b y:Int}{k:Nat}(hb:b=0->k=l.length)(h2:b≠0->l.takeWhile (λy=>decide (y≠b))=l.take k/\l.dropWhile (λy=>decide (y≠b))=l.drop k):Lr l b y=l.take k++y::l.drop k:=by
 unfold Lr;by_cases h0:b=0;.rw[Ad h0,hb h0];simp
 .rw[Ac h0,(h2 h0).1,(h2 h0).2]
open Classical in
def Š{e p b:Int}(w:PA h a n m ps A)(d:LS A)(ok:CX A e):
  ∃V h' OH,Cx cx 100 [Pt a 0,I p,I x,I b] h (I V) h'/\PA h' a n m OH (A.D9 p x b)/\FD h (λi=>i∈Fp a n m ps) h' (λi=>i∈Fp a n m OH):=by
 by_cases qI:A.has p/\A.has x;rotate_left;.refine⟨3,h,ps,?_,by rw[Ox (λf=>qI ⟨f.hp,f.hn⟩)];exact w,.refl⟩;rw[Aj,Lu,Yc];simp only[abS,E2,(Kd (x:=p) (y:=x) w).Ag,Ac qI,CC,(Bj:¬(3:Int)=0)]
 obtain⟨hp,hx⟩:=qI;by_cases hb:b≠0/\¬A.has b;.refine⟨3,h,ps,?_,by rw[Ox (λf=>hb.2 (f.hb hb.1).1)];exact w,.refl⟩;rw[Aj,Lu,Yc];simp only[abS,E2,(Kd (x:=p) (y:=x) w).Ag,Ad (And.intro hp hx),CC,BT,hb.1,(SO (x:=b) w).Ag,Bb hb.2,EK]
 have QX:b=0\/(b≠0/\A.has b):=by
  by_cases h0:b=0;.exact .inl h0
  .refine .inr ⟨h0,?_⟩;by_cases h1:A.has b;.exact h1
   .exact absurd ⟨h0,h1⟩ hb
 by_cases kp:Nh (A.nd p).kind;rotate_left
 .refine⟨4,h,ps,?_,by rw[Ox (λf=>kp f.kp)];exact w,.refl⟩;unfold Nh at kp;have c:¬(A.nd p).kind=1:=λe=>kp (.inl e);have q:¬(A.nd p).kind=2:=λe=>kp (.inr (.inl e));have B:¬(A.nd p).kind=4:=λe=>kp (.inr (.inr e));rw[Aj,Lu,Yc];rcases QX with h0|⟨h0,MA⟩
  .simp only[abS,E2,(Kd (x:=p) (y:=x) w).Ag,Ad (And.intro hp hx),CC,BT,(HJ w d hp).Ag,(HJ w d hx).Ag,w.f0 hp,w.f0 hx,c,EK,h0,q,B]
  .simp only[abS,E2,(Kd (x:=p) (y:=x) w).Ag,Ad (And.intro hp hx),CC,BT,(HJ w d hp).Ag,(HJ w d hx).Ag,w.f0 hp,w.f0 hx,c,EK,h0,(SO (x:=b) w).Ag,Bf MA,q,B]
 by_cases kn:(A.nd x).kind=1\/(A.nd x).kind=2
 .refine⟨4,h,ps,?_,by rw[Ox (λf=>by have:=f.kn;omega)];exact w,.refl⟩;rw[Aj,Lu,Yc];rcases kp with c|c|c<;>rcases kn with q|q<;>rcases QX with h0|⟨h0,MA⟩
  all_goals first|(simp only[abS,E2,(Kd (x:=p) (y:=x) w).Ag,Ad (And.intro hp hx),CC,BT,(HJ w d hp).Ag,(HJ w d hx).Ag,w.f0 hp,w.f0 hx,c,(Bj:¬(2:Int)=1),(Bj:¬(4:Int)=1),(Bj:¬(4:Int)=2),EK,h0,q];done)|simp only[abS,E2,(Kd (x:=p) (y:=x) w).Ag,Ad (And.intro hp hx),CC,BT,(HJ w d hp).Ag,(HJ w d hx).Ag,w.f0 hp,w.f0 hx,c,(Bj:¬(2:Int)=1),(Bj:¬(4:Int)=1),(Bj:¬(4:Int)=2),EK,h0,(SO (x:=b) w).Ag,Bf MA,q]
 have xu:¬(A.nd x).kind=1:=λe=>kn (.inl e);have nc:¬(A.nd x).kind=2:=λe=>kn (.inr e);have l:=Ř w ok hx hp;by_cases re:Reach A x p
 .refine⟨4,h,ps,?_,by rw[Ox (λf=>f.re re)];exact w,.refl⟩;rw[Bf re] at l;rw[Aj,Lu,Yc];rcases kp with c|c|c<;>rcases QX with h0|⟨h0,MA⟩
  all_goals first|(simp only[abS,E2,(Kd (x:=p) (y:=x) w).Ag,Ad (And.intro hp hx),CC,BT,(HJ w d hp).Ag,(HJ w d hx).Ag,w.f0 hp,w.f0 hx,c,(Bj:¬(2:Int)=1),(Bj:¬(4:Int)=1),(Bj:¬(4:Int)=2),EK,h0,xu,nc,l.Ag];done)|simp only[abS,E2,(Kd (x:=p) (y:=x) w).Ag,Ad (And.intro hp hx),CC,BT,(HJ w d hp).Ag,(HJ w d hx).Ag,w.f0 hp,w.f0 hx,c,(Bj:¬(2:Int)=1),(Bj:¬(4:Int)=1),(Bj:¬(4:Int)=2),EK,h0,(SO (x:=b) w).Ag,Bf MA,xu,nc,l.Ag]
 rw[Bb re] at l;by_cases g:b≠0/\(b=x\/(A.nd b).FL≠p)
 .refine⟨5,h,ps,?_,by rw[Ox (λf=>by have:=f.hb g.1;rcases g.2 with h|h;exact this.2.1 h;exact h this.2.2)];exact w,.refl⟩;obtain⟨h0,g⟩:=g;have MA:=(QX.resolve_left h0).2;rw[Aj,Lu,Yc];by_cases ng:b=x;.have aIW:=ng;rcases kp with c|c|c<;>simp only[abS,E2,(Kd (x:=p) (y:=x) w).Ag,Ad (And.intro hp hx),CC,BT,(HJ w d hp).Ag,(HJ w d hx).Ag,w.f0 hp,w.f0 hx,c,(Bj:¬(2:Int)=1),(Bj:¬(4:Int)=1),(Bj:¬(4:Int)=2),EK,xu,nc,l.Ag,ng,show¬x=0 from ng▸h0,Bf hx,(SO (x:=x) w).Ag]
  .have g:=g.resolve_left ng;rcases kp with c|c|c<;>simp only[abS,E2,(Kd (x:=p) (y:=x) w).Ag,Ad (And.intro hp hx),CC,BT,(HJ w d hp).Ag,(HJ w d hx).Ag,w.f0 hp,w.f0 hx,c,(Bj:¬(2:Int)=1),(Bj:¬(4:Int)=1),(Bj:¬(4:Int)=2),EK,h0,(SO (x:=b) w).Ag,Bf MA,xu,nc,l.Ag,ng,(HJ w d MA).Ag,w.f1 MA,g]
 have fits:tk A p x b:=⟨hp,hx,λh0=>⟨(QX.resolve_left h0).2,λe=>g ⟨h0,.inl e⟩,by
  by_cases h1:(A.nd b).FL=p;.exact h1
  .exact absurd ⟨h0,.inr h1⟩ g⟩,kp,⟨xu,nc⟩,re⟩
 have T:A.D9 p x b=(A.cut x).My p x b:=by unfold Ar.D9;rw[Ad fits]
 obtain⟨h1,o9,K,w1,O⟩:=Ŝ w d ok hx;have qJ:=tW ok hx nc;have mm:=d.cut (x:=x);have gE:(A.cut x).has p:=HF.2 hp;have Ri:(A.cut x).has x:=HF.2 hx;have D:x≠p:=by rintro rfl;exact re .refl
 have vZ:=mm.AT qJ p;obtain⟨k,V5,t,zE⟩:∃k,k<=((A.cut x).nd p).AT.length/\(b=0->k=((A.cut x).nd p).AT.length)/\(b≠0->BZ (λy=>decide (b=y)) 0 ((A.cut x).nd p).AT=(k:Int)/\((A.cut x).nd p).AT.takeWhile (λy=>decide (y≠b))=((A.cut x).nd p).AT.take k/\((A.cut x).nd p).AT.dropWhile (λy=>decide (y≠b))=((A.cut x).nd p).AT.drop k):=by
  by_cases h0:b=0;.exact⟨_,Af _,λ_=>rfl,λh=>absurd h0 h⟩
  .have r:=fits.hb h0;have š:((A.cut x).nd b).FL=p:=by
    rw[Pr ok hx,Ac r.2.1];split;.exact r.2.2
    .exact r.2.2
   have gi:b∈((A.cut x).nd p).AT:=by have:=(qJ.FL b (HF.2 r.1) (by rw[š];have:=hp.1;omega)).2;rwa [š] at this
   obtain⟨k,c,q,_,B,R⟩:=Qy gi;exact⟨k,Ab,λh=>absurd h h0,λ_=>⟨q,B,R⟩⟩
 have Pj:=wJ (y:=x) t λh=>(zE h).2;have IG:=w1.IG gE;obtain⟨h2,G,JB,bM,YP⟩:=wI IG V5 vZ x;have E:=(w1.pn gE).2.1;obtain⟨o,gp⟩:∃o:PN,o=⟨{(A.cut x).nd p with AT:=Lr ((A.cut x).nd p).AT b x},.CL h1.length 0 (((A.cut x).nd p).AT.length+1) 1,(pN o9 p).av,w1.Ŋ gE⟩:=⟨_,rfl⟩;have s:o.x={(A.cut x).nd p with AT:=Lr ((A.cut x).nd p).AT b x}:=by rw[gp]
 have hrow:o.row=(pN o9 p).row.set 2 (.CL h1.length 0 (((A.cut x).nd p).AT.length+1) 1):=by rw[gp];simp only[PN.row];rw[E];rfl
 have Ţ:n∈Fp a n m o9:=by simp[Fp]
 have ä:GM (pN o9 p).kv≠some n:=by intro z;have:=w1.nd;unfold Fp at this;simp only[BL,Az,Pz] at this;exact this.2.1 (Ak.2 (.inr (B1.2 ⟨_,(w1.pn gE).2.2,z⟩)))
 have C:=w1.sto gE (k:=2) Bj (v:= .CL h1.length 0 (((A.cut x).nd p).AT.length+1) 1) rfl hrow (bM n (w1.lt n Ţ) ä);have hlen:(Lr ((A.cut x).nd p).AT b x).length=((A.cut x).nd p).AT.length+1:=by rw[Pj,Ap,AU,Au,AV];omega
 have w2:=w1.pZ gE (p:=o) (h1:=h2) (λi hi hn=>bM i (w1.lt i hi) hn) (by rw[gp];refine .inr ⟨h1.length,[],by simp only[hlen],?_⟩;simp only[Pj,BQ];exact JB) (.inr λj hj=>by rw[gp] at hj;cases hj;exact Af _)
 have TY:∀i,i∈Fp a n m (o9.set (p.toNat-1) o)->i∈Fp a n m o9\/i=h1.length:=by
  intro i hi;rcases aJ w1 gE hi with h|h
  .exact .inl h
  .rw[gp] at h;cases h;exact .inr rfl
 generalize u:h2.set n (.cells ((o9.set (p.toNat-1) o).map PN.row).flatten)=U at C w2;generalize aIZ:o9.set (p.toNat-1) o=wE at w2 TY;rw[s] at w2;have XJ:((A.cut x).set p {(A.cut x).nd p with AT:=Lr ((A.cut x).nd p).AT b x}).has x:=HE.2 Ri;have Vq:((A.cut x).set p {(A.cut x).nd p with AT:=Lr ((A.cut x).nd p).AT b x}).nd x=(A.cut x).nd x:=by rw[FA,Ac (λh=>D h.1)]
 have qI:=(w2.pn XJ).2.1;obtain⟨M,H,P,S,Q,l4⟩:=w2.wr XJ (k:=1) Bj (v:= I p) rfl (p:=⟨{(A.cut x).nd x with FL:=p},(pN wE x).kv,(pN wE x).av,by have:=(pN wE x).ok;rw[qI,Vq] at this;exact this⟩) (by simp only[PN.row];rw[qI,Vq];rfl) rfl (Ca D8.AT Vq).symm;have ţ:(A.cut x).My p x b=((A.cut x).set p {(A.cut x).nd p with AT:=Lr ((A.cut x).nd p).AT b x}).set x {(A.cut x).nd x with FL:=p}:=by unfold Ar.My;simp only;rw[Vq]
 refine⟨0,M,_,?_,by rw[T,ţ];exact P,?_⟩
 .rw[Aj,Lu,Yc];by_cases h0:b=0;.rw[t h0] at G;have kl:=IG.len;rcases kp with c|c|c<;>simp only[abS,E2,(Kd (x:=p) (y:=x) w).Ag,Ad (And.intro hp hx),CC,BT,(HJ w d hp).Ag,(HJ w d hx).Ag,w.f0 hp,w.f0 hx,c,(Bj:¬(2:Int)=1),(Bj:¬(4:Int)=1),(Bj:¬(4:Int)=2),EK,h0,xu,nc,l.Ag,K.Ag,w1.f2 gE,kl,GB,G,C,H]
  .have r:=fits.hb h0;have MA:=r.1;have J:=xr IG.Ms vZ b;rw[(zE h0).1] at J;have kl:=IG.len;rcases kp with c|c|c<;>simp only[abS,E2,(Kd (x:=p) (y:=x) w).Ag,Ad (And.intro hp hx),CC,BT,(HJ w d hp).Ag,(HJ w d hx).Ag,w.f0 hp,w.f0 hx,c,(Bj:¬(2:Int)=1),(Bj:¬(4:Int)=1),(Bj:¬(4:Int)=2),EK,h0,(SO (x:=b) w).Ag,Bf MA,xu,nc,l.Ag,r.2.1,(HJ w d MA).Ag,w.f1 MA,r.2.2,K.Ag,w1.f2 gE,kl,J.Ag,GB,G,C,H]
 .have jA:U.length=h1.length+1:=by rw[<-u,Bv,YP]
  have N:FD h1 (λi=>i∈Fp a n m o9) M (λi=>i∈Fp a n m (wE.set (x.toNat-1) ⟨{(A.cut x).nd x with FL:=p},(pN wE x).kv,(pN wE x).av,by have:=(pN wE x).ok;rw[qI,Vq] at this;exact this⟩)):=by
   refine⟨Ab,λi hi YL=>?_,λi hi=>?_⟩;.have L:i≠n:=λz=>YL (z▸Ţ);rw[Q i L,<-u,An (DX L)];exact bM i hi λz=>YL (JW (w1.pn gE).2.2 z)
   .rw[S] at hi;rcases TY i hi with h|h
    .exact .inl h
    .exact .inr Ab
  exact O.trans N
end
def N2(a:Nat)(b:BS)(o c t:Aa):List Aa:=[Pt a 0,I b.BO,o,c,I b.mode,I b.Z6,t,I b.head,I b.Ps,.bool b.NY,I b.ctx.node,I b.ctx.AW,.str b.ctx.name,.bool b.ctx.NS,.bool b.fs,.bool b.ES,.str b.oK,.bool b.skip,I b.sw,.bool b.stop]
def Ry(l:List Int)(v:Aa):Prop:=Ff l v\/(v= .Fq 1/\l=[])
def VK(l:List Int)(v:Aa):Prop:=Ry l v/\v≠ .sl 1 []
section
variable{h:Ah}{l:List Int}{v:Aa}
def Ry.cells(t:Ry l v):v.cells=[v]:=by
 rcases t with t|⟨rfl,_⟩
 .exact Bu.cells t
 .rfl
def Ry.len(t:Ry l v):Ay (.len false) [v]=some (I (l.length:Int)):=by
 rcases t with t|⟨rfl,rfl⟩
 .exact Bu.Gi t
 .rfl
def Ry.ne(t:Ry l v)(hne:l≠[]):Ff l v:=by
 rcases t with t|⟨_,e⟩
 .exact t
 .exact absurd e hne
def Ry.Ms(t:Ry l v):N1 h v l:=⟨t.len,λk hk=>(Ff.Ms (t.ne (λe=>by rw[e] at hk;simp at hk))).at_ k hk⟩
def Ry.NT(t:Ry l v)(hb:l.length*8<=AQ):∃u,Ay (.append 1 8) [.slnil,v]=some u/\Ff l u:=by
 rcases t with t|⟨rfl,rfl⟩
 .exact Bu.NT t hb
 .exact⟨.slnil,rfl,.inr ⟨rfl,rfl⟩⟩
def VK.sE{m:Int}:VK (l++[m]) (.sl 1 ((l++[m]).map DH)):=⟨.inl .mk,λe=>by injection e with _ e;simp at e⟩
def VK.nil:VK [] .slnil:=⟨.inl (.inr ⟨rfl,rfl⟩),nofun⟩
end
structure BX(h:Ah)(bi a:Nat)(o c t:Aa)(G:Nat->Prop)(b:BS):Prop where
 hb:h[bi]?=some (.cells (N2 a b o c t))
 o:Dg b.AO o
 t:VK b.tm t
 w:PW h G a b.a
 nb:¬G bi
section
variable{h:Ah}{bi a:Nat}{o c t:Aa}{G F:Nat->Prop}{b:BS}{x:Int}{m:Nat}
def BX.lt(w:BX h bi a o c t G b):bi<h.length:=(Ae.1 w.hb).1
def BX.DU{h':Ah}(w:BX h bi a o c t G b)(hf:∀i,i=bi\/G i->h'[i]?=h[i]?):BX h' bi a o c t G b:=
 ⟨by rw[hf bi (.inl rfl)];exact w.hb,w.o,w.t,w.w.DU λi hi=>hf i (.inr hi),w.nb⟩
def BX.Kr(w:BX h bi a o c t G b){u:Ah}:BX (h++u) bi a o c t G b:=w.DU λi hi=>Al (by rcases hi with rfl|hi;exact w.lt;exact w.w.lt hi)
def BX.ld(w:BX h bi a o c t G b)(k:Nat):Bq h none (Pt bi k)=(N2 a b o c t)[k]?:=by simp only[Bq,w.hb,Fi]
def BX.l0(w:BX h bi a o c t G b):Bq h none (Pt bi 0)=some (Pt a 0):=w.ld 0
def BX.l1(w:BX h bi a o c t G b):Bq h none (Pt bi 1)=some (I b.BO):=w.ld 1
def BX.l4(w:BX h bi a o c t G b):Bq h none (Pt bi 4)=some (I b.mode):=w.ld 4
def BX.l7(w:BX h bi a o c t G b):Bq h none (Pt bi 7)=some (I b.head):=w.ld 7
def BX.l9(w:BX h bi a o c t G b):Bq h none (Pt bi 9)=some (.bool b.NY):=w.ld 9
def BX.nh(w:BX h bi a o c t G b):Bq h none (Pt bi 15)=some (.bool b.ES):=w.ld 15
def BX.l3(w:BX h bi a o c t G b):Bq h none (Pt bi 3)=some c:=w.ld 3
def BX.l6(w:BX h bi a o c t G b):Bq h none (Pt bi 6)=some t:=w.ld 6
def BX.atO(w:BX h bi a o c t G b):At h bi 2 o:=⟨_,w.hb,rfl⟩
def BX.wK(w:BX h bi a o c t G b):At h bi 3 c:=⟨_,w.hb,rfl⟩
def BX.sO(w:BX h bi a o c t G b):Kt h bi 2 b.AO:=⟨o,w.atO,w.o⟩
def BX.sA(w:BX h bi a o c t G b):qC h (Pt bi 2) b.AO:=w.sO.at
def Hg(w:BX h bi a o c t G b):Cx cx 25 [Pt bi 0] h (.bool true) h:=by rw[Aj,uN,t25];simp only[abS,w.l0]
def PW.pa{A:Ar}(w:PW h G a A):∃n m ps,PA h a n m ps A:=let⟨n,m,ps,w,_⟩:=w;⟨n,m,ps,w⟩
def SP(w:BX h bi a o c t G b)(ok:BA b)(rm:Ct b m)(x:Int):∃K V u,Cx cx 48 [Pt bi 0,I x] h (.agg [I (b.a.nd x).kind,I (b.a.nd x).FL,K,I (b.a.nd x).BO,I (b.a.nd x).AW,.str (b.a.nd x).name,V,.str (b.a.nd x).data,.str (b.a.nd x).zx,.str (b.a.nd x).sys,.bool (b.a.nd x).Cj,I (b.a.nd x).cont,I (b.a.nd x).C0]) (h++u)/\Ff (b.a.nd x).AT K/\FE (h++u) V (b.a.nd x).Av/\Up h.length V:=by obtain⟨n,m',ps,d⟩:=w.w.pa;obtain⟨r,u,e,K,V,rfl,g,f⟩:=ŋ (x:=x) d rm.VG (rm.VG.AT ok.ok x);refine⟨K,V,u,?_,g,f⟩;rw[Aj,uT,t48];simp only[abS,w.l0,e.Ag]
def xw(w:BX h bi a o c t G b)(rm:Ct b m):Cx cx 14 [Pt bi 0] h (.agg (E6 b.AO).row) h:=by have:=rm.AO;rw[Aj,uK,t14];simp only[abS,IH,(Hg w).Ag,(f39 w.sA Ab).Ag]
def Ť(w:BX h bi a o c t G b)(ok:BA b)(rm:Ct b m):Cx cx 95 [Pt bi 0] h (.tuple [I b.JS.1,I b.JS.2]) h:=by
 have hl:=rm.AO;obtain⟨n,m',ps,g⟩:=w.w.pa;have f:=f144 w.sA (Ab:b.AO.length<=1000000000) Fe;have r2:=f144 w.sA (Ab:b.AO.length<=1000000000) AY;have b1:=Il (q:=Bl [Fe]) (l:=b.AO);have b2:=Il (q:=Bl [AY]) (l:=b.AO);unfold BS.JS;simp only
 generalize AG (Bl [Fe]) b.AO=d at f b1⊢;generalize AG (Bl [AY]) b.AO=i at r2 b2⊢;rw[Aj,vI,t95];simp only[Cr,f.Ag,r2.Ag];refine⟨λh1=>?_,λh1=>⟨λh2=>?_,λh2=>?_⟩⟩;.rw[Ad h1];simp only[Cr,IH,(UL w.sA i).Ag]
 .rw[Ac h1,Ad h2];simp only[Cr,IH,(UL w.sA 0).Ag]
 .rw[Ac h1,Ac h2];simp only[abS,IH,(UL w.sA d).Ag,w.l0,(Ō (x:=(EA b.AO d).node) g rm.VG).Ag];refine⟨λe=>?_,λe=>?_⟩;.rw[Ad e]
  .rw[Ac e];have j:(if d-1<0 then 0 else d-1)=max (d-1) 0:=Ab;simp only[Cr,IH,Em (Ab: -9223372036854775808<=d-1) (Ab:d-1<9223372036854775808),XR,j,(UL w.sA (max (d-1) 0)).Ag]
def WN:Ay (.Cf 1) [S Fe,S eV,S eW,S eX,S wTr]=some (.sl 1 (Hb.map C1)):=EW (ws:=Hb) rfl Bj
def gF{v:Aa}{ws:List Aq}(hv:Ka ws v)(hn:ws.length<=1000000000)(a:Item)(h:Ah):Cx cx 93 [.agg a.row,v] h (.bool (Bl ws a)) h:=by rw[Aj,vH,t93];simp only[Cr,IH,(Ł hv hn _ h).Ag,Bl];refine⟨λh1=>by simp[h1],λh1=>by simp[h1]⟩
def wL{A:Ar}{x:Int}(hk:(A.nd x).kind=4)(ws:List Aq):Bl ws ⟨0,(A.nd x).AW,(A.nd x).name,false⟩=decide (X7 ws A x):=by
 by_cases h:X7 ws A x;.rw[Bf h];unfold Bl;rw[Bf];exact⟨h.2.1,h.2.2⟩
 .rw[Bb h];unfold Bl;rw[Bb];exact λh2=>h ⟨hk,h2.1,h2.2⟩
def gq(w:BX h bi a o c t G b)(ok:BA b)(rm:Ct b m)(x:Int):∃u,Cx cx 47 [Pt bi 0,I x] h (.tuple [I (b.place x).1,I (b.place x).2]) (h++u):=by
 have hl:=rm.AO;by_cases A:x=0/\b.AO=[]
 .refine⟨[],?_⟩;have C:b.place x=(b.BO,0):=by unfold BS.place;rw[Ad A]
  rw[C,BQ,Aj,fM,t47];simp only[abS,(Hg w).Ag,A.1,A.2,BT,(f104 w.sA).Ag,LR,w.l1]
 .obtain⟨t',ht⟩:∃t',t'=if x=0 then(E6 b.AO).node else x:=⟨_,rfl⟩
  obtain⟨X,U,p,R,_,_⟩:=SP w ok rm t';have w1:=w.Kr (u:=p);have C:b.place x=if(b.a.nd (if b.ES=true/\X7 Hb b.a t' then b.JS else(t',0)).1).cont≠0 then((b.a.nd (if b.ES=true/\X7 Hb b.a t' then b.JS else(t',0)).1).cont,0) else if b.ES=true/\X7 Hb b.a t' then b.JS else(t',0):=by unfold BS.place;rw[Ac A,<-ht]
  obtain⟨B,oS⟩:∃B,B=if b.ES=true/\X7 Hb b.a t' then b.JS else(t',0):=⟨_,rfl⟩
  rw[<-oS] at C;obtain⟨V,T,O,r2,_,_⟩:=SP w1 ok rm B.1;have Q:=Ť w1 ok rm;have r:=gF (ws:=Hb) D7 Bj ⟨0,(b.a.nd t').AW,(b.a.nd t').name,false⟩ (h++p);have em:∀s n,Ay (.B4 [I 0,I 0,S [],ff] [(1,1),(2,1)]) [I s,.str n]=some (.agg (Item.row ⟨0,s,n,false⟩)):=λ_ _=>rfl;refine⟨p++O,?_⟩;rw[<-AB];have last:∀(y:Int×Int),y=B->W cx (.call 48 [Pt bi 0,I y.1] λj=> .cells 13 j λť=> .op (.int .neq) [g ť 11,I 0] λf=> .AX f (.ret .ret [.tuple [g ť 11,I 0]]) (.ret .ret [.tuple [I y.1,I y.2]])) (λd vs h1=>d=Fs.ret/\vs=[.tuple [I (b.place x).1,I (b.place x).2]]/\h1=h++p++O) (h++p):=by
   rintro _ rfl;rw[C];simp only[Cr,r2.Ag];refine⟨λh1=>?_,λh1=>?_⟩;.rw[Ad h1]
   .rw[Ac h1]
  rw[Aj,fM,t47];have nh:=w1.nh;have xy:W cx (.call 48 [Pt bi 0,I t'] λN=> .cells 13 N λk=> .Fj 200009 (.op .KC [Pt bi 0] λM=> .op (.FV 15) [M] λv16=> .load none v16 λL=> .AX L (.op (.int .eql) [g k 0,I 4] λK=> .AX K (.op (.B4 [I 0,I 0,S [],ff] [(1,1),(2,1)]) [g k 4,g k 5] λJ=> .op (.Cf 1) [S aLb,S aLr,S aLn,S aLs,S [116,114]] λv20=> .call 93 [J,v20] λH=> .ret .normal [H]) (.ret .normal [ff])) (.ret .normal [ff])) (λx P=>match x with
    | .normal=> .Fj 100046 (.AX (g P 0) (.call 95 [Pt bi 0] λq=> .op (.ext 0) [q] λE=> .op (.ext 1) [q] λD=> .ret .normal [E,D]) (.ret .normal [I t',I 0])) (λx Ŧ=>match x with
     | .normal=> .call 48 [Pt bi 0,g Ŧ 0] λj=> .cells 13 j λť=> .op (.int .neq) [g ť 11,I 0] λf=> .AX f (.ret .ret [.tuple [g ť 11,I 0]]) (.ret .ret [.tuple [g Ŧ 0,g Ŧ 1]])
     | .exit i=> .fail
     | .ret=> .ret .ret [.tuple [g Ŧ 0,g Ŧ 1]])
    | .exit i=> .fail
    | .ret=> .ret .ret [.tuple [I t',I 0]])) (λd vs h1=>d=Fs.ret/\vs=[.tuple [I (b.place x).1,I (b.place x).2]]/\h1=h++p++O) h:=by
   rw[R.Ag];by_cases hf:b.ES=true
   .rw[hf] at nh;by_cases z:(b.a.nd t').kind=4
    .rw[wL z] at r;by_cases hw:X7 Hb b.a t';.rw[Bf hw] at r;rw[Ad ⟨hf,hw⟩] at oS;have:=last b.JS oS.symm;simp only[abS,nh,z,em,WN,r.Ag,Q.Ag];simpa only[Cr,ZM,AU,BK] using this
     .rw[Bb hw] at r;rw[Ac (λh=>hw h.2)] at oS;have:=last (t',0) oS.symm;simp only[abS,nh,z,em,WN,r.Ag];simpa only[Cr,ZM,AU,BK] using this
    .rw[Ac (λh=>z h.2.1)] at oS;have:=last (t',0) oS.symm;simp only[abS,nh,z];simpa only[Cr,ZM,AU,BK] using this
   .rw[Ac (λh=>hf h.1)] at oS;have:=last (t',0) oS.symm;rw[show b.ES=false by simpa using hf] at nh;simp only[Cr,nh];simpa only[Cr,ZM,AU,BK] using this
  by_cases h0:x=0
  .have hne:b.AO≠[]:=λe=>A ⟨h0,e⟩;have yW:¬((b.AO.length:Nat):Int)=0:=by have:=DB.2 hne;omega
   rw[Ad h0] at ht;rw[ht] at xy;simp only[abS,(Hg w).Ag];rw[h0] at xy⊢;simp only[abS,IH,(f104 w.sA).Ag,yW,(xw w rm).Ag] at xy⊢;exact xy
  .rw[Ac h0] at ht;rw[ht] at xy;simp only[abS,(Hg w).Ag,h0,CY] at xy⊢;exact xy
end
section
def pA{Q:IN}{h:Ah}{k:Aa->IT}:W cx (.OC k) Q h↔W cx (k (.map (some h.length))) Q (h++[.map (ft 0)]):=Pl
section
variable{v:Aa}{l:List A3}{h:Ah}
def aDJ(hv:Cp l v)(hb:l.length<=1000)(sp:Int):∃u,Cx cx 128 [I sp,v] h u (h++[.map (ft 11)])/\Cp (l.map (Dp sp)) u:=by
 have Ig:Bu 3 (l.map A3.row) v:=hv;have NH:Ev cx 128 [I sp,v] h λr h'=>h'=h++[.map (ft 11)]/\Cp (l.map (Dp sp)) r:=by
  unfold Ev;rw[kG,vt];rw[pA];simp only[Cr,Nat.reduceLeDiff,↓reduceIte,BD,EY,eL,ü,ý,þ,ÿ,Ā,ā,Ă,ă,Ą,ą,tg,Ig.Gi];refine BI (λp:Nat×Aa=>[p.2,I (p.1:Int)]) (λp h1=>p.1<=l.length/\Cp ((l.take p.1).map (Dp sp)) p.2/\h1=h++[.map (ft 11)]) (λp=>l.length-p.1) (0,.slnil) rfl ⟨A7 _,.nil,rfl⟩ ?_;rintro⟨n,u⟩ h1 ⟨hn,hu,rfl⟩;simp only at hn hu;rcases Bg n l.length with hlt|GW
  .have i1:(n:Int)<(l.length:Int):=by omega
   have H5:∀{q:List Aa},q=(Dp sp l[n]).row->∃w,Ay (.append 3 40) [u,.sl 3 [q]]=some w/\Cp ((l.take (n+1)).map (Dp sp)) w:=by
    rintro _ rfl;refine⟨_,Bu.WB (f:=A3.row) (a:=Dp sp l[n]) (b:=40) hu ?_,?_⟩;.simp[AQ];omega
    .rw[AD hlt,BV];exact .mk
   have inc:=Ci (Ab:n<9223372036854775807);by_cases e:sp=2
   .subst e;cases c:IB (Dv l[n].name Mj) with
    |some x=>obtain⟨w,d,hw⟩:=H5 (q:=[I x.1,.str x.2,.str l[n].value]) (by simp only[Dp,Lp,true_or,BH,c,A3.row]);simp only[Cr,Nat.reduceLeDiff,↓reduceIte,BD,i1,Ig.DC hlt,EY,A3.row,(f235 _).Co rfl rfl,AL,AP,AI,KL,c,KM,d,inc];exact A8.next (n+1,w) rfl ⟨hlt,hw,rfl⟩ Hc
    |none=>obtain⟨w,d,hw⟩:=H5 (q:=[I 0,.str (Dv l[n].name Mj),.str l[n].value]) (by simp only[Dp,Lp,true_or,BH,c,A3.row]);simp only[Cr,Nat.reduceLeDiff,↓reduceIte,BD,i1,Ig.DC hlt,EY,A3.row,(f235 _).Co rfl rfl,AL,AP,AI,KL,c,KM,d,inc];exact A8.next (n+1,w) rfl ⟨hlt,hw,rfl⟩ Hc
   by_cases g:sp=3
   .subst g;by_cases hd:l[n].name=Ć
    .have c:IB th=none:=by decide
     obtain⟨w,d,hw⟩:=H5 (q:=[I 0,.str th,.str l[n].value]) (by simp only[Dp,Lp,hd,or_true,BH,E9,c,A3.row,xT,e]);simp only[Cr,Nat.reduceLeDiff,↓reduceIte,BD,i1,Ig.DC hlt,EY,A3.row,hd,(Bj:¬(3:Int)=2),AL,AM,AP,AI,KL,c,KM,d,inc];exact A8.next (n+1,w) rfl ⟨hlt,hw,rfl⟩ Hc
    .cases c:IB l[n].name with
     |some x=>obtain⟨w,d,hw⟩:=H5 (q:=[I x.1,.str x.2,.str l[n].value]) (by simp only[Dp,Lp,hd,or_true,BH,E9,c,A3.row,and_false,e]);simp only[Cr,Nat.reduceLeDiff,↓reduceIte,BD,i1,Ig.DC hlt,EY,A3.row,hd,(Bj:¬(3:Int)=2),AL,AM,AP,AI,KL,c,KM,d,inc];exact A8.next (n+1,w) rfl ⟨hlt,hw,rfl⟩ Hc
     |none=>obtain⟨w,d,hw⟩:=H5 (q:=[I 0,.str l[n].name,.str l[n].value]) (by simp only[Dp,Lp,hd,or_true,BH,E9,c,A3.row,and_false,e]);simp only[Cr,Nat.reduceLeDiff,↓reduceIte,BD,i1,Ig.DC hlt,EY,A3.row,hd,(Bj:¬(3:Int)=2),AL,AM,AP,AI,KL,c,KM,d,inc];exact A8.next (n+1,w) rfl ⟨hlt,hw,rfl⟩ Hc
   .obtain⟨w,d,hw⟩:=H5 (q:=[I 0,.str l[n].name,.str l[n].value]) (by simp only[Dp,e,g,or_self,E9,A3.row]);cases c:IB l[n].name with
    |some x=>simp only[Cr,Nat.reduceLeDiff,↓reduceIte,BD,i1,Ig.DC hlt,EY,A3.row,e,g,AL,AM,AP,AI,KL,c,KM,d,inc];exact A8.next (n+1,w) rfl ⟨hlt,hw,rfl⟩ Hc
    |none=>simp only[Cr,Nat.reduceLeDiff,↓reduceIte,BD,i1,Ig.DC hlt,EY,A3.row,e,g,AL,AM,AP,AI,KL,c,KM,d,inc];exact A8.next (n+1,w) rfl ⟨hlt,hw,rfl⟩ Hc
  .have i1:¬(n:Int)<(l.length:Int):=by omega
   rw[AR GW] at hu;simp only[Cr,Nat.reduceLeDiff,↓reduceIte,BD,i1,AM,AP,AI];exact⟨_,rfl,hu⟩
 obtain⟨r,h',hr,rfl,hu⟩:=NH.ret;exact⟨r,hr,hu⟩
end
end
def BE(bi:Nat)(G:Nat->Prop):Nat->Prop:=λi=>i=bi\/G i
section
variable{h h':Ah}{bi a:Nat}{o c t:Aa}{G G' F:Nat->Prop}{b:BS}{x:Int}{m:Nat}
def FD.ŧ(x:FD h G h' G'):FD h (Am.BE bi G) h' (Am.BE bi G'):=⟨x.len,λi hi hn=>x.old i hi λhg=>hn (.inr hg),λi hi=>by
 rcases hi with rfl|hi
 .exact .inl (.inl rfl)
 .rcases x.BE i hi with h|h
  .exact .inl (.inr h)
  .exact .inr h⟩
def BX.US{A':Ar}(w:BX h bi a o c t G b)(hp:PW h' G' a A')(x:FD h G h' G'):BX h' bi a o c t G' {b with a:=A'}/\FD h (BE bi G) h' (BE bi G'):=
 ⟨⟨by rw[x.old bi w.lt w.nb];exact w.hb,w.o,w.t,hp,λhg=>by rcases x.BE bi hg with h|h;exact w.nb h;have:=w.lt;omega⟩,x.ŧ⟩
def BX.step{A':Ar}{R:Ah->Prop}(w:BX h bi a o c t G b)(d:∀n m ps,PA h a n m ps b.a->∃h' n' m' OH,R h'/\PA h' a n' m' OH A'/\FD h (λi=>i∈Fp a n m ps) h' (λi=>i∈Fp a n' m' OH)):
  ∃h' G',R h'/\BX h' bi a o c t G' {b with a:=A'}/\FD h (BE bi G) h' (BE bi G'):=by
 obtain⟨n,m,ps,g,e⟩:=w.w;obtain⟨h',n',m',OH,r,w',x⟩:=d n m ps g;have j:G=λi=>i∈Fp a n m ps:=funext λi=>propext (e i);obtain⟨w2,f⟩:=w.US w'.pw (by rw[j];exact x);exact⟨h',_,r,w2,f⟩
def BX.DT(w:BX h bi a o c t G b){u:Ah}:FD h (BE bi G) (h++u) (BE bi G):= .Kr
def Ũ{v:Aa}{l:List Int}{f:FuncId}{caps:List Aa}{q:Int->Bool}(hv:Ff l v)(hb:l.length<=1000000000)(hf:f<=99999)(hq:∀k∈l,∀u,∃d,Cx cx f (I k::caps) (h++u) (.bool (q k)) (h++u++d)):
  ∃u,Cx cx 141 [v,.func (.func f) [] caps] h (I (BZ q 0 l)) (h++u):=by
 have Ig:Bu 1 (l.map DH) v:=hv;have NH:Ev cx 141 [v,.func (.func f) [] caps] h λr h'=>r= I (BZ q 0 l)/\∃u,h'=h++u:=by
  unfold Ev;rw[kN,wc];simp only[Cr,Ig.Gi];refine BI (λk:Nat=>[I 0,I (k:Int)]) (λk h1=>k<=l.length/\BZ q 0 l=BZ q k (l.drop k)/\∃u,h1=h++u) (λk=>l.length-k) 0 rfl ⟨A7 _,rfl,[],Aw⟩ ?_;rintro k h1 ⟨hk,ha,u,rfl⟩;rcases Bg k l.length with hlt|GW
  .have i1:(k:Int)<(l.length:Int):=by omega
   have g:Bq (h++u) none (.Cz (DH l[k]))=some (I l[k]):=rfl;obtain⟨d,e⟩:=hq _ (AJ hlt) u;rw[AA hlt,BZ] at ha;simp only[abS,↓reduceIte,De,i1,Ig.DC hlt,g,hf,e.Ag,Ci (Ab:k<9223372036854775807)];rw[Du];refine⟨λh2=>?_,λh2=>?_⟩;.exact⟨_,rfl,by rw[ha,Ad h2],u++d,Aw⟩
   .rw[Ac (by simp[h2])] at ha;exact A8.next (k+1) rfl ⟨hlt,ha,u++d,Aw⟩ Ab
  .have i1:¬(k:Int)<(l.length:Int):=by omega
   rw[Bd GW,BZ] at ha;simp only[abS,↓reduceIte,De,i1];exact⟨_,rfl,by rw[ha],u,rfl⟩
 obtain⟨r,h',hr,rfl,u,rfl⟩:=NH.ret;exact⟨u,hr⟩
def lR{l:List Int}{q:Int->Bool}:decide (0<=BZ q 0 l)=l.any q:=by
 rcases GJ (p:=q) (l:=l) (k:=0) with⟨h1,h2⟩|⟨n,y,h1,h2,d⟩
 .rw[h1,zd];have:=Kg.1 h2;simpa using this
 .rw[h1,zd];have f:=Sp d;have e:=OK d;rw[Bf Ab,QU];exact⟨y,e,f⟩
def BX.self(w:BX h bi a o c t G b){A':Ar}(e:A'=b.a):BX h bi a o c t G {b with a:=A'}:=by subst e;exact w
open Classical in
def aK{p bf:Int}(w:BX h bi a o c t G b)(ok:BA b)(rm:Ct b m):∃h' G',Cx cx 53 [Pt bi 0,I x,I p,I bf] h (.tuple []) h'/\BX h' bi a o c t G' {b with a:=b.a.Dn x p bf}/\FD h (BE bi G) h' (BE bi G'):=by
 obtain⟨K1,Z,d,H,_,_⟩:=SP w ok rm p;have w1:=w.Kr (u:=d);have W:∀v,Aa.cells (.ptr v)=[.ptr v]:=λ_=>rfl;have Iv:∀h2,(∃u,h2=h++u)->∃h' G',(∃j,Cx cx 100 [Pt a 0,I p,I x,I bf] h2 (I j) h')/\BX h' bi a o c t G' {b with a:=b.a.D9 p x bf}/\FD h (BE bi G) h' (BE bi G'):=by
  rintro _ ⟨u,rfl⟩;have w2:=w.Kr (u:=u);obtain⟨h',G',r,w',x'⟩:=w2.step (A':=b.a.D9 p x bf) (R:=λh'=>∃j,Cx cx 100 [Pt a 0,I p,I x,I bf] (h++u) (I j) h') (λn m ps P=>by obtain⟨j,h',OH,r,wp,O⟩:=Š P rm.VG ok.ok (p:=p) (x:=x) (b:=bf);exact⟨h',n,m,OH,⟨j,r⟩,wp,O⟩)
  exact⟨h',G',r,w',w.DT.trans x'⟩
 by_cases z:(b.a.nd p).kind=1
 .obtain⟨K2,Y,i,r2,_,_⟩:=SP w1 ok rm x;have w2:=w1.Kr (u:=i);by_cases C:(b.a.nd x).kind=4
  .obtain⟨U,V,wE,L⟩:=w2.w.pa;obtain⟨K,N,T⟩:=ml (x:=p) L rm.VG (rm.VG.AT ok.ok p);obtain⟨E,S⟩:=Ũ (h:=h++d++i) (f:=99) (caps:=[.Cz [Pt bi 0]]) (q:=λk=>decide ((b.a.nd k).kind=4)) T (rm.VG.AT ok.ok p) Bj (λk _ u=>by have D:=w2.Kr (u:=u);obtain⟨K3,X,Q,s,_,_⟩:=SP D ok rm k;refine⟨Q,?_⟩;rw[Aj,vL,t99];simp only[Cr,s.Ag])
   have g:Cx cx 98 [K,.func (.func 99) [] [.Cz [Pt bi 0]]] (h++d++i) (.bool ((b.a.nd p).AT.any λk=>decide ((b.a.nd k).kind=4))) (h++d++i++E):=by rw[Aj,vK,t98,<-lR];simp only[Cr,S.Ag]
   have D:=w2.Kr (u:=E);by_cases J:∃k∈(b.a.nd p).AT,(b.a.nd k).kind=4
   .have M:((b.a.nd p).AT.any λk=>decide ((b.a.nd k).kind=4))=true:=by simpa using J
    rw[M] at g;have y:b.a.Dn x p bf=b.a:=by unfold Ar.Dn;rw[Ad ⟨z,C,J⟩]
    refine⟨_,G,?_,D.self y,(w.DT.trans w1.DT).trans w2.DT⟩;rw[Aj,UH,t53];simp only[abS,H.Ag,z,r2.Ag,C,w2.l0,N.Ag,g.Ag]
   .have M:((b.a.nd p).AT.any λk=>decide ((b.a.nd k).kind=4))=false:=by rw[List.any_eq_false];intro k hk;simpa using λe=>J ⟨k,hk,e⟩
    rw[M] at g;have y:b.a.Dn x p bf=b.a.D9 p x bf:=by unfold Ar.Dn;rw[Ac (λh=>J h.2.2)]
    obtain⟨h',G',⟨j,s⟩,B,A⟩:=Iv (h++d++i++E) ⟨d++i++E,Aw⟩;refine⟨h',G',?_,by rw[y];exact B,A⟩;rw[Aj,UH,t53];simp only[abS,H.Ag,z,r2.Ag,C,w2.l0,N.Ag,g.Ag,D.l0,s.Ag]
  .have y:b.a.Dn x p bf=b.a.D9 p x bf:=by unfold Ar.Dn;rw[Ac (λh=>C h.2.1)]
   obtain⟨h',G',⟨j,s⟩,B,A⟩:=Iv (h++d++i) ⟨d++i,Aw⟩;refine⟨h',G',?_,by rw[y];exact B,A⟩;rw[Aj,UH,t53];simp only[abS,H.Ag,z,r2.Ag,C,w2.l0,s.Ag]
 .have y:b.a.Dn x p bf=b.a.D9 p x bf:=by unfold Ar.Dn;rw[Ac (λh=>z h.1)]
  obtain⟨h',G',⟨j,s⟩,B,A⟩:=Iv (h++d) ⟨d,rfl⟩;refine⟨h',G',?_,by rw[y];exact B,A⟩;rw[Aj,UH,t53];simp only[abS,H.Ag,z,w1.l0,s.Ag]
def ũ(w:BX h bi a o c t G b)(ok:BA b)(rm:Ct b m)(p:Int):∃u,Cx cx 131 [Pt bi 0,I p] h (I (b.I0 p)) (h++u):=by
 obtain⟨k,i,d,f,_,_⟩:=SP w ok rm p;have w1:=w.Kr (u:=d);unfold BS.I0;by_cases hc:(b.a.nd p).cont=0
 .refine⟨d,?_⟩;rw[Ac (by simp[hc]),Aj,Yg,cr];simp only[abS,f.Ag,hc,CC,BT,w1.l1];refine⟨λh1=>?_,λh1=>?_⟩;.rw[Ad h1]
  .rw[Ac h1]
 .obtain⟨j,g,e,r2,_,_⟩:=SP w1 ok rm (b.a.nd p).cont;have w2:=w1.Kr (u:=e);refine⟨d++e,?_⟩;rw[Ad hc,<-AB,Aj,Yg,cr];simp only[abS,f.Ag,r2.Ag,hc,CC,w2.l1];refine⟨λh1=>?_,λh1=>?_⟩;.rw[Ad h1]
  .rw[Ac h1]
def VL(nm:Aq)(av:Aa)(r:List Aa):Prop:=∃n k j i g f e d YO jC,r=[n,.str nm,k,j,i,g,f,e,av,d,YO,jC]
def OZ:Aa.agg Item.zero.row= .agg [I 0,I 0,S [],ff]:=rfl
variable{nm:Aq}{av:Aa}{l:List A3}{r:List Aa}{sp p:Int}
def Ct.len{k:Nat}(rm:Ct b k)(hk:3<=k):b.a.len+3<=1000000000:=by have:=rm.n;unfold Ar.len;omega
def wM(w:BX h bi a o c t G b)(ok:BA b)(rm:Ct b (m+3))(hr:VL nm av r)(hv:Cp l av)(hl:FB l)(hn:nm.length<=1000)(p sp:Int):
  ∃h' G',Cx cx 76 [Pt bi 0,.agg r,I sp,I p] h (.agg (b.HG nm l sp).row) h'/\BX h' bi a o c t G' (b.DA nm l sp p)/\FD h (BE bi G) h' (BE bi G'):=by
 obtain⟨N,M,L,K,J,H,E,D,YO,jC,rfl⟩:=hr;by_cases hs:BS.HR sp
 .obtain⟨C,q,hu⟩:=aDJ (h:=h) hv hl.1 sp;have w1:=w.Kr (u:=[.map (ft 11)]);obtain⟨i,r2⟩:=ũ w1 ok rm p;have w2:=w1.Kr (u:=i);have hd:=Ot ok (p:=p);have g:∀y∈l.map (Dp sp),BS.HR y.AW:=by intro y hy;obtain⟨z,_,rfl⟩:=AZ.1 hy;exact fB
  obtain⟨h',G',⟨f,_⟩,B,v⟩:=w2.step (A':=b.a.elem (b.I0 p) sp (BS.KO sp nm) (l.map (Dp sp))) (R:=λh'=>Cx cx 130 [Pt a 0,I (b.I0 p),I sp,.str (BS.KO sp nm),C] (h++[.map (ft 11)]++i) (.tuple [I (b.a.len+1),I 0]) h'/\True) (λn m ps A=>by obtain⟨h',n',m',OH,r,wp,s,_⟩:=ŗ A rm.VG (rm.len Ab) hd hs hu (by rw[As];have:=hl.1;omega) g (nm:=BS.KO sp nm);exact⟨h',n',m',OH,⟨r,trivial⟩,wp,s⟩)
  have d:=f96 (h:=h') hu (λy hy=>by obtain⟨z,hz,rfl⟩:=AZ.1 hy;rw[oU];have:=(hl.2 z hz).2;have:AQ=140737488355328:=rfl;omega) (by rw[As];have:=hl.1;omega) sp (BS.KO sp nm);have em:Ay (.B4 [I 0,I 0,S [],ff] [(0,1),(1,1),(2,1),(3,1)]) [I (b.a.len+1),I sp,.str (BS.KO sp nm),.bool (HC sp (BS.KO sp nm) (l.map (Dp sp)))]=some (.agg (b.HG nm l sp).row):=by rw[n7];unfold BS.HG;rw[Ad hs]
  refine⟨h',G',?_,by unfold BS.DA;rw[Ad hs];exact B,(w.DT.trans w1.DT).trans v⟩;have k:¬sp<0:=by have:=hs.1;omega
  have j:¬7<sp:=by have:=hs.2;omega
  have hlen:=λ(y:Item)=>@Item.DI y;rw[Aj,fQ,t76];by_cases h2:sp=2
  .have e:BS.KO sp nm=Dv nm Mi:=by unfold BS.KO;rw[Ad h2]
   rw[e] at f d em;subst h2;simp only[abS,↓reduceIte,BD,IH,(Hg w).Ag,k,j,CY,q.Ag,DO,BT,(aC6 nm).Co rfl rfl,w1.l0,r2.Ag,w2.l0,Dx,f.Ag,CC,d.Ag,em,hlen]
  .have e:BS.KO sp nm=nm:=by unfold BS.KO;rw[Ac h2]
   rw[e] at f d em;simp only[abS,↓reduceIte,BD,IH,(Hg w).Ag,k,j,CY,q.Ag,h2,w1.l0,r2.Ag,w2.l0,Dx,f.Ag,CC,BT,d.Ag,em,hlen]
 .refine⟨h,G,?_,by unfold BS.DA;rw[Ac hs];exact w,.refl⟩;have e:b.HG nm l sp=Item.zero:=by unfold BS.HG;rw[Ac hs]
  rw[e,OZ,Aj,fQ,t76];unfold BS.HR at hs;by_cases h1:sp<0;.simp only[abS,↓reduceIte,BD,(Hg w).Ag,h1,DO]
  .simp only[abS,↓reduceIte,BD,(Hg w).Ag,h1,CY,(Ab:7<sp),DO]
def B9{k:Nat}{v:Aa}:FD h (BE bi G) (put h bi k v) (BE bi G):=⟨by rw[Lo];exact Af _,λi _ hn=>CQ λe=>hn (.inl e),λ_ h=> .inl h⟩
def BX.put{k:Nat}{v o' c' t':Aa}{b':BS}(w:BX h bi a o c t G b)(e:(N2 a b o c t).set k v=N2 a b' o' c' t')(ea:b'.a=b.a)(ho:Dg b'.AO o')(ht:VK b'.tm t'):BX (Am.put h bi k v) bi a o' c' t' G b':=
 ⟨by rw[HP w.hb,e];exact AH w.lt,ho,ht,by rw[ea];exact w.w.DU λi hi=>CQ λe=>w.nb (e▸hi),w.nb⟩
def BX.N3{u:Aa}{l:List Item}(w:BX h bi a o c t G b)(hu:Dg l u):BX (Am.put h bi 2 u) bi a u c t G {b with AO:=l}:=w.put rfl rfl hu w.t
def BX.Rz{u:Aa}{l:List B8}(w:BX h bi a o c t G b):BX (Am.put h bi 3 u) bi a o u t G {b with A9:=l}:=w.put rfl rfl w.o w.t
def BX.st{k:Nat}{v v0:Aa}(w:BX h bi a o c t G b)(hk:(N2 a b o c t)[k]?=some v0)(hv:v.cells=[v]):CM h 1 (Pt bi k) v=some (Am.put h bi k v):=At.store (v:=v0) ⟨_,w.hb,hk⟩ hv
variable{nm:Aq}{av:Aa}{l:List A3}{r:List Aa}{sp p:Int}
def aDK(w:BX h bi a o c t G b)(ok:BA b)(rm:Ct b (m+4))(hr:VL nm av r)(hv:Cp l av)(hl:FB l)(hn:nm.length<=1000)(sp:Int):
  ∃h' o' G',Cx cx 94 [Pt bi 0,.func (.func 76) [Pt bi 0] [],.agg r,I sp] h (I (b.VF sp)) h'/\BX h' bi a o' c t G' (b.DV nm l sp)/\FD h (BE bi G) h' (BE bi G'):=by
 obtain⟨q,k⟩:=gq w ok rm 0;have w1:=w.Kr (u:=q);obtain⟨h2,z,r2,w2,i⟩:=wM (m:=m+1) w1 ok (rm.le Ab) hr hv hl hn (b.place 0).1 sp;have GH:=hr;obtain⟨K,J,H,E,D,C,B,A,YO,jC,rfl⟩:=hr;have ho:=rm.AO;by_cases hs:BS.HR sp
 .have xz:=ub (nm:=nm) (at_:=l) (p:=(b.place 0).1) ok hs;have gG:=Kv (m:=m+1) (nm:=nm) (sp:=sp) (p:=(b.place 0).1) (rm.le Ab) hl;have ni:(b.HG nm l sp).node=b.a.len+1:=by unfold BS.HG;rw[Ad hs]
  have YK:¬(b.a.len+1=0):=by unfold Ar.len;omega
  have OD:(b.DA nm l sp (b.place 0).1).AO=b.AO:=by unfold BS.DA;rw[Ad hs]
  obtain⟨v,y,s,j,n⟩:=aK (x:=b.a.len+1) (p:=(b.place 0).1) (bf:=(b.place 0).2) w2 xz gG;obtain⟨v4,d,f⟩:=f95 j.sO (by simp only[OD];omega) (b.HG nm l sp);refine⟨Am.put v bi 2 v4,v4,y,?_,?_,((w.DT.trans i).trans n).trans B9⟩
  .have g:b.VF sp=b.a.len+1:=by unfold BS.VF;rw[Ad hs]
   rw[Aj,fV,t94,g];simp only[abS,Nat.reduceAdd,↓reduceIte,De,IH,k.Ag,(Bj:(76:Nat)<=99999),r2.Ag,ni,YK,CC,s.Ag];have e:=@Item.SG (b.HG nm l sp);rw[ni] at e;rw[<-e] at d;simp only[e] at d⊢;simp only[d.Ag,Cr]
  .have:=j.N3 f;unfold BS.DV;rw[Ad hs];exact this
 .refine⟨h2,o,z,?_,?_,w.DT.trans i⟩
  .have e:b.HG nm l sp=Item.zero:=by unfold BS.HG;rw[Ac hs]
   have g:b.VF sp=0:=by unfold BS.VF;rw[Ac hs]
   rw[e,OZ] at r2;rw[Aj,fV,t94,g];simp only[abS,Nat.reduceAdd,↓reduceIte,De,IH,k.Ag,(Bj:(76:Nat)<=99999),r2.Ag,CC,BT]
  .have:b.DV nm l sp=b.DA nm l sp (b.place 0).1:=by unfold BS.DV BS.DA;rw[Ac hs,Ac hs]
   rw[this];exact w2
def Ū(w:BX h bi a o c t G b)(ok:BA b)(rm:Ct b (m+4))(hr:VL nm av r)(hv:Cp l av)(hl:FB l)(hn:nm.length<=1000)(sp:Int):
  ∃h' o' G',Cx cx 46 [Pt bi 0,.agg r,I sp] h (I (b.VF sp)) h'/\BX h' bi a o' c t G' (b.DV nm l sp)/\FD h (BE bi G) h' (BE bi G'):=by
 obtain⟨h',o',G',d,w',x'⟩:=aDK w ok rm hr hv hl hn sp;refine⟨h',o',G',?_,w',x'⟩;obtain⟨q,n,k,j,i,g,f,e,YO,jC,rfl⟩:=hr;rw[Aj,uS,t46];simp only[abS,(Hg w).Ag,d.Ag]
def gr(w:BX h bi a o c t G b)(ok:BA b)(rm:Ct b (m+4))(hr:VL nm av r)(hv:Cp l av)(hl:FB l)(hn:nm.length<=1000):
  ∃h' o' G',Cx cx 19 [Pt bi 0,.agg r] h (I (b.a.len+1)) h'/\BX h' bi a o' c t G' (b.DV nm l 1)/\FD h (BE bi G) h' (BE bi G'):=by
 obtain⟨h',o',G',d,w',x'⟩:=Ū w ok rm hr hv hl hn 1;refine⟨h',o',G',?_,w',x'⟩;have e:b.VF 1=b.a.len+1:=by unfold BS.VF;rw[Ad K9]
 rw[e] at d;obtain⟨s,q,n,k,j,i,g,f,YO,jC,rfl⟩:=hr;rw[Aj,uL,t19];simp only[Cr,d.Ag]
end
def Dj(l:List B8)(v:Aa):Prop:=∃fs:List CN,fs.map (·.c)=l/\EL fs v
def Sk{U Z:Type}{f:U->Z}{q:Z->Bool}{l:List U}:AG q (l.map f)=AG (λx=>q (f x)) l:=by unfold AG;rw[<-QV,List.findIdx?_map,As];rfl
def gH{U Z:Type}{f:U->Z}{l:List U}{k:Nat}:(Bk l k).map f=Bk (l.map f) k:=by unfold Bk;simp
def gu{fs:List CN}:since fs=eU (fs.map (·.c)):=by unfold since eU;rw[Sk];rfl
def aL{n:Int}{fs:List CN}:Jo n fs=FF n (fs.map (·.c)):=by unfold Jo FF;rw[Sk];rfl
def gw{nm:Aq}{fs:List CN}:OW nm fs=EF nm (fs.map (·.c)):=by
 unfold OW EF;rw[<-QV];generalize fs.reverse=r;induction r with
 |nil=>rfl
 |cons x r ih=>simp only[Bi,jO,MY,ih,As]
def ū{e:B8}{fs:List CN}:VE e fs=jT e (fs.map (·.c)).reverse:=by
 unfold VE;rw[<-QV];generalize fs.reverse=r;induction r with
 |nil=>rfl
 |cons x r ih=>simp only[Bi,ar,jT,ih]
def Ŭ{e:B8}{fs:List CN}:Pn e fs=Z5 e (fs.map (·.c)).reverse:=by
 unfold Pn;rw[<-QV];generalize fs.reverse=r;induction r with
 |nil=>rfl
 |cons x r ih=>simp only[Bi,eQ,Z5,ih,As]
def wN{e:B8}{d:CN}{fs:List CN}(he:d.c=e):(Po e fs++[d]).map (·.c)=UB e (fs.map (·.c)):=by
 unfold Po UB;rw[ū,Ŭ,BV,aET,he];split;.rw[gH]
 .rfl
def lS{fs:List CN}:(fs.take (GS fs)).map (·.c)=HQ (fs.map (·.c)):=by unfold HQ GS;rw[Ie,gu]
def gx{l:List B8}{fs:List CN}(e:fs.map (·.c)=l)(h:∀x∈l,x.Av.length<=1000):∀x∈fs,qD x:=by intro x hx;have:=h x.c (by rw[<-e];exact AZ.2 ⟨x,hx,rfl⟩);unfold qD;omega
section
variable{h h':Ah}{bi a:Nat}{o c t:Aa}{G G' F:Nat->Prop}{b:BS}{x:Int}{m:Nat}
variable{nm:Aq}{av:Aa}{l:List A3}{r:List Aa}{sp p:Int}
def aDL(w:BX h bi a o c t G b)(hc:Dj b.A9 c)(ok:Dz b)(rm:Ct b (m+5))(hr:VL nm av r)(hv:Cp l av)(hl:FB l)(hn:nm.length<=1000):
  ∃h' o' c' G',Cx cx 60 [Pt bi 0,.agg r] h (I (b.a.len+1)) h'/\BX h' bi a o' c' t G' (b.Ij nm l)/\Dj (b.Ij nm l).A9 c'/\FD h (BE bi G) h' (BE bi G'):=by
 obtain⟨h1,j,k,i,w1,g⟩:=gr (m:=m+1) w ok (rm.le Ab) hr hv hl hn;obtain⟨fs,d,hf⟩:=hc;have ha:=rm.A9;have HV:fs.length=b.A9.length:=by rw[<-d,As]
 obtain⟨u,n,Zs,r2,hu⟩:=f30 (h:=h1) (id:=bi) (o:=3) (l:=fs) ⟨c,w1.wK,hf⟩ Ab (gx d λx hx=>((rm.Dy x hx).2).1) (e:=⟨⟨b.a.len+1,nm,l⟩,av,hv⟩) (by unfold qD;have:=hl.1;simp only;omega);refine⟨_,j,u,k,?_,w1.Rz (u:=u),?_,g.trans B9⟩
 .obtain⟨C,B,A,z,y,v,s,q,YO,jC,rfl⟩:=hr;have YK:¬(b.a.len+1=0):=by unfold Ar.len;omega
  have f:Cx cx 105 [Pt bi 3,.agg [I (b.a.len+1),.str nm,av]] h1 (.tuple []) (put h1 bi 3 u):=r2;have yS:av.cells=[av]:=Bu.cells hv;rw[Aj,uy,t60];simp only[abS,Nat.reduceLeDiff,↓reduceIte,BD,i.Ag,YK,CC,yS,f.Ag]
 .refine⟨_,?_,hu⟩;rw[wN Zs,d];unfold BS.Ij;simp only;rw[Hq]
end
def ŭ:∀x:Fin 64,(BitVec.ofInt 8 192|||BitVec.ofInt 8 (x.val:Int)).toNat=192+x.val:=Bj
def Ů:∀x:Fin 32,(BitVec.ofInt 8 224|||BitVec.ofInt 8 (x.val:Int)).toNat=224+x.val:=Bj
def ů:∀x:Fin 16,(BitVec.ofInt 8 240|||BitVec.ofInt 8 (x.val:Int)).toNat=240+x.val:=Bj
def Ű:∀x:Fin 64,(BitVec.ofInt 8 128|||BitVec.ofInt 8 (x.val:Int)).toNat=128+x.val:=Bj
def ű:∀x:Fin 256,(BitVec.ofInt 8 (x.val:Int)&&& BitVec.ofInt 8 63).toNat=x.val%64:=Bj
def lT{a b:Int}:Ay (.int .or) [.int .u8 a,.int .u8 b]=some (.int .u8 (IntKind.u8.wrap (BitVec.ofInt 8 a|||BitVec.ofInt 8 b).toNat)):=rfl
def x_{a b:Int}:Ay (.int .and) [.int .u8 a,.int .u8 b]=some (.int .u8 (IntKind.u8.wrap (BitVec.ofInt 8 a&&& BitVec.ofInt 8 b).toNat)):=rfl
def wO{x:Nat}(h:x<64):Ay (.int .or) [.int .u8 192,.int .u8 (x:Int)]=some (.int .u8 ((192+x:Nat):Int)):=by rw[lT,ŭ ⟨x,h⟩,IntKind.wrap_u8];congr 2;simp only;omega
def aM{x:Nat}(h:x<32):Ay (.int .or) [.int .u8 224,.int .u8 (x:Int)]=some (.int .u8 ((224+x:Nat):Int)):=by rw[lT,Ů ⟨x,h⟩,IntKind.wrap_u8];congr 2;simp only;omega
def wQ{x:Nat}(h:x<16):Ay (.int .or) [.int .u8 240,.int .u8 (x:Int)]=some (.int .u8 ((240+x:Nat):Int)):=by rw[lT,ů ⟨x,h⟩,IntKind.wrap_u8];congr 2;simp only;omega
def JX{x:Nat}(h:x<64):Ay (.int .or) [.int .u8 128,.int .u8 (x:Int)]=some (.int .u8 ((128+x:Nat):Int)):=by rw[lT,Ű ⟨x,h⟩,IntKind.wrap_u8];congr 2;simp only;omega
def JY{x:Nat}(h:x<256):Ay (.int .and) [.int .u8 (x:Int),.int .u8 63]=some (.int .u8 ((x%64:Nat):Int)):=by rw[x_,ű ⟨x,h⟩,IntKind.wrap_u8];congr 2;simp only;omega
def Tb{n:Nat}:Ay (.int .shr) [.int .i32 (n:Int),.int .u64 6]=some (.int .i32 ((n/64:Nat):Int)):=by rw[show Ay (.int .shr) [.int .i32 (n:Int),.int .u64 6]=some (.int .i32 ((n:Int).fdiv 64)) from rfl,Ob _ Ab];rfl
def UT{n:Nat}:Ay (.int .shr) [.int .i32 (n:Int),.int .u64 12]=some (.int .i32 ((n/4096:Nat):Int)):=by rw[show Ay (.int .shr) [.int .i32 (n:Int),.int .u64 12]=some (.int .i32 ((n:Int).fdiv 4096)) from rfl,Ob _ Ab];rfl
def wR{n:Nat}:Ay (.int .shr) [.int .i32 (n:Int),.int .u64 18]=some (.int .i32 ((n/262144:Nat):Int)):=by rw[show Ay (.int .shr) [.int .i32 (n:Int),.int .u64 18]=some (.int .i32 ((n:Int).fdiv 262144)) from rfl,Ob _ Ab];rfl
def UU{k:IntKind}{n:Nat}:Ay (.conv .u8) [.int k (n:Int)]=some (.int .u8 ((n%256:Nat):Int)):=by rw[XQ,IntKind.wrap_u8];congr 2
def Yp{n:Int}:Ay (.conv .u32) [.int .i32 n]=some (.int .u32 (n%4294967296)):=by rw[XQ,IntKind.wrap_u32]
def yC{n:Nat}(h:n<256):((UInt8.ofNat n).toNat:Int)=(n:Int):=by rw[UInt8.toNat_ofNat'];congr 1;omega
def yD(b:UInt8):Aa:= .int .u8 (b.toNat:Int)
def Jq{h:Ah}{bs:Aq}(hb:bs≠[])(hl:bs.length<=8):FX h 1 1 .slnil (.sl 1 (CI bs))=some (h++[.cells (bs.map yD)],.CL h.length 0 bs.length 1):=by
 have HV:∀bs:Aq,(CI bs).flatten=bs.map yD:=by
  intro bs;induction bs with
  |nil=>rfl
  |cons c bs ih=>show[yD c]++(CI bs).flatten=_;rw[ih];rfl
 cases bs with
 |nil=>exact absurd rfl hb
 |cons c bs=>
  have hm:AQ=140737488355328:=rfl;have hlen:(CI (c::bs)).length=(c::bs).length:=by simp[CI]
  have e:CI (c::bs)=[.int .u8 c.toNat]::CI bs:=rfl;have a:Gv h 1 (.sl 1 (CI (c::bs)))=some (CI (c::bs)):=by simp[Gv]
  unfold FX;rw[a,e];simp only
  rw[<-e,Ad (by rw[hlen];omega),HV,hlen]
def aDN{h:Ah}(r:Int)(hr: -2147483648<=r/\r<=2147483647):Cx cx 50 [.slnil,.int .i32 r] h (.CL h.length 0 (Ku r).length 1) (h++[.cells ((Ku r).map yD)]):=by
 have one:∀{a:Nat} (h1:a<256),Ay (.Cf 1) [.int .u8 (a:Int)]=some (.sl 1 (CI [UInt8.ofNat a])):=by intro a h1;simp only[CI,Bi,DW,yC h1];rfl
 have Xi:∀{a b:Nat} (h1:a<256) (h2:b<256),Ay (.Cf 1) [.int .u8 (a:Int),.int .u8 (b:Int)]=some (.sl 1 (CI [UInt8.ofNat a,UInt8.ofNat b])):=by intro a b h1 h2;simp only[CI,Bi,DW,yC h1,yC h2];rfl
 have V4:∀{a b c:Nat} (h1:a<256) (h2:b<256) (d:c<256),Ay (.Cf 1) [.int .u8 (a:Int),.int .u8 (b:Int),.int .u8 (c:Int)]=some (.sl 1 (CI [UInt8.ofNat a,UInt8.ofNat b,UInt8.ofNat c])):=by intro a b c h1 h2 d;simp only[CI,Bi,DW,yC h1,yC h2,yC d];rfl
 have four:∀{a b c f:Nat} (h1:a<256) (h2:b<256) (d:c<256) (i:f<256),Ay (.Cf 1) [.int .u8 (a:Int),.int .u8 (b:Int),.int .u8 (c:Int),.int .u8 (f:Int)]=some (.sl 1 (CI [UInt8.ofNat a,UInt8.ofNat b,UInt8.ofNat c,UInt8.ofNat f])):=by intro a b c f h1 h2 d i;simp only[CI,Bi,DW,yC h1,yC h2,yC d,yC i];rfl
 have om:Ay (.Cf 1) [.int .u8 239,.int .u8 191,.int .u8 189]=some (.sl 1 (CI [239,191,189])):=rfl;rw[Aj,uV,t50];simp only[Cr,Yp];by_cases h0:0<=r
 .obtain⟨n,rfl⟩:=QT h0;have em:(n:Int)%4294967296=(n:Int):=Ab;rw[em];by_cases q:n<128
  .have e:Ku (n:Int)=[UInt8.ofNat n]:=by unfold Ku;rw[Ad Ab];rfl
   have j:n%256=n:=Ab;rw[e];simp only[Cr,ZM,(Ab:(n:Int)<=127),UU,j,one (Ab:n<256),Jq (bs:=[UInt8.ofNat n]) Aw Aw]
  .have ya:Cx cx 96 [.slnil,.int .i32 (n:Int)] h (.CL h.length 0 (Ku (n:Int)).length 1) (h++[.cells ((Ku (n:Int)).map yD)]):=by
    rw[Aj,fW,t96];simp only[Cr,Yp,em];by_cases p:n<2048
    .have e:Ku (n:Int)=[UInt8.ofNat (192+n/64),UInt8.ofNat (128+n%64)]:=by unfold Ku;rw[Ac Ab,Ad Ab];rfl
     rw[e];have a1:n/64%256=n/64:=Ab;have a2:n%256%64=n%64:=Ab;simp only[Cr,ZM,(Ab:(n:Int)<=2047),Tb,UU,a1,wO (Ab:n/64<64),JY (Ab:n%256<256),a2,JX (Ab:n%64<64),Xi (Ab:192+n/64<256) (Ab:128+n%64<256),Jq (bs:=[UInt8.ofNat (192+n/64),UInt8.ofNat (128+n%64)]) Aw Aw]
    .by_cases o:n<65536/\¬(55296<=n/\n<57344)
     .have e:Ku (n:Int)=[UInt8.ofNat (224+n/4096),UInt8.ofNat (128+n/64%64),UInt8.ofNat (128+n%64)]:=by unfold Ku;rw[Ac Ab,Ac Ab,Ad Ab];rfl
      rw[e];have a1:n/4096%256=n/4096:=Ab;have a2:n/64%256%64=n/64%64:=Ab;have a3:n%256%64=n%64:=Ab;have g:=Jq (h:=h) (bs:=[UInt8.ofNat (224+n/4096),UInt8.ofNat (128+n/64%64),UInt8.ofNat (128+n%64)]) Aw Aw;have t3:=V4 (Ab:224+n/4096<256) (Ab:128+n/64%64<256) (Ab:128+n%64<256);by_cases m:n<55296;.simp only[abS,(Ab:¬(n:Int)<=2047),(Ab:(n:Int)<55296),Tb,UT,UU,a1,aM (Ab:n/4096<32),JY (Ab:n/64%256<256),a2,JX (Ab:n/64%64<64),JY (Ab:n%256<256),a3,JX (Ab:n%64<64),t3,g]
      .simp only[abS,(Ab:¬(n:Int)<=2047),(Ab:¬(n:Int)<55296),(Ab:(57343:Int)<n),(Ab:(n:Int)<=65535),Tb,UT,UU,a1,aM (Ab:n/4096<32),JY (Ab:n/64%256<256),a2,JX (Ab:n/64%64<64),JY (Ab:n%256<256),a3,JX (Ab:n%64<64),t3,g]
     .by_cases l:65536<=n/\n<=1114111
      .have e:Ku (n:Int)=[UInt8.ofNat (240+n/262144),UInt8.ofNat (128+n/4096%64),UInt8.ofNat (128+n/64%64),UInt8.ofNat (128+n%64)]:=by unfold Ku;rw[Ac Ab,Ac Ab,Ac Ab,Ad Ab];rfl
       rw[e];have a0:n/262144%256=n/262144:=Ab;have a1:n/4096%256%64=n/4096%64:=Ab;have a2:n/64%256%64=n/64%64:=Ab;have a3:n%256%64=n%64:=Ab;have g:=Jq (h:=h) (bs:=[UInt8.ofNat (240+n/262144),UInt8.ofNat (128+n/4096%64),UInt8.ofNat (128+n/64%64),UInt8.ofNat (128+n%64)]) Aw Aw;have t4:=four (Ab:240+n/262144<256) (Ab:128+n/4096%64<256) (Ab:128+n/64%64<256) (Ab:128+n%64<256);simp only[abS,(Ab:¬(n:Int)<=2047),(Ab:¬(n:Int)<55296),(Ab:(57343:Int)<n),(Ab:¬(n:Int)<=65535),(Ab:(65535:Int)<n),(Ab:(n:Int)<=1114111),Tb,UT,wR,UU,a0,wQ (Ab:n/262144<16),JY (Ab:n/4096%256<256),a1,JX (Ab:n/4096%64<64),JY (Ab:n/64%256<256),a2,JX (Ab:n/64%64<64),JY (Ab:n%256<256),a3,JX (Ab:n%64<64),t4,g]
      .have e:Ku (n:Int)=[239,191,189]:=by unfold Ku;rw[Ac Ab,Ac Ab,Ac Ab,Ac Ab]
       rw[e];have g:=Jq (h:=h) (bs:=[239,191,189]) Aw Aw;by_cases k:n<65536;.simp only[abS,(Ab:¬(n:Int)<=2047),(Ab:¬(n:Int)<55296),(Ab:¬(57343:Int)<n),(Ab:¬(65535:Int)<n),om,g]
       .simp only[abS,(Ab:¬(n:Int)<=2047),(Ab:¬(n:Int)<55296),(Ab:(57343:Int)<n),(Ab:¬(n:Int)<=65535),(Ab:(65535:Int)<n),(Ab:¬(n:Int)<=1114111),om,g]
   simp only[abS,(Ab:¬(n:Int)<=127),ya.Ag]
 .have e:Ku r=[239,191,189]:=by unfold Ku;rw[Ac Ab,Ac Ab,Ac Ab,Ac Ab]
  have g:=Jq (h:=h) (bs:=[239,191,189]) Aw Aw;have ya:Cx cx 96 [.slnil,.int .i32 r] h (.CL h.length 0 (Ku r).length 1) (h++[.cells ((Ku r).map yD)]):=by rw[e,Aj,fW,t96];simp only[abS,Yp,(Ab:¬(r%4294967296)<=2047),(Ab:¬(r%4294967296)<55296),(Ab:(57343:Int)<r%4294967296),(Ab:¬(r%4294967296)<=65535),(Ab:(65535:Int)<r%4294967296),(Ab:¬(r%4294967296)<=1114111),om,g]
  simp only[abS,(Ab:¬(r%4294967296)<=127),ya.Ag]
def aN(r:Int):(Ku r).length<=4:=by unfold Ku;split<;>(try split)<;>(try split)<;>(try split)<;>simp
def wS{l:List Int}{bf:Int}(hb:bf≠0->bf∈l):∃i,i<=l.length/\(bf=0->i=l.length)/\(bf≠0->BZ (λy=>decide (bf=y)) 0 l=(i:Int))/\Rr l bf=if i=0 then none else l[i-1]?:=by
 by_cases h0:bf=0
 .refine⟨l.length,Af _,λ_=>rfl,λh=>absurd h0 h,?_⟩;unfold Rr;rw[Ad h0,OL];split;.rename_i h;rw[C3 Ab]
  .rfl
 .obtain⟨k,j,e,g,d,f⟩:=Qy (hb h0);refine⟨k,Ab,λh=>absurd h h0,λ_=>e,?_⟩;unfold Rr;rw[Ac h0,d,OL,Au,Ce Ab];split;.rename_i h;subst h;simp
  .rw[B3];rw[Ad Ab]
def lU{s u:Aq}(h:s.length+u.length<=2000000000):Ay (.str .add) [.str s,.str u]=some (.str (s++u)):=by have:s.length+u.length<=9223372036854775807:=Ab;simp[Ay,YU,this]
def WO:∀s:Aq,(CI s).flatten=s.map yD
 |[]=>rfl
 |c::s=>by show[yD c]++(CI s).flatten=_;rw[WO s];rfl
section
variable{h h':Ah}{bi a:Nat}{o c t:Aa}{G G' F:Nat->Prop}{b:BS}{x:Int}{m:Nat}
variable{nm:Aq}{av:Aa}{l:List A3}{r:List Aa}{sp p:Int}
def lV{k d:Int}{s:Aq}(ok:Dz b)(rm:Ct b (m+1))(hk:k=5\/k=6)(hd:b.a.has d/\(b.a.nd d).kind=1)(hs:s.length<=100000):Dz {b with a:=b.a.add {kind:=k,BO:=d,data:=s}}/\Ct {b with a:=b.a.add {kind:=k,BO:=d,data:=s}} m:=
 ⟨ok.JU (X9 ok.ok (by unfold Ar.len;omega) hd hk) eY,rm.FJ (k:=1) (Mp (A7 _) hs)⟩
def aDO(w:BX h bi a o c t G b)(ok:Dz b)(rm:Ct b (m+5))(r:Int)(hr: -2147483648<=r/\r<=2147483647):
  ∃h' G',Cx cx 20 [Pt bi 0,.int .i32 r] h (.tuple []) h'/\BX h' bi a o c t G' (b.Z7 r)/\FD h (BE bi G) h' (BE bi G'):=by
 obtain⟨f,C⟩:=gq w ok rm 0;obtain⟨hp,hbf⟩:=KS ok (t:=0) (.inl rfl);have w1:=w.Kr (u:=f);unfold BS.Z7;generalize(b.place 0).1=p at*;generalize(b.place 0).2=bf at*;obtain⟨K,V,d,r2,W,_⟩:=SP w1 ok rm p;have w2:=w1.Kr (u:=d);have x2:FD h (BE bi G) (h++f++d) (BE bi G):=w.DT.trans w1.DT;unfold BS.HS;by_cases hk:(b.a.nd p).kind=4\/(b.a.nd p).kind=2;rotate_left
 .refine⟨_,G,?_,?_,x2⟩;.have k4:¬(b.a.nd p).kind=4:=λe=>hk (.inl e);have k2:¬(b.a.nd p).kind=2:=λe=>hk (.inr e);rw[Aj,UF,t20];simp only[abS,(Hg w).Ag,C.Ag,r2.Ag,CC,k4,k2]
  .rw[Ac hk];exact w2
 rw[Ad hk];obtain⟨i,hi,qG,yA,Z⟩:=wS (l:=(b.a.nd p).AT) (bf:=bf) (λh=>by have:=hbf h;have h2:=(ok.ok.FL bf this.1 (by rw[this.2];have:=hp.1;omega)).2;rwa [this.2] at h2);rw[Z];have V5:=rm.VG.AT ok.ok p;have E:=xr (h:=h++f++d) (x:=bf) W.Ms V5;have B_:=aDN (h:=h++f++d) r hr;have YI:=aN r;generalize hs:Ku r=s at*;have f3:LA (h++f++d++[.cells (s.map yD)]) (.CL (h++f++d).length 0 s.length 1)=some (h++f++d++[.DK],.sl 1 (CI s)):=by have HV:=WO s;have:=Rk (h:=h++f++d++[.cells (s.map yD)]) (id:=(h++f++d).length) (z:=1) (Ao:=CI s) (by intro q hq;obtain⟨y,_,rfl⟩:=AZ.1 hq;rfl) (by rw[HV];simp);rw[show(CI s).length=s.length by simp[CI]] at this;rw[this];congr 2;rw[B6 _ _ (Af _),DY];rfl
 have b3:Ay .Vk [.sl 1 (CI s)]=some (.str s):=by simp[Ay,Xa,Um]
 have v:=w2.Kr (u:=[.DK]);have x3:FD h (BE bi G) (h++f++d++[.DK]) (BE bi G):=x2.trans w2.DT;have wT:=ok.ok.BO p hp;have new:∀h3,(∃u,h3=h++f++d++[.DK]++u)->∃h' H G',Cx cx 52 [Pt a 0,I (b.a.nd p).BO,.str s] h3 (.tuple [I (b.a.len+1),I 0]) H/\Cx cx 53 [Pt bi 0,I (b.a.len+1),I p,I bf] H (.tuple []) h'/\BX h' bi a o c t G' {b with a:=(b.a.add {kind:=5,BO:=(b.a.nd p).BO,data:=s}).Dn (b.a.len+1) p bf}/\FD h (BE bi G) h' (BE bi G'):=by
  rintro _ ⟨u,rfl⟩;have w4:=v.Kr (u:=u);obtain⟨H,G4,⟨B,_⟩,w5,x5⟩:=w4.step (A':=b.a.add (KT 5 (b.a.nd p).BO s).x) (R:=λh'=>Cx cx 52 [Pt a 0,I (b.a.nd p).BO,.str s] (h++f++d++[.DK]++u) (.tuple [I (b.a.len+1),I 0]) h'/\True) (λn m ps Q=>by obtain⟨h',r,wp,o1,l1⟩:=aDu (s:=s) Q rm.VG (by have:=rm.n;unfold Ar.len;omega) wT;exact⟨h',_,_,_,⟨r,trivial⟩,wp,Q.Qx rfl o1 l1⟩)
  obtain⟨Ċ,Y⟩:=lV (m:=m) (k:=5) (s:=s) ok (rm.le Ab) (.inl rfl) wT Ab;obtain⟨h',G',A,M,J⟩:=aK (x:=b.a.len+1) (p:=p) (bf:=bf) w5 Ċ.ba Y;exact⟨h',H,G',B,A,M,(x3.trans v.DT).trans (x5.trans J)⟩
 have kl:=(W.Ms (h:=h++f++d)).len;have OF:i<=1000000000:=Ab;by_cases hz:i=0
 .subst hz;obtain⟨h',H,G',B,A,M,J⟩:=new (h++f++d++[.DK]) ⟨[],Aw⟩;simp only[↓reduceIte];refine⟨h',G',?_,M,J⟩;rw[Aj,UF,t20];rcases hk with hk|hk<;>by_cases h0:bf=0
  all_goals first|(rw[<-qG h0] at kl;simp only[abS,(Hg w).Ag,C.Ag,r2.Ag,hk,CC,BT,(Bj:¬(2:Int)=4),kl,CZ h0,B_.Ag,f3,b3,(Bj:¬(0:Int)<((0:Nat):Int)),v.l0,B.Ag,BT,A.Ag];done)|(rw[yA h0] at E;simp only[abS,(Hg w).Ag,C.Ag,r2.Ag,hk,CC,BT,(Bj:¬(2:Int)=4),kl,h0,B_.Ag,f3,b3,(Bj:¬(0:Int)<((0:Nat):Int)),v.l0,B.Ag,BT,A.Ag,E.Ag])
 .obtain⟨j,rfl⟩:∃j,i=j+1:=⟨i-1,Ab⟩;have hj:j<(b.a.nd p).AT.length:=Ab;rw[Ac hz,Oa,Ai hj];simp only
  have ht:=ok.ok.IG p hp _ (AJ hj);obtain⟨q,P,X⟩:=(W.Ms (h:=h++f++d++[.DK])).at_ j hj;obtain⟨K7,V7,S,U,_,_⟩:=SP v ok rm (b.a.nd p).AT[j];have L:=v.Kr (u:=S);obtain⟨q',O,N⟩:=(W.Ms (h:=h++f++d++[.DK]++S)).at_ j hj;rw[P,BB] at O;subst O;have T:Ay (.int .sub) [I ((j+1:Nat):Int),I 1]=some (I (j:Int)):=by have:=LJ (n:=j+1) Ab Ab;simpa using this
  generalize hte:(b.a.nd p).AT[j]=g at*;by_cases D:(b.a.nd g).kind=5
  .rw[Ad D];have nF:=rm.data g;obtain⟨h8,G8,⟨r8,_⟩,w8,x8⟩:=L.step (A':=b.a.Qn g ((b.a.nd g).data++s)) (R:=λh'=>Cx cx 51 [Pt a 0,I g,.str ((b.a.nd g).data++s)] (h++f++d++[.DK]++S) (I 0) h'/\True) (λn m ps Q=>by obtain⟨h',OH,r,wp,xp⟩:=aDv (s:=(b.a.nd g).data++s) Q rm.VG ht.1 D;exact⟨h',n,m,OH,⟨r,trivial⟩,wp,xp⟩)
   refine⟨h8,G8,?_,w8,(x3.trans v.DT).trans x8⟩;rw[Aj,UF,t20];rcases hk with hk|hk<;>by_cases h0:bf=0
   all_goals first|(rw[<-qG h0] at kl;simp only[abS,(Hg w).Ag,C.Ag,r2.Ag,hk,CC,BT,(Bj:¬(2:Int)=4),kl,CZ h0,B_.Ag,f3,b3,(Ab:(0:Int)<((j+1:Nat):Int)),T,P,X,U.Ag,D,L.l0,N,lU (Ab:(b.a.nd g).data.length+s.length<=2000000000),BT,r8.Ag];done)|(rw[yA h0] at E;simp only[abS,(Hg w).Ag,C.Ag,r2.Ag,hk,CC,BT,(Bj:¬(2:Int)=4),kl,h0,B_.Ag,f3,b3,(Ab:(0:Int)<((j+1:Nat):Int)),T,P,X,U.Ag,D,L.l0,N,lU (Ab:(b.a.nd g).data.length+s.length<=2000000000),BT,r8.Ag,E.Ag])
  .rw[Ac D];obtain⟨h',H,G',B,A,M,J⟩:=new _ ⟨S,rfl⟩;refine⟨h',G',?_,M,J⟩;rw[Aj,UF,t20];rcases hk with hk|hk<;>by_cases h0:bf=0
   all_goals first|(rw[<-qG h0] at kl;simp only[abS,(Hg w).Ag,C.Ag,r2.Ag,hk,CC,BT,(Bj:¬(2:Int)=4),kl,CZ h0,B_.Ag,f3,b3,(Ab:(0:Int)<((j+1:Nat):Int)),T,P,X,U.Ag,D,L.l0,B.Ag,BT,A.Ag];done)|(rw[yA h0] at E;simp only[abS,(Hg w).Ag,C.Ag,r2.Ag,hk,CC,BT,(Bj:¬(2:Int)=4),kl,h0,B_.Ag,f3,b3,(Ab:(0:Int)<((j+1:Nat):Int)),T,P,X,U.Ag,D,L.l0,B.Ag,BT,A.Ag,E.Ag])
def UW{s:Aq}{p bf x:Int}{h0 h1:Ah}(hstart:(¬x=0/\p=x/\bf=0/\h1=h0)\/(x=0/\Cx cx 47 [Pt bi 0,I 0] h0 (.tuple [I p,I bf]) h1))
  (w0:BX h0 bi a o c t G b) (f:FD h0 (BE bi G) h1 (BE bi G)) (w:BX h1 bi a o c t G b) (ok:Dz b) (rm:Ct b (m+1)) (hs:s.length<=100000):
  ∃h' G',Cx cx 61 [Pt bi 0,.str s,I x] h0 (.tuple []) h'/\BX h' bi a o c t G' {b with a:=BS.DD b.a s p bf}/\FD h0 (BE bi G) h' (BE bi G'):=by
 obtain⟨K,V,i,r2,H,_⟩:=SP w ok rm p;have w2:=w.Kr (u:=i);unfold BS.DD;by_cases hk:Nh (b.a.nd p).kind
 .rw[Ad hk];have hp:b.a.has p:=by
   by_cases hp:b.a.has p;.exact hp
   .rw[IY hp] at hk;unfold Nh at hk;simp at hk
  have wT:=ok.ok.BO p hp;obtain⟨J,L,⟨q,_⟩,D,B⟩:=w2.step (A':=b.a.add (KT 6 (b.a.nd p).BO s).x) (R:=λh'=>Cx cx 106 [Pt a 0,I (b.a.nd p).BO,.str s] (h1++i) (.tuple [I (b.a.len+1),I 0]) h'/\True) (λn m ps g=>by obtain⟨h',r,wp,E,l1⟩:=ō (s:=s) g rm.VG (by have:=rm.n;unfold Ar.len;omega) wT;exact⟨h',_,_,_,⟨r,trivial⟩,wp,g.Qx rfl E l1⟩)
  obtain⟨Ċ,d⟩:=lV (m:=m) (k:=6) (s:=s) ok rm (.inr rfl) wT hs;obtain⟨h',G',j,C,A⟩:=aK (x:=b.a.len+1) (p:=p) (bf:=bf) D Ċ.ba d;refine⟨h',G',?_,C,(f.trans w.DT).trans (B.trans A)⟩;rw[Aj,u0,t61];rcases hstart with⟨hx,rfl,rfl,rfl⟩|⟨hx,e⟩
  .rcases hk with hk|hk|hk<;>simp only[abS,(Hg w0).Ag,r2.Ag,hk,CC,BT,(Bj:¬(2:Int)=1),(Bj:¬(4:Int)=1),(Bj:¬(4:Int)=2),w2.l0,q.Ag,j.Ag,hx]
  .rcases hk with hk|hk|hk<;>simp only[abS,(Hg w0).Ag,r2.Ag,hk,CC,BT,(Bj:¬(2:Int)=1),(Bj:¬(4:Int)=1),(Bj:¬(4:Int)=2),w2.l0,q.Ag,j.Ag,CZ hx,e.Ag]
 .rw[Ac hk];refine⟨_,G,?_,w2,f.trans w.DT⟩;unfold Nh at hk;have z:¬(b.a.nd p).kind=1:=Ab;have y:¬(b.a.nd p).kind=2:=Ab;have v:¬(b.a.nd p).kind=4:=Ab;rw[Aj,u0,t61];rcases hstart with⟨hx,rfl,rfl,rfl⟩|⟨hx,e⟩
  .simp only[abS,(Hg w0).Ag,r2.Ag,CC,z,y,v,hx]
  .simp only[abS,(Hg w0).Ag,r2.Ag,CC,z,y,v,CZ hx,e.Ag]
def aDQ(w:BX h bi a o c t G b)(ok:Dz b)(rm:Ct b (m+1))(s:Aq)(hs:s.length<=100000)(x:Int):
  ∃h' G',Cx cx 61 [Pt bi 0,.str s,I x] h (.tuple []) h'/\BX h' bi a o c t G' (b.JH s x)/\FD h (BE bi G) h' (BE bi G'):=by
 unfold BS.JH;by_cases h0:x=0;.rw[Ad h0];obtain⟨d,e⟩:=gq w ok rm 0;exact UW (p:=(b.place 0).1) (bf:=(b.place 0).2) (.inr ⟨h0,e⟩) w w.DT (w.Kr (u:=d)) ok rm hs
 .rw[Ac h0];exact UW (p:=x) (bf:=0) (.inl ⟨h0,rfl,rfl,rfl⟩) w .refl w ok rm hs
def aDR(w:BX h bi a o c t G b)(ok:BA b)(rm:Ct b (m+4))(hr:VL nm av r)(hv:Cp l av)(hl:FB l)(hn:nm.length<=1000)(st:Int):
  ∃h' o' G',Cx cx 62 [Pt bi 0,.agg r,I st] h (.tuple []) h'/\BX h' bi a o' c t G' (b.Qo nm l st)/\FD h (BE bi G) h' (BE bi G'):=by
 obtain⟨h1,d,e,s,w1,g⟩:=gr w ok rm hr hv hl hn;have q:=w1.st (k:=18) (v:= I st) rfl rfl;have w2:BX (put h1 bi 18 (I st)) bi a d c t e {b.DV nm l 1 with sw:=st}:=w1.put rfl rfl w1.o w1.t;have n:=w2.st (k:=5) (v:= I (b.DV nm l 1).mode) rfl rfl;have f:BX (put (put h1 bi 18 (I st)) bi 5 (I (b.DV nm l 1).mode)) bi a d c t e {b.DV nm l 1 with sw:=st,Z6:=(b.DV nm l 1).mode}:=w2.put rfl rfl w1.o w1.t;have j:=f.st (k:=4) (v:=I 8) rfl rfl;have i:BX (put (put (put h1 bi 18 (I st)) bi 5 (I (b.DV nm l 1).mode)) bi 4 (I 8)) bi a d c t e (b.Qo nm l st):=f.put rfl rfl w1.o w1.t;refine⟨_,d,e,?_,i,((g.trans B9).trans B9).trans B9⟩;obtain⟨E,D,C,B,A,z,y,u,YO,jC,rfl⟩:=hr;rw[Aj,uz,t62];simp only[Cr,(Hg w).Ag,s.Ag,w1.l4,q,n,j]
def aDS(w:BX h bi a o c t G b)(rm:Ct b m):
  ∃h' o',Cx cx 63 [Pt bi 0] h (.tuple []) h'/\BX h' bi a o' c t G b.I1/\FD h (BE bi G) h' (BE bi G):=by
 have ho:=rm.AO;have d:=aDd w.sA (Ab:b.AO.length<=1000000000) 3 (v:= .sl 1 ([wP].map C1)) (ws:=[wP]) D7 Bj;have em:Ay (.Cf 1) [S [112]]=some (.sl 1 ([wP].map C1)):=EW (ws:=[wP]) rfl Bj;unfold BS.I1;by_cases hs:Mk (Bl [wP]) (LK 3) b.AO.reverse=true;.rw[Ad hs];rw[hs] at d;obtain⟨g,r2,Xs⟩:=ņ w.sO Ab wP;have w1:=w.N3 Xs;have Eg:=X0 (b:=HD wP) (a:=Ee) (l:=b.AO);obtain⟨e,f,Qe⟩:=f66 w1.sO Hc (w:= .sl 1 ([wP].map C1)) (ws:=[wP]) D7 Bj;refine⟨_,e,?_,w1.N3 Qe,B9.trans B9⟩;rw[Aj,u9,t63];simp only[Cr,(Hg w).Ag,em,d.Ag,r2.Ag,f.Ag]
 .rw[Ac hs];rw[show Mk (Bl [wP]) (LK 3) b.AO.reverse=false by simpa using hs] at d;refine⟨h,o,?_,w,.refl⟩;rw[Aj,u9,t63];simp only[Cr,(Hg w).Ag,em,d.Ag]
end
section
variable{h h':Ah}{bi a:Nat}{o c t:Aa}{G G' F:Nat->Prop}{b:BS}{x:Int}{m:Nat}
variable{nm:Aq}{av:Aa}{l:List A3}{r:List Aa}{sp p:Int}
def aO{U:Type}{l:List U}{n:Nat}(hn:n<l.length):(l.take (n+1)).reverse=l[n]::(l.take n).reverse:=by rw[AD hn,Hi];rfl
def Ų(w:BX h bi a o c t G b)(rm:Ct b m)(nm:Aq):
  ∃h' o',Cx cx 65 [Pt bi 0,.str nm] h (.tuple []) h'/\BX h' bi a o' c t G (b.Dw nm)/\FD h (BE bi G) h' (BE bi G):=by
 have ho:=rm.AO;have NH:Ev cx 65 [Pt bi 0,.str nm] h λr h'=>r= .tuple []/\∃o',BX h' bi a o' c t G (b.Dw nm)/\FD h (BE bi G) h' (BE bi G):=by
  unfold Ev;rw[va,t65];simp only[abS,(Hg w).Ag,(f104 w.sA).Ag,Em (Ab: -9223372036854775808<=(b.AO.length:Int)-1) (Ab:(b.AO.length:Int)-1<9223372036854775808)];refine BI (λn:Nat=>[I ((n:Int)-1)]) (λn h1=>n<=b.AO.length/\(b.AO.reverse.find? λi=>Bl [nm] i||IX i)=((b.AO.take n).reverse.find? λi=>Bl [nm] i||IX i)/\h1=h) (λn=>n) b.AO.length rfl ⟨Af _,by rw[B7],rfl⟩ ?_;rintro n h1 ⟨hn,ha,rfl⟩;cases n with
  |zero=>
   have e:b.Dw nm=b:=by unfold BS.Dw;rw[ha];rfl
   simp only[abS,(Ab:¬(0:Int)<=((0:Nat):Int)-1)];exact⟨_,rfl,rfl,o,by rw[e];exact w,.refl⟩
  |succ n=>
   have hlt:n<b.AO.length:=Ab;have i1:((n+1:Nat):Int)-1=(n:Int):=Ab;have j:=UL w.sA (n:Int);rw[IA hlt] at j;have em:Ay (.Cf 1) [.str nm]=some (.sl 1 ([nm].map C1)):=EW (ws:=[nm]) rfl Aw;have r2:=gF (ws:=[nm]) D7 Aw b.AO[n] h1;rw[aO hlt,M8] at ha;generalize hi:b.AO[n]=i at*;rw[Item.row] at r2;simp only[abS,IH,i1,(Ab:(0:Int)<=(n:Int)),j.Ag,em];have f:Cx cx 93 [.agg i.row,.sl 1 ([nm].map C1)] h1 (.bool (Bl [nm] i)) h1:=r2;rw[f.Ag,Mf,Du];refine⟨λh2=>?_,λh2=>?_⟩
   .obtain⟨u,s,Xs⟩:=ņ w.sO Ab nm;have w1:=w.N3 Xs;have Eg:=X0 (b:=HD nm) (a:=Ee) (l:=b.AO);obtain⟨k,q,Qe⟩:=Ň w1.sO Hc i.node;simp only[Cr,s.Ag,q.Ag];refine⟨_,rfl,rfl,k,?_,B9.trans B9⟩;have e:b.Dw nm={b with AO:=GK i.node (E0 (HD nm) Ee b.AO)}:=by unfold BS.Dw;rw[ha];simp only[h2,zb,BH]
    rw[e];exact w1.N3 Qe
   .simp only[h2,PC] at ha;simp only[(Ŀ i.AW i.name).Co rfl rfl];rw[Mf,Du];refine⟨λg=>?_,λg=>?_⟩
    .have d:IX i=true:=g;rw[d] at ha;have e:b.Dw nm=b:=by unfold BS.Dw;rw[ha];simp only[h2,Dk,E9]
     simp only[Cr];exact⟨_,rfl,rfl,o,by rw[e];exact w,.refl⟩
    .have d:IX i=false:=g;rw[d] at ha;simp only[Cr,Em (Ab: -9223372036854775808<=(n:Int)-1) (Ab:(n:Int)-1<9223372036854775808)];exact A8.next n rfl ⟨Ab,ha,rfl⟩ Ab
 obtain⟨r,h',hr,rfl,o',w',x'⟩:=NH.ret;exact⟨h',o',hr,w',x'⟩
def ų(w:BX h bi a o c t G b)(rm:Ct b m){k:Nat}(hk:k<=b.AO.length):Cx cx 171 [Pt bi 0,I (k:Int)] h (I (BS.Oq (b.AO.take k))) h:=by
 have ho:=rm.AO;rw[Aj,kS,wk];simp only[Cr,Em (Ab: -9223372036854775808<=(k:Int)-1) (Ab:(k:Int)-1<9223372036854775808)];refine BI (λn:Nat=>[I 0,I ((n:Int)-1)]) (λn h1=>n<=k/\((b.AO.take k).reverse.find? λi=>Bl [AY] i||Bl [Fe] i)=((b.AO.take n).reverse.find? λi=>Bl [AY] i||Bl [Fe] i)/\h1=h) (λn=>n) k rfl ⟨Af _,rfl,rfl⟩ ?_;rintro n h1 ⟨hn,ha,rfl⟩;cases n with
 |zero=>simp only[abS,(Ab:¬(0:Int)<=((0:Nat):Int)-1)];unfold BS.Oq;rw[ha];rfl
 |succ n=>
  have hlt:n<b.AO.length:=Ab;have i1:((n+1:Nat):Int)-1=(n:Int):=Ab;have f:=UL w.sA (n:Int);rw[IA hlt] at f;have e:Ay (.Cf 1) [S AY]=some (.sl 1 ([AY].map C1)):=EW (ws:=[AY]) rfl Bj;have C_:Ay (.Cf 1) [S Fe]=some (.sl 1 ([Fe].map C1)):=EW (ws:=[Fe]) rfl Bj;have r2:=gF (ws:=[AY]) D7 Bj b.AO[n] h1;have g:=gF (ws:=[Fe]) D7 Bj b.AO[n] h1;rw[aO hlt,M8] at ha;simp only[abS,i1,(Ab:(0:Int)<=(n:Int)),f.Ag,e,r2.Ag,C_,g.Ag,Em (Ab: -9223372036854775808<=(n:Int)-1) (Ab:(n:Int)-1<9223372036854775808)];rw[Du];refine⟨λh2=>?_,λh2=>?_⟩;.simp only[h2,zb] at ha;unfold BS.Oq;rw[ha];simp only[h2,BH]
  .simp only[h2,PC] at ha;rw[Du];refine⟨λd=>?_,λd=>?_⟩;.rw[d] at ha;unfold BS.Oq;rw[ha];simp only[h2,Dk,E9]
   .rw[d] at ha;exact A8.next n rfl ⟨Ab,ha,rfl⟩ Ab
def gI(r:Aq×Int):List Aa:=[.str r.1,I r.2]
def Yq{z:Nat}{Ao:List (List Aa)}{args:List Aa}(e:args=Ao.map Aa.agg)(hz:∀r∈Ao,r.length=z)(hl:Ao.length*z<=16777216):Ay (.Cf z) args=some (.sl z Ao):=by
 subst e;have f:(Ao.map Aa.agg).all (λa=>a.cells.length==z)=true:=by simp[Aa.cells];exact hz
 have d:(Ao.map Aa.agg).map (·.cells)=Ao:=by rw[List.map_map];exact List.map_id _
 rw[jH,f,d];simp[hl]
def wU{args:List Aa}(e:args=(I2.map gI).map Aa.agg):Ay (.Cf 2) args=some (.sl 2 (I2.map gI)):=Yq e (λr hr=>by obtain⟨x,_,rfl⟩:=AZ.1 hr;rfl) Bj
def Ŵ:Cx cx 170 [] h (.sl 2 (I2.map gI)) h:=by rw[Aj,kR,wj];simp only[abS,Nat.reduceLeDiff,↓reduceIte,BD];exact(Ca (λz=>Wq z λv=>[v]=[Aa.sl 2 (I2.map gI)]) (wU rfl)).mpr (by rw[NM])
def WQ{s:Aq}{i:Item}:Bl [s] i=decide (i.AW=1/\i.name=s):=by unfold Bl;simp
def pB{i:Item}{k:Nat}:b.M1 i k=match I2.find? λr=>Bl [r.1] i with
  |some r=>some r.2
  |none=>if Bl [M0] i then some (BS.Oq (b.AO.take k)) else if Bl [ly,lz] i&&decide (0<k) then some 15 else if Bl [AY] i then some (b.tm.getLast?.getD 7) else if Bl [UC] i&&decide (0<k) then some 4 else if Bl [Eu] i then some (if b.head=0 then 3 else 6) else if k=0 then some 7 else none:=by
 unfold BS.M1;by_cases hs:i.AW=1
 .rw[Ad hs];have e:(λr:Aq×Int=>Bl [r.1] i)=λr=>decide (r.1=i.name):=by funext r;rw[WQ,DZ];exact⟨λh=>h.2.symm,λh=>⟨hs,h.symm⟩⟩
  rw[e];cases hf:I2.find? λr=>decide (r.1=i.name) with
  |some r=>rfl
  |none=>simp only[Bl,hs,Mx,Az,List.not_mem_nil,or_false,Bt,C9]
 .rw[Ac hs];have e:(λr:Aq×Int=>Bl [r.1] i)=λ_=>false:=by funext r;rw[WQ,Bb (λh=>hs h.1)]
  rw[e];have d:I2.find? (λ_=>false)=none:=Bj;rw[d];simp only[Bl,hs,false_and,CY,Dk,E9,Bool.false_and]
def ŵ(w:BX h bi a o c t G b)(rm:Ct b m)(i:Item){k:Nat}(hk:k<=b.AO.length):Cx cx 116 [Pt bi 0,.agg i.row,I (k:Int)] h (.tuple [I ((b.M1 i k).getD 7),.bool (b.M1 i k).isSome]) h:=by
 have ho:=rm.AO;have Q:=rm.tm;have iO:Bu 2 (I2.map gI) (.sl 2 (I2.map gI)):= .mk;have C:=λws hw=>gF (ws:=ws) D7 hw i h;rw[pB,Aj,kD,vq];have hlen:I2.length=9:=rfl;have P:=iO.Gi;rw[hlen] at P;simp only[Cr,↓reduceIte,IH,Ŵ.Ag,P];refine BI (λn:Nat=>[I 0,ff,I (n:Int)]) (λn h1=>n<=9/\(I2.find? λr=>Bl [r.1] i)=((I2.drop n).find? λr=>Bl [r.1] i)/\h1=h) (λn=>9 -n) 0 rfl ⟨A7 _,rfl,rfl⟩ ?_;rintro n h1 ⟨hn,ha,rfl⟩;rcases Bg n 9 with hlt|GW
 .have oZ:n<I2.length:=hlt;have em:Ay (.Cf 1) [.str I2[n].1]=some (.sl 1 ([I2[n].1].map C1)):=EW (ws:=[I2[n].1]) rfl Aw;rw[AA oZ,M8] at ha;simp only[Cr,Nat.reduceLeDiff,↓reduceIte,ZM,(Ab:(n:Int)<((9:Nat):Int)),iO.DC oZ,gI,em,(C [I2[n].1] Aw).Ag,Ci (Ab:n<9223372036854775807)];rw[Du];refine⟨λh2=>?_,λh2=>?_⟩;.rw[h2] at ha;rw[ha];simp
  .rw[h2] at ha;exact A8.next (n+1) rfl ⟨hlt,ha,rfl⟩ Ab
 .have R:n=9:=by omega
  subst R;have ha:(I2.find? λr=>Bl [r.1] i)=none:=ha;rw[ha];have q:Ay (.Cf 1) [S aLG]=some (.sl 1 ([M0].map C1)):=EW (ws:=[M0]) rfl Bj;have s:Ay (.Cf 1) [S [116,100],S [116,104]]=some (.sl 1 ([ly,lz].map C1)):=EW (ws:=[ly,lz]) rfl Bj;have u:Ay (.Cf 1) [S aK9]=some (.sl 1 ([AY].map C1)):=EW (ws:=[AY]) rfl Bj;have H:Ay (.Cf 1) [S [104,101,97,100]]=some (.sl 1 ([UC].map C1)):=EW (ws:=[UC]) rfl Bj;have K:Ay (.Cf 1) [S aLe]=some (.sl 1 ([Eu].map C1)):=EW (ws:=[Eu]) rfl Bj;have f:=C [M0] Bj;have d:=C [ly,lz] Bj;have g:=C [AY] Bj;have y:=C [UC] Bj;have B:=C [Eu] Bj;have rs:=ų w rm hk;have lt:=(w.t.1.Ms (h:=h1));have j:¬((9:Nat):Int)<((9:Nat):Int):=Bj;have l6:=w.l6;have Á:b.tm≠[]->∃p,Ay (.int .sub) [I (b.tm.length:Int),I 1]=some (I ((b.tm.length-1:Nat):Int))/\Ay (.Gm 1) [t,I ((b.tm.length-1:Nat):Int)]=some p/\Bq h1 none p=some (I (b.tm.getLast?.getD 7)):=by intro hne;have hpos:=DB.2 hne;obtain⟨p,E,D⟩:=lt.at_ (b.tm.length-1) Ab;refine⟨p,LJ hpos Ab,E,?_⟩;rw[D,OL,Ai Ab];rfl
  by_cases g1:Bl [M0] i=true;.rw[g1] at f;simp only[abS,↓reduceIte,j,q,f.Ag,rs.Ag,g1,LP,aEQ]
  .have g1:Bl [M0] i=false:=by simpa using g1
   rw[g1] at f;by_cases A:0<k
   .have M:¬k=0:=by omega
    have z:¬(k:Int)=0:=Ab;have v:(0:Int)<(k:Int):=Ab;cases g2:Bl [ly,lz] i<;>rw[g2] at d;rotate_left;.simp only[Cr,↓reduceIte,j,q,f.Ag,s,d.Ag,A,v,g1,YQ]
    cases g3:Bl [AY] i<;>rw[g3] at g;rotate_left
    .by_cases ht:b.tm=[];.simp only[Cr,↓reduceIte,j,q,f.Ag,s,d.Ag,u,g.Ag,A,v,g1,YQ,l6,lt.len,ht,LR,W9,aGO]
     .obtain⟨p,E,D,L⟩:=Á ht;have HO:¬b.tm.length=0:=λe=>ht (Kl.1 e);simp only[Cr,↓reduceIte,j,q,f.Ag,s,d.Ag,u,g.Ag,A,v,g1,YQ,l6,lt.len,(Ab:(0:Int)<(b.tm.length:Int)),E,D,L]
    cases O:Bl [UC] i<;>rw[O] at y;rotate_left;.simp only[Cr,↓reduceIte,j,q,f.Ag,s,d.Ag,u,g.Ag,H,y.Ag,A,v,g1,YQ]
    all_goals cases N:Bl [Eu] i<;>rw[N] at B
    all_goals first
     |simp only[Cr,↓reduceIte,j,q,f.Ag,s,d.Ag,u,g.Ag,H,y.Ag,K,B.Ag,A,M,z,v,g1,YQ];done
     |by_cases J:b.head=0
      .simp only[Cr,↓reduceIte,j,q,f.Ag,s,d.Ag,u,g.Ag,H,y.Ag,K,B.Ag,A,z,v,g1,YQ,w.l7,J]
      .simp only[Cr,↓reduceIte,j,q,f.Ag,s,d.Ag,u,g.Ag,H,y.Ag,K,B.Ag,A,z,v,g1,YQ,w.l7,J]
   .have M:k=0:=by omega
    subst M;have v:¬(0:Int)<((0:Nat):Int):=Bj;have z:((0:Nat):Int)=0:=rfl;by_cases g3:Bl [AY] i=true
    .rw[g3] at g;cases g2:Bl [ly,lz] i<;>rw[g2] at d<;>by_cases ht:b.tm=[];all_goals first
      |simp only[Cr,↓reduceIte,j,q,f.Ag,s,d.Ag,u,g.Ag,z,g1,g3,YQ,l6,lt.len,ht,W9,aGO,C8];done
      |obtain⟨p,E,D,L⟩:=Á ht
       have HO:¬b.tm.length=0:=λe=>ht (Kl.1 e);simp only[Cr,↓reduceIte,j,q,f.Ag,s,d.Ag,u,g.Ag,z,g1,g3,YQ,l6,lt.len,(Ab:(0:Int)<(b.tm.length:Int)),E,D,L,C8]
    .have g3:Bl [AY] i=false:=by simpa using g3
     rw[g3] at g;cases g2:Bl [ly,lz] i<;>rw[g2] at d<;>cases O:Bl [UC] i<;>rw[O] at y<;>cases N:Bl [Eu] i<;>rw[N] at B<;>by_cases J:b.head=0;all_goals simp only[Cr,↓reduceIte,j,q,f.Ag,s,d.Ag,u,g.Ag,H,y.Ag,K,B.Ag,z,g1,g3,YQ,w.l7,J,C8]
end
section
variable{h h':Ah}{bi a:Nat}{o c t:Aa}{G G' F:Nat->Prop}{b:BS}{x:Int}{m:Nat}
variable{nm:Aq}{av:Aa}{l:List A3}{r:List Aa}{sp p:Int}
def BX.Ŷ(w:BX h bi a o c t G b):Bq h (some 4) (Pt bi 10)=some (.agg b.ctx.row):=by simp only[Bq,w.hb];rfl
def BX.yb(w:BX h bi a o c t G b)(v:Int):BX (Am.put h bi 4 (I v)) bi a o c t G {b with mode:=v}:=w.put rfl rfl w.o w.t
def Ct.mode{v:Int}(rm:Ct b m):Ct {b with mode:=v} m:=⟨rm.n,rm.at_,rm.data,rm.AO,rm.A9,rm.tm,rm.Dy,rm.aB⟩
def gy(w:BX h bi a o c t G b)(rm:Ct b m):
  ∃h',Cx cx 67 [Pt bi 0] h (.tuple []) h'/\BX h' bi a o c t G b.KQ/\FD h (BE bi G) h' (BE bi G):=by
 have ho:=rm.AO;have NH:Ev cx 67 [Pt bi 0] h λr h'=>r= .tuple []/\BX h' bi a o c t G b.KQ/\FD h (BE bi G) h' (BE bi G):=by
  unfold Ev;have w1:=w.yb 7;rw[vB,t67];simp only[abS,(Hg w).Ag,w.st (k:=4) (v:=I 7) rfl rfl,(f104 w1.sA).Ag,Em (Ab: -9223372036854775808<=(b.AO.length:Int)-1) (Ab:(b.AO.length:Int)-1<9223372036854775808)];refine BI (λn:Nat=>[I ((n:Int)-1)]) (λn h1=>n<=b.AO.length/\b.Rs b.AO.length=b.Rs n/\h1=Am.put h bi 4 (I 7)) (λn=>n) b.AO.length rfl ⟨Af _,rfl,rfl⟩ ?_;rintro n h1 ⟨hn,ha,rfl⟩;cases n with
  |zero=>
   have e:b.KQ={b with mode:=7}:=by unfold BS.KQ;rw[ha];rfl
   simp only[abS,(Ab:¬(0:Int)<=((0:Nat):Int)-1)];exact⟨_,rfl,rfl,by rw[e];exact w1,B9⟩
  |succ n=>
   have hlt:n<b.AO.length:=Ab;have i1:((n+1:Nat):Int)-1=(n:Int):=Ab;have g:=UL w1.sA (n:Int);rw[show EA ({b with mode:=7}:BS).AO (n:Int)=b.AO[n] from IA hlt] at g;have r2:∀i:Item,Cx cx 116 [Pt bi 0,.agg i.row,I (n:Int)] (Am.put h bi 4 (I 7)) (.tuple [I ((b.M1 i n).getD 7),.bool (b.M1 i n).isSome]) (Am.put h bi 4 (I 7)):=λi=>ŵ w1 rm.mode i (k:=n) Hc;have d:=r2 (b.Gs n);have HW:∀v,CM (Am.put h bi 4 (I 7)) 1 (Pt bi 4) (I v)=some (Am.put (Am.put h bi 4 (I 7)) bi 4 (I v)):=λv=>w1.st (k:=4) rfl rfl;have e:b.Rs (n+1)=match b.M1 (b.Gs n) n with|some m=>m|none=>b.Rs n:=rfl
   rw[e] at ha;have YR:=w1.l9;have hlc:=w1.Ŷ;have TY:=Em (Ab: -9223372036854775808<=(n:Int)-1) (Ab:(n:Int)-1<9223372036854775808);cases hm:b.M1 (b.Gs n) n with
   |none=>
    rw[hm] at d ha;by_cases h0:n=0
    .have m9:((n:Int)=0)=True:=CZ Ab;cases hf:b.NY with
     |true=>
      have f:b.Gs n=b.ctx:=by unfold BS.Gs;rw[Ad ⟨h0,hf⟩]
      rw[f] at d;rw[show({b with mode:=7}:BS).NY=true from hf] at YR;simp only[Cr,IH,i1,g.Ag,YR,hlc,d.Ag,HW,YQ,(Ab:(0:Int)<=(n:Int)),m9,TY];exact A8.next n rfl ⟨Ab,ha,rfl⟩ Ab
     |false=>
      have f:b.Gs n=b.AO[n]:=by unfold BS.Gs;rw[Ac (by simp[hf]),Ax,Ai hlt];rfl
      rw[f] at d;rw[show({b with mode:=7}:BS).NY=false from hf] at YR;simp only[Cr,IH,i1,g.Ag,YR,hlc,d.Ag,HW,YQ,(Ab:(0:Int)<=(n:Int)),m9,TY];exact A8.next n rfl ⟨Ab,ha,rfl⟩ Ab
    .have f:b.Gs n=b.AO[n]:=by unfold BS.Gs;rw[Ac (by simp[h0]),Ax,Ai hlt];rfl
     rw[f] at d;have m9:¬(n:Int)=0:=Ab;simp only[Cr,IH,i1,g.Ag,d.Ag,HW,YQ,(Ab:(0:Int)<=(n:Int)),m9,TY];exact A8.next n rfl ⟨Ab,ha,rfl⟩ Ab
   |some v=>
    rw[hm] at d ha;have e:b.KQ={b with mode:=v}:=by unfold BS.KQ;rw[ha]
    have w2:BX (Am.put (Am.put h bi 4 (I 7)) bi 4 (I v)) bi a o c t G b.KQ:=by rw[e];exact w1.yb v
    by_cases h0:n=0
    .have m9:((n:Int)=0)=True:=CZ Ab;cases hf:b.NY with
     |true=>
      have f:b.Gs n=b.ctx:=by unfold BS.Gs;rw[Ad ⟨h0,hf⟩]
      rw[f] at d;rw[show({b with mode:=7}:BS).NY=true from hf] at YR;simp only[Cr,IH,i1,g.Ag,YR,hlc,d.Ag,HW,YQ,(Ab:(0:Int)<=(n:Int)),m9];exact⟨_,rfl,rfl,w2,B9.trans B9⟩
     |false=>
      have f:b.Gs n=b.AO[n]:=by unfold BS.Gs;rw[Ac (by simp[hf]),Ax,Ai hlt];rfl
      rw[f] at d;rw[show({b with mode:=7}:BS).NY=false from hf] at YR;simp only[Cr,IH,i1,g.Ag,YR,hlc,d.Ag,HW,YQ,(Ab:(0:Int)<=(n:Int)),m9];exact⟨_,rfl,rfl,w2,B9.trans B9⟩
    .have f:b.Gs n=b.AO[n]:=by unfold BS.Gs;rw[Ac (by simp[h0]),Ax,Ai hlt];rfl
     rw[f] at d;have m9:¬(n:Int)=0:=Ab;simp only[Cr,IH,i1,g.Ag,d.Ag,HW,YQ,(Ab:(0:Int)<=(n:Int)),m9];exact⟨_,rfl,rfl,w2,B9.trans B9⟩
 obtain⟨r,h',hr,rfl,w',x'⟩:=NH.ret;exact⟨h',hr,w',x'⟩
def pC{h0 u:Ah}{V:Aa}{L:List A3}{N:Nat}(j:N=h0.length)(g:FE (h0++u) V L)(i:Up N V)(hb:L.length<=1000000000)(y:A3):
  ∃f d,FX (h0++u) 3 40 V (.sl 3 [y.row])=some (h0++f,d)/\FE (h0++f) d (L++[y])/\Up N d:=by
 subst j;have af:AQ=140737488355328:=rfl;rcases g with⟨rfl,rfl⟩|⟨id,rfl,hc,hl⟩
 .refine⟨u++[.cells (([y]:List A3).map A3.row).flatten],.CL (h0++u).length 0 1 3,by rw[<-AB];rfl,.inr ⟨(h0++u).length,rfl,Aw,Aw⟩,λid k e=>by injection e with e;rw[<-e,Ap];omega⟩
 .have Hw:h0.length<=id:=i id _ rfl;have hg:=MT (b:=40) (Ao:=L.map A3.row) (r2:=[y.row]) (v:= .sl 3 [y.row]) (vX L) Bj hc .mk Aw (by rw[As];simp;omega);rw[As] at hg;have e:(h0++u).set id .DK++[.cells (L.map A3.row++[y.row]).flatten]=h0++(u.set (id-h0.length) .DK++[.cells ((L++[y]).map A3.row).flatten]):=by rw[B6 _ _ Hw,AB,BV];rfl
  rw[e] at hg;have YP:(h0++(u.set (id-h0.length) DJ.DK++[.cells ((L++[y]).map A3.row).flatten]))=(h0++u.set (id-h0.length) DJ.DK)++[.cells ((L++[y]).map A3.row).flatten]:=by rw[AB]
  have jA:(h0++u.set (id-h0.length) DJ.DK).length=(h0++u).length:=Aw;refine⟨_,_,hg,.inr ⟨(h0++u).length,Aw,?_,?_⟩,λid k e=>by injection e with e;rw[<-e,Ap];omega⟩;.rw[YP,<-jA,Bp (Af _),DY];rfl
  .rw[YP];simp only[Ap,Bv,AU,BK];omega
def ŷ(y c:A3)(h:Ah):Cx cx 118 [.agg c.row,.Cz y.row] h (.bool (decide (CW ⟨0,y.name,y.value⟩=CW c))) h:=by
 rw[Aj,bw,ė,A3.row,A3.row];simp only[Cr];refine⟨λh1=>?_,λh1=>?_⟩;.congr 2;rw[DZ];simp[CW,h1];exact zd
 .rw[Bb (λe=>h1 (by simp[CW] at e;exact e.1.symm))]
def A3.pD{y:A3}:(⟨0,y.name,y.value⟩:A3).row=[I 0,.str y.name,.str y.value]:=rfl
def RA(k:Int×Aq):∀{l out:List A3},(F9 out l).any (λz=>decide (k=CW z))=(out++l).any λz=>decide (k=CW z)
 |[],out=>by simp[F9]
 |y::l,out=>by
  rw[F9];split
  .rename_i h;rw[RA k,pX,pX,List.any_cons];by_cases hk:k=CW y;.subst hk;rw[h];rfl
   .simp[hk]
  .rw[RA k,AB];rfl
def wV(k:Int×Aq)(l:List A3):(Cl l).any (λz=>decide (k=CW z))=l.any λz=>decide (k=CW z):=RA k
def Oy{l:List A3}{y:A3}:Cl (l++[y])=if(Cl l).any (λz=>decide (CW y=CW z)) then Cl l else Cl l++[y]:=UP
def aDV(w:BX h bi a o c t G b)(ok:Dz b)(rm:Ct b (m+1000))(hr:VL nm av r)(hv:Cp l av)(hl:FB l)(x:Int):
  ∃h' G',Cx cx 68 [Pt bi 0,.agg r,I x] h (.tuple []) h'/\BX h' bi a o c t G' (b.H8 l x)/\FD h (BE bi G) h' (BE bi G'):=by
 obtain⟨K1,V1,d,B,_,_⟩:=SP w ok rm x;have w1:=w.Kr (u:=d);obtain⟨Y,X,W,U,T,S,Q,P,YO,jC,rfl⟩:=hr;have v:FD h (BE bi G) (h++d) (BE bi G):=w.DT;by_cases hk:(b.a.nd x).kind=4;rotate_left;.refine⟨h++d,G,?_,by unfold BS.H8;rw[Ac hk];exact w1,v⟩;rw[Aj,vC,t68];simp only[abS,↓reduceIte,(Hg w).Ag,B.Ag,CC,hk]
 obtain⟨K2,Z,A,r2,_,f,g⟩:=SP w1 ok rm x;have w2:=w1.Kr (u:=A);have x2:FD h (BE bi G) (h++d++A) (BE bi G):=v.trans w1.DT;have hx:b.a.has x:=by
  by_cases hp:b.a.has x;.exact hp
  .rw[IY hp] at hk;simp at hk
 have Xr:=rm.at_ x;have iN:=hl.1;have NH:Ev cx 68 [Pt bi 0,.agg [Y,.str nm,X,W,U,T,S,Q,av,P,YO,jC],I x] h λr h'=>r= .tuple []/\∃G',BX h' bi a o c t G' (b.H8 l x)/\FD h (BE bi G) h' (BE bi G'):=by
  unfold Ev;rw[vC,t68];have hvl:=Bu.Gi hv;simp only[abS,↓reduceIte,(Hg w).Ag,B.Ag,r2.Ag,CC,hk,hvl];refine BI (λs:Aa×Nat=>[s.1,I (s.2:Int)]) (λs h1=>∃u L,h1=h++d++u/\s.2<=l.length/\FE h1 s.1 L/\Up (h++d).length s.1/\Cl L=Cl ((b.a.nd x).Av++BS.plain (l.take s.2))/\(∀y∈L,BS.HR y.AW)/\L.length<=(b.a.nd x).Av.length+s.2) (λs=>l.length-s.2) (Z,0) rfl ⟨A,(b.a.nd x).Av,rfl,A7 _,f,g,?_,?_,Aw⟩ ?_;.simp[BS.plain]
  .exact λy hy=>(ok.ok.NW x hx).yB y hy
  rintro⟨V,n⟩ h1 ⟨u,L,rfl,hn,f,g,j,hs,Eg⟩;simp only at hn f g j Eg;rcases Bg n l.length with hlt|GW
  .have E:=Bu.DC (k:= .i64) hv hlt;rw[A3.row] at E;have i:=mr f.in_ Ab (F:= .func (.func 118) [] [.Cz l[n].row]) (q:=λc=>decide (CW ⟨0,l[n].name,l[n].value⟩=CW c)) ⟨_,_,rfl,Bj,λc=>ŷ l[n] c _⟩;rw[A3.row] at i;obtain⟨O,V',g1,g2,g3⟩:=pC (N:=(h++d).length) rfl f g Ab ⟨0,l[n].name,l[n].value⟩;rw[A3.pD] at g1;have em:Ay (.Cf 3) [.agg [I 0,.str l[n].name,.str l[n].value]]=some (.sl 3 [[I 0,.str l[n].name,.str l[n].value]]):=rfl;have H:Cl ((b.a.nd x).Av++BS.plain (l.take (n+1)))=Cl (L++[⟨0,l[n].name,l[n].value⟩]):=by rw[AD hlt,BS.plain,BV,<-AB,aET,Oy,Oy,j];rfl
   have D:Cl (L++[⟨0,l[n].name,l[n].value⟩])=if L.any (λz=>decide (CW ⟨0,l[n].name,l[n].value⟩=CW z)) then Cl L else Cl L++[⟨0,l[n].name,l[n].value⟩]:=by rw[Oy,wV]
   simp only[abS,Nat.reduceLeDiff,↓reduceIte,BD,(Ab:(n:Int)<(l.length:Int)),E,i.Ag,em,g1,Ci (Ab:n<9223372036854775807)];rw[Du];refine⟨λh2=>?_,λh2=>?_⟩
   .refine A8.next (V',n+1) rfl ⟨O,_,rfl,hlt,g2,g3,H.symm,?_,ER⟩ Hc;intro y hy;rcases Ak.1 hy with hy|hy
    .exact hs y hy
    .simp at hy;subst hy;exact⟨Hc,Hc⟩
   .have h2:(L.any λz=>decide (CW ⟨0,l[n].name,l[n].value⟩=CW z))=true:=by simpa using h2
    rw[Ad h2] at D;exact A8.next (V,n+1) rfl ⟨u,L,rfl,hlt,f,g,by rw[H,D],hs,Hc⟩ Hc
  .have OF:n=l.length:=by omega
   subst OF;rw[B7] at j;simp only[abS,↓reduceIte,(Ab:¬(l.length:Int)<(l.length:Int)),(w1.Kr (u:=u)).l0];obtain⟨C,G3,i,M,J⟩:=(w1.Kr (u:=u)).step (A':=b.a.KP x L) (R:=λC=>Cx cx 119 [Pt a 0,I x,V] (h++d++u) (I 0) C) λn m ps K=>by obtain⟨h',OH,f1,f2,f3⟩:=ŏ K rm.VG hx hk f.in_ Ab hs;exact⟨h',n,m,OH,f1,f2,f3⟩
   have e:b.H8 l x={b with a:=b.a.KP x L}:=by unfold BS.H8;rw[Ad hk];unfold Ar.KP;rw[j]
   simp only[Cr,i.Ag];refine⟨_,rfl,rfl,G3,?_,?_⟩;.rw[e];exact M
   .exact(v.trans w1.DT).trans J
 obtain⟨r,h',hr,rfl,G',w',x'⟩:=NH.ret;exact⟨h',G',hr,w',x'⟩
end
section
variable{h h':Ah}{bi a:Nat}{o c t:Aa}{G G' F:Nat->Prop}{b b':BS}{x:Int}{m:Nat}
variable{nm:Aq}{av:Aa}{l:List A3}{r:List Aa}{sp p:Int}
def Ct.sub(rm:Ct b m)(ha:b'.a=b.a)(ho:b'.AO.Sublist b.AO)(hc:b'.A9.Sublist b.A9)(ht:b'.tm.length<=b.tm.length):Ct b' m:=
 ⟨by rw[ha];exact rm.n,by rw[ha];exact rm.at_,by rw[ha];exact rm.data,by have:=rm.AO;have:=ho.length_le;omega,by have:=rm.A9;have:=hc.length_le;omega,by have:=rm.tm;omega,λe he=>rm.Dy e (hc.subset he),λi hi=>rm.aB i (ho.subset hi)⟩
def Ÿ{v:Aa}{l:List Int}(hv:Ry l v)(hb:l.length<=1000000000)(h:Ah):∃u,Cx cx 26 [v] h u h/\VK l u:=by
 have hm:AQ=140737488355328:=rfl;have e0:Ay (.Fq 1) []=some (.Fq 1):=rfl;rcases hv with hv|⟨rfl,rfl⟩
 .have Ig:Bu 1 (l.map DH) v:=hv;rcases Ig with rfl|⟨rfl,h0⟩
  .cases l with
   |nil=>refine⟨.Fq 1,?_,.inr ⟨rfl,rfl⟩,nofun⟩;rw[Aj,Yb,Đ];simp only[Cr,DW,show Ay (.Gu false .sl) [.sl 1 [],.slnil]=some (.bool false) from rfl,e0,show Ay (.append 1 8) [.Fq 1,.sl 1 []]=some (.Fq 1) from rfl]
   |cons x l=>
    have PR:((x::l).map DH).length*8<=AQ:=by rw[As];omega
    have d:Ay (.append 1 8) [.Fq 1,.sl 1 ((x::l).map DH)]=some (.sl 1 ((x::l).map DH)):=by simp only[Bi] at PR⊢;simp only[Ay,GP,BH,C4];rw[Ad ⟨trivial,PR⟩]
    refine⟨_,?_,.inl .mk,λe=>by injection e with _ e;simp at e⟩;rw[Aj,Yb,Đ];simp only[Cr,show Ay (.Gu false .sl) [.sl 1 ((x::l).map DH),.slnil]=some (.bool false) from rfl,e0,d]
  .refine⟨.slnil,?_,.inl (.inr ⟨rfl,h0⟩),nofun⟩;rw[Aj,Yb,Đ];simp only[Cr,show Ay (.Gu false .sl) [.slnil,.slnil]=some (.bool true) from rfl]
 .refine⟨.Fq 1,?_,.inr ⟨rfl,rfl⟩,nofun⟩;rw[Aj,Yb,Đ];simp only[Cr,show Ay (.Gu false .sl) [.Fq 1,.slnil]=some (.bool false) from rfl,e0,show Ay (.append 1 8) [.Fq 1,.Fq 1]=some (.Fq 1) from rfl]
def BX.yc{u:Aa}{l:List Int}(w:BX h bi a o c t G b)(hu:VK l u):BX (Am.put h bi 6 u) bi a o c u G {b with tm:=l}:=w.put rfl rfl w.o hu
def wW:Ay (.Cf 1) [S aK9]=some (.sl 1 ([AY].map C1)):=EW (ws:=[AY]) rfl Bj
def aDW(w:BX h bi a o c t G b)(hc:Dj b.A9 c)(rm:Ct b m):
  ∃h' o' c' t',Cx cx 69 [Pt bi 0] h (.tuple []) h'/\BX h' bi a o' c' t' G b.C7/\Dj b.C7.A9 c'/\FD h (BE bi G) h' (BE bi G):=by
 have ho:=rm.AO;have bS:=rm.A9;have O:=rm.tm;have A:=f144 w.sA Ab AY;by_cases II:AG (Bl [AY]) b.AO<0;.refine⟨h,o,c,t,?_,by unfold BS.C7;rw[Ad II];exact w,by unfold BS.C7;rw[Ad II];exact hc,.refl⟩;rw[Aj,fO,t69];simp only[abS,(Hg w).Ag,A.Ag,II]
 obtain⟨y,r2,Xs⟩:=f145 w.sO Ab;have w1:=w.N3 Xs;have l1:(E0 DG Ee b.AO).length<=b.AO.length:=X0;obtain⟨f,H,Qe⟩:=f66 w1.sO Hc (D7 (ws:=[AY])) Bj;have w2:=w1.N3 Qe;obtain⟨fs,Ld,hcs⟩:=hc;have HV:fs.length=b.A9.length:=by rw[<-Ld,As]
 obtain⟨d,E,C⟩:=f65 (show Rp _ bi 3 fs from⟨c,w2.wK,hcs⟩) Ab;have j:=w2.Rz (u:=d) (l:=HQ b.A9);have Wm:Dj (HQ b.A9) d:=⟨_,by rw[lS,Ld],C⟩;have lt:=w.t.1.len;have l6:=j.l6;have e:b.C7=BS.KQ {b with AO:=E0 Ee (Bl [AY]) (E0 DG Ee b.AO),A9:=HQ b.A9,tm:=b.tm.dropLast}:=by unfold BS.C7;rw[Ac II]
 have sO:(E0 Ee (Bl [AY]) (E0 DG Ee b.AO)).Sublist b.AO:=(E8 (p:=Ee) (q:=Bl [AY]) (l:=E0 DG Ee b.AO)).trans E8;have D:FD h (BE bi G) (put (put (put h bi 2 y) bi 2 f) bi 3 d) (BE bi G):=(B9.trans B9).trans B9;by_cases h0:b.tm=[]
 .have v:BX (put (put (put h bi 2 y) bi 2 f) bi 3 d) bi a f d t G {b with AO:=E0 Ee (Bl [AY]) (E0 DG Ee b.AO),A9:=HQ b.A9,tm:=b.tm.dropLast}:=by
   have:b.tm.dropLast=b.tm:=by rw[h0];rfl
   rw[this];exact j
  obtain⟨Q,z,s,K⟩:=gy v (rm.sub (b':={b with AO:=E0 Ee (Bl [AY]) (E0 DG Ee b.AO),A9:=HQ b.A9,tm:=b.tm.dropLast}) rfl sO (ET _ _) Aw);refine⟨Q,f,d,t,?_,by rw[e];exact s,by rw[e];exact Wm,D.trans K⟩;have B:Ay (.len false) [t]=some (I 0):=by rw[lt,h0];rfl
  rw[Aj,fO,t69];simp only[abS,(Hg w).Ag,A.Ag,II,r2.Ag,wW,H.Ag,E.Ag,l6,B,z.Ag,YQ]
 .have hpos:=DB.2 h0;obtain⟨S,R,i⟩:=Bu.Si (w.t.1.ne h0) (k:= .i64) (n:=b.tm.length-1) Ab;rw[<-List.dropLast_eq_take] at i;obtain⟨M,z,g⟩:=Ÿ (.inl i) ER (put (put (put h bi 2 y) bi 2 f) bi 3 d);have s:=j.yc g;obtain⟨P,N,L,J⟩:=gy s (rm.sub (b':={b with AO:=E0 Ee (Bl [AY]) (E0 DG Ee b.AO),A9:=HQ b.A9,tm:=b.tm.dropLast}) rfl sO (ET _ _) Aw);refine⟨P,f,d,M,?_,by rw[e];exact L,by rw[e];exact Wm,(D.trans B9).trans J⟩;rw[Aj,fO,t69];simp only[abS,(Hg w).Ag,A.Ag,II,r2.Ag,wW,H.Ag,E.Ag,l6,lt,(Ab:(0:Int)<(b.tm.length:Int)),LJ hpos (Ab:b.tm.length<9223372036854775807),R,z.Ag,j.st (k:=6) (v0:=t) rfl g.1.cells,N.Ag,YQ]
def aDY(w:BX h bi a o c t G b):∃h',Cx cx 70 [Pt bi 0] h (.tuple []) h'/\BX h' bi a o c t G {b with stop:=true}/\FD h (BE bi G) h' (BE bi G):=by refine⟨_,?_,w.put (k:=19) (v:= .bool true) rfl rfl w.o w.t,B9⟩;rw[Aj,vd,t70];simp only[Cr,(Hg w).Ag,w.st (k:=19) (v:=tt) rfl rfl]
def Ź(w:BX h bi a o c t G b)(rm:Ct b m):∃h' o',Cx cx 73 [Pt bi 2] h (.agg b.uA.row) h'/\BX h' bi a o' c t G b.S4/\FD h (BE bi G) h' (BE bi G):=by
 have ho:=rm.AO;have ld:Bq h none (Pt bi 2)=some o:=w.ld 2;have lo:=Bu.Gi w.o;unfold BS.S4 BS.uA;by_cases h2:b.AO.length<2;.refine⟨h,o,?_,by rw[Ad h2];exact w,.refl⟩;rw[Ad h2,Aj,fP,t73];simp only[abS,↓reduceIte,BD,(f104 w.sA).Ag,(Ab:(b.AO.length:Int)<2)];rfl
 .obtain⟨u,e,hu⟩:=Bu.Si w.o (k:= .i64) (n:=b.AO.length-1) Ab;refine⟨_,u,?_,by rw[Ac h2];exact w.N3 hu,B9⟩;rw[Ac h2,Aj,fP,t73];simp only[abS,↓reduceIte,BD,IH,(f104 w.sA).Ag,(Ab:¬(b.AO.length:Int)<2),(f39 w.sA Ab).Ag,ld,lo,LJ (Ab:0<b.AO.length) (Ab:b.AO.length<9223372036854775807),e,w.st (k:=2) (v0:=o) rfl (Bu.cells hu)]
end
def QA{U:Type}(enc:U->List Aa)(Dr:U->Ah->Prop)(Z:U->Nat)(i:Nat)(Iv:U->Ah->Prop)(s:U):IN:=
 λx vs h1=>(x= .normal/\∃s',vs=enc s'/\Dr s' h1/\Z s'<Z s)\/(x= .exit i/\∃s',vs=enc s'/\Iv s' h1)
def QA.next{U:Type}{enc:U->List Aa}{Dr Iv:U->Ah->Prop}{Z:U->Nat}{i:Nat}{s:U}{vs:List Aa}{h:Ah}(s':U)(e:vs=enc s')(hi:Dr s' h)(hl:Z s'<Z s):QA enc Dr Z i Iv s .normal vs h:= .inl ⟨rfl,s',e,hi,hl⟩
def QA.Iv{U:Type}{enc:U->List Aa}{Dr Iv:U->Ah->Prop}{Z:U->Nat}{i:Nat}{s:U}{vs:List Aa}{h:Ah}(s':U)(e:vs=enc s')(hi:Iv s' h):QA enc Dr Z i Iv s (.exit i) vs h:= .inr ⟨rfl,s',e,hi⟩
def Hr{C:FC}{Q:IN}{h:Ah}{U:Type}{key i:Nat}{init:List Aa}{body:List Aa->IT}{k:Fs->List Aa->IT}(enc:U->List Aa)(Dr:U->Ah->Prop)(Z:U->Nat)(Iv:U->Ah->Prop)(s0:U)(h0:init=enc s0)(hi:Dr s0 h)
  (round:∀s h,Dr s h->W C (body (enc s)) (QA enc Dr Z i Iv s) h) (hk:∀s h,Iv s h->W C (k (.exit i) (enc s)) Q h):W C (.loop key init body k) Q h:=by
 refine BI enc Dr Z s0 h0 hi λs h hs=>W.mono (round s h hs) ?_;rintro x vs h1 (hn|⟨rfl,s',rfl,hf⟩);.exact .inl hn
 .exact .inr ⟨Aw,hk s' h1 hf⟩
def RB{h:Ah}{id z:Nat}{Ao:List (List Aa)}(hr:∀r∈Ao,r.length=z)(hc:h[id]?=some (.cells Ao.flatten)){i:Nat}(hi:i<Ao.length):Bq h (some z) (Pt id (i*z))=some (.agg Ao[i]):=by
 have hl:i*z+z<=Ao.flatten.length:=by rw[F6 hr];have:=DM z (Ab:i+1<=Ao.length);rwa [Bs,Ef] at this
 simp only[Bq,hc,Ln];rw[Ad hl,HA hr,AA hi,Cy,Di (by rw[hr _ (AJ hi)];exact Af _),AR (by rw[hr _ (AJ hi)];exact Af _)]
section
variable{h h':Ah}{bi a:Nat}{o c t:Aa}{G G' F:Nat->Prop}{b b':BS}{x:Int}{m:Nat}
variable{nm:Aq}{av:Aa}{l:List A3}{r:List Aa}{sp p:Int}
def wX(e:CN)(h:Ah):∃r,Cx cx 111 [.agg e.row] h (.agg r) h/\VL e.c.name e.v r:=by have hv:e.v.cells=[e.v]:=Bu.cells e.ok;refine⟨_,?_,I 2,ff,S [],ff,S [],ff,ff,ff,S [],.int .i32 0,rfl⟩;rw[Aj,br,ĕ,CN.row];simp only[abS,Nat.reduceLeDiff,↓reduceIte,BD,hv]
def WR:∀{l:List B8} {b:BS} {m:Nat},Ct b (m+4*l.length)->(∀e∈l,e.name.length<=1000/\FB e.Av)->Ct (BS.HH l b).2 m
 |[],b,m,r,_=>by simpa[BS.HH] using r
 |e::l,b,m,r,hl=>by have h1:=hl e Aw;rw[BS.HH];exact WR (Mq (m:=m+4*l.length) (r.le ER) h1.2 h1.1) λx hx=>hl x (by simp[hx])
def Yr:b.MZ<=b.A9.length:=by unfold BS.MZ;rcases CV (q:=b.settled) (l:=b.A9) with⟨h,_⟩|⟨n,h1,h2,_⟩<;>omega
structure Ys(h:Ah)(bi a:Nat)(t:Aa)(G0:Nat->Prop)(b:BS)(fs:List CN)(id m k:Nat)(h1:Ah):Prop where
 le:k<=fs.length
 low:b.MZ<=k
 ex:∃(o:Aa) (G:Nat->Prop) (b1:BS) (JI:List CN),BX h1 bi a o (.CL id 0 fs.length 3) t G b1/\Dz b1/\Ct b1 (m+4*(fs.length-k))/\h1[id]?=some (.cells (JI.map CN.row).flatten)/\JI.length=fs.length/\JI.drop k=fs.drop k/\
  BS.Eb b={(BS.HH (b.A9.drop k) b1).2 with A9:=(JI.take k).map (·.c)++(BS.HH (b.A9.drop k) b1).1}/\¬BE bi G id/\FD h (BE bi G0) h1 (BE bi G)
def BX.Yt(w:BX h bi a o c t G {b with A9:=b.A9}):BX h bi a o c t G b:=w
def UX{h1:Ah}{id:Nat}{v v':Aa}(ha:At h id 3 v)(hf:LA h v=some (h1,v'))(he:h1[id]?=h[id]?):KD h 3 (Pt id 0)=some (Am.put h1 id 3 v'):=by obtain⟨cs,hc,e⟩:=ha;rw[hc] at he;unfold KD;simp only[hc,BC,e,hf,B5,he];rw[HP he]
def gz{v:Aa}{l:List CN}(hv:EL l v):LA h v=some (h,v):=by rcases hv with rfl|⟨rfl,_⟩<;>rfl
def ź{v:Aa}(hv:EL [] v)(h:Ah):∃u,Cx cx 110 [v] h u h/\EL [] u:=by
 have d:=ZP (h:=h) (s:= .sl 3 []) (b:=48) (.inr rfl) hv;rcases hv with rfl|⟨rfl,h0⟩
 .refine⟨.sl 3 [],?_,.mk⟩;rw[Aj,Yd,bq];simp only[DW] at d;simp only[Cr,DW,show Ay (.Gu false .sl) [.sl 3 [],.slnil]=some (.bool false) from rfl,show Ay (.Cf 3) []=some (.sl 3 []) from rfl,d]
 .refine⟨.slnil,?_,.inr ⟨rfl,rfl⟩⟩;rw[Aj,Yd,bq];simp only[Cr,show Ay (.Gu false .sl) [.slnil,.slnil]=some (.bool true) from rfl]
def Ys.init(w:BX h bi a o c t G b)(ok:Dz b)(rm:Ct b (m+4*b.A9.length)){fs:List CN}(Ld:fs.map (·.c)=b.A9):
  Ys h bi a t G b fs h.length m b.MZ (Am.put (h++[.cells (fs.map CN.row).flatten]) bi 3 (.CL h.length 0 fs.length 3)):=by
 have HV:b.A9.length=fs.length:=by rw[<-Ld,As]
 have hk:=Yr (b:=b);have hne:h.length≠bi:=Nat.ne_of_gt w.lt;refine⟨Ab,Af _,o,G,b,fs,((w.Kr (u:=[.cells (fs.map CN.row).flatten])).Rz (l:=b.A9)).Yt,ok,rm.le Ab,?_,rfl,rfl,?_,?_,w.DT.trans B9⟩;.rw[CQ hne];simp
 .unfold BS.Eb;simp only;rw[Ie,Ld]
 .rintro(rfl|hg);.exact hne rfl
  .exact absurd (w.w.lt hg) (C8 _)
def Ys.step{fs:List CN}{id k:Nat}{h1:Ah}(Ld:fs.map (·.c)=b.A9)(Ov:∀e∈b.A9,e.name.length<=1000/\FB e.Av)(hi:h.length<=id)(hlt:k<fs.length)(i:Ys h bi a t G b fs id m k h1):
  ∃(r:List Aa) (h2:Ah) (n:Int),Bq h1 none (Pt bi 3)=some (.CL id 0 fs.length 3)/\Bq h1 (some 3) (Pt id (k*3))=some (.agg fs[k].row)/\Cx cx 111 [.agg fs[k].row] h1 (.agg r) h1/\Cx cx 19 [Pt bi 0,.agg r] h1 (I n) h2/\Bq h2 none (Pt bi 3)=some (.CL id 0 fs.length 3)/\
   CM h2 1 (Pt id (k*3)) (I n)=some (Am.put h2 id (k*3) (I n))/\Ys h bi a t G b fs id m (k+1) (Am.put h2 id (k*3) (I n)):=by
 obtain⟨B,C,b1,JI,w1,qJ,D_,Vt,Wk,tz,g_,PF,f⟩:=i.ex;have Yu:k<JI.length:=Ab;have HV:b.A9.length=fs.length:=by rw[<-Ld,As]
 have Ż:k<b.A9.length:=Ab;have g:JI[k]=fs[k]:=by have:=Ca (λl=>l[0]?) tz;simp only[Cm,Bc] at this;rw[Ai Yu,Ai hlt] at this;exact Ew this
 have u:b.A9[k]=fs[k].c:=by simp only[<-Ld,C5]
 have qw:=RB (SH JI) Vt (i:=k) (by simpa using Yu);rw[C5,g] at qw;have Ov:=Ov fs[k].c (by rw[<-u];exact AJ Ż);obtain⟨r,y,hr⟩:=wX fs[k] h1;obtain⟨h2,z,w,r2,w2,d⟩:=gr (m:=m+4*(fs.length-(k+1))) w1 qJ.ba (D_.le Ab) hr fs[k].ok Ov.2 Ov.1;have zI:id<h1.length:=(Ae.1 Vt).1;have JB:h2[id]?=some (.cells (JI.map CN.row).flatten):=by rw[d.old id zI PF];exact Vt
 have Vq:¬BE bi w id:=λhg=>by
  rcases d.BE id hg with hg|hg
  .exact PF hg
  .omega
 have s:At h2 id (k*3) (I fs[k].c.node):=⟨_,JB,by have:=Mr (k:=0) (SH JI) Bj (i:=k) (r:=fs[k].row) (by rw[Cn,Ai Yu,g];rfl);rw[Bc] at this;rw[this];rfl⟩
 let q:CN:=⟨{fs[k].c with node:=b1.a.len+1},fs[k].v,fs[k].ok⟩
 have hrow:(JI.map CN.row).flatten.set (k*3) (I (b1.a.len+1))=((JI.set k q).map CN.row).flatten:=by have:=Rx (Ao:=JI.map CN.row) (i:=k) (k:=0) (v:= I (b1.a.len+1)) (SH JI) (by simpa using Yu) Bj;rw[Bc] at this;rw[Fo,Cd,Ad (by rw[F6 (SH JI),As];omega)];rw[AB] at this;rw[show q.row=((JI.map CN.row)[k]'(by simpa using Yu)).set 0 (I (b1.a.len+1)) by rw[C5,g];rfl];exact this
 have A:id≠bi:=λe=>Vq (.inl e);refine⟨r,h2,b1.a.len+1,w1.l3,qw,y,r2,w2.l3,s.store rfl,⟨hlt,by have:=i.low;omega,z,w,_,JI.set k q,w2.DU λj hj=>CQ λe=>Vq (e▸hj),NZ qJ,Mq (m:=m+4*(fs.length-(k+1))) (D_.le Ab) Ov.2 Ov.1,?_,by rw[Bv];exact Wk,?_,?_,Vq,⟨by rw[Lo];exact(f.trans d).len,λj hj hn=>(CQ Ab).trans ((f.trans d).old j hj hn),(f.trans d).BE⟩⟩⟩;.rw[HP JB,AH (by have:=d.len;omega),hrow]
 .rw[aBr (QQ k)];have:=Ca (λl=>l.drop 1) tz;simpa[DL] using this
 .rw[g_,AA Ż,u,BS.HH];simp only
  congr 1
  rw[AD (by rw[Bv];exact Yu),List.getElem_set_self,BV,VO (Af k),AB];rfl
def aDZ(w:BX h bi a o c t G b)(hc:Dj b.A9 c)(ok:Dz b)(rm:Ct b (m+4*b.A9.length)):
  ∃h' o' c' G',Cx cx 64 [Pt bi 0] h (.tuple []) h'/\BX h' bi a o' c' t G' b.Eb/\Dj b.Eb.A9 c'/\FD h (BE bi G) h' (BE bi G'):=by
 have ho:=rm.AO;have bS:=rm.A9;obtain⟨fs,Ld,hcs⟩:=hc;have HV:b.A9.length=fs.length:=by rw[<-Ld,As]
 have NH:Ev cx 64 [Pt bi 0] h λr h'=>r= .tuple []/\∃o' c' G',BX h' bi a o' c' t G' b.Eb/\Dj b.Eb.A9 c'/\FD h (BE bi G) h' (BE bi G'):=by
  unfold Ev;have l3:=w.l3;have lc:=Bu.Gi hcs;rw[u_,t64];simp only[abS,(Hg w).Ag,l3,lc];refine Hr (i:=0) (λn:Nat=>[I (n:Int)]) (λn h1=>n<=fs.length/\AG b.settled b.A9=AG b.settled (b.A9.take n)/\h1=h) (λn=>n) (λn h1=>n=b.MZ/\h1=h) fs.length rfl ⟨Af _,by rw[<-HV,B7],rfl⟩ ?_ ?_
  .rintro n h1 ⟨hn,ha,rfl⟩;cases n with
   |zero=>simp only[abS,(Bj:¬(0:Int)<((0:Nat):Int))];refine .Iv 0 rfl ⟨?_,rfl⟩;unfold BS.MZ;rw[ha];rfl
   |succ n=>
    have hlt:n<b.A9.length:=Ab;have oZ:n<fs.length:=Ab;rw[MV hlt] at ha;have i1:=LJ (n:=n+1) (Ab:0<n+1) (Ab:n+1<9223372036854775807);rw[Oa] at i1;have d:=Bu.DC (k:= .i64) hcs oZ;have N:fs[n].c.node=b.A9[n].node:=by simp only[<-Ld,C5]
    have f:=VI w.sA Ab b.A9[n].node;have g:b.settled b.A9[n]=true->n+1=b.MZ:=by intro hs;rw[Ad hs] at ha;unfold BS.MZ;rw[ha];omega
    rw[CN.row,N] at d;simp only[abS,(Ab:(0:Int)<((n+1:Nat):Int)),l3,i1,d,f.Ag,CC];refine⟨λh1=>⟨λh2=>?_,λh2=>?_⟩,λh1=>?_⟩
    .have hs:b.settled b.A9[n]=false:=by unfold BS.settled;rw[Bb];omega
     rw[Ac (by rw[hs];decide)] at ha;exact .next n rfl ⟨Ab,ha,rfl⟩ Ab
    .exact .Iv (n+1) rfl ⟨g (by unfold BS.settled;rw[Bf];omega),rfl⟩
    .exact .Iv (n+1) rfl ⟨g (by unfold BS.settled;rw[Bf];omega),rfl⟩
  .rintro n h1 ⟨rfl,O⟩;rw[O];by_cases hne:fs=[]
   .subst hne;have ha:b.A9=[]:=Ld.symm;have g:b.MZ=0:=by have:=Yr (b:=b);rw[ha] at this;exact Nat.le_zero.1 this
    have hb:b.Eb=b:=by unfold BS.Eb;rw[ha];simp only[List.drop_nil,BS.HH,List.take_nil,BG];rw[<-ha]
    obtain⟨u,f,hu⟩:=ź hcs h;have w1:=(w.Rz (u:=u) (l:=b.A9)).Yt;have d:=UX w1.wK (gz hu) rfl;have B:=Bu.Gi hu;have y:=w1.l3;rw[BK] at B;have hz:(b.MZ:Int)=((0:Nat):Int):=by rw[g]
    simp only[abS,l3,f.Ag,w.st (k:=3) (v0:=c) rfl (Bu.cells hu)];refine Hr (i:=2) (λn:Nat=>[I (n:Int)]) (λn h1=>n=0/\h1=Am.put h bi 3 u) (λn=>n) (λn h1=>n=0/\h1=Am.put h bi 3 u) 0 (by rw[hz]) ⟨rfl,rfl⟩ ?_ ?_;.rintro n h1 ⟨rfl,rfl⟩;simp only[abS,y,B,(Bj:¬((0:Nat):Int)<((0:Nat):Int))];exact .Iv 0 rfl ⟨rfl,rfl⟩
    .rintro n h1 ⟨rfl,rfl⟩;simp only[Cr,d];refine⟨_,rfl,rfl,o,u,G,?_,⟨[],by rw[hb,ha];rfl,hu⟩,B9.trans B9⟩;rw[hb];exact(w1.Rz (l:=b.A9)).Yt
   .have i0:=Ys.init (m:=m) w ok rm Ld;have f:=xq (h:=h) hcs hne Ab;have w0:=w.Kr (u:=[.cells (fs.map CN.row).flatten]);simp only[abS,l3,f.Ag,w0.st (k:=3) (v:= .CL h.length 0 fs.length 3) (v0:=c) rfl rfl];refine Hr (i:=2) (λn:Nat=>[I (n:Int)]) (λk h1=>Ys h bi a t G b fs h.length m k h1) (λk=>fs.length-k) (λk h1=>k=fs.length/\Ys h bi a t G b fs h.length m k h1) b.MZ rfl i0 ?_ ?_
    .intro k h1 i;have Eg:=i.le;have C:Ay (.len false) [.CL h.length 0 fs.length 3]=some (I (fs.length:Int)):=rfl;rcases Bg k fs.length with hlt|GW
     .obtain⟨r,h2,n,M,L,K,J,H,E,D⟩:=Ys.step Ld rm.Dy (Af _) hlt i;have d:Ay (.Gm 3) [.CL h.length 0 fs.length 3,I (k:Int)]=some (Pt h.length (k*3)):=EV hlt;simp only[abS,M,C,(Ab:(k:Int)<(fs.length:Int)),d,L,K.Ag,Dx,J.Ag,H,E,Ci (Ab:k<9223372036854775807)];exact .next (k+1) rfl D Ab
     .obtain⟨s,A,b1,JI,w1,_⟩:=i.ex;simp only[abS,w1.l3,C,(Ab:¬(k:Int)<(fs.length:Int))];exact .Iv k rfl ⟨Ab,i⟩
    .rintro k h1 ⟨rfl,i⟩;obtain⟨s,A,b1,JI,w1,qJ,D_,Vt,Wk,tz,g_,PF,q⟩:=i.ex;have hf:=Rk (SH JI) Vt;rw[As,Wk] at hf;have z:h.length≠bi:=λe=>PF (.inl e);have d:=UX w1.wK hf (by rw[An z]);have w2:BX (h1.set h.length .DK) bi a s _ t A b1:=w1.DU λj hj=>An λe=>PF (by rw[e];exact hj);simp only[Cr,d];have hb:b.Eb={b1 with A9:=JI.map (·.c)}:=by rw[g_,Bd Ab,AR Ab];simp only[BS.HH,BQ]
     refine⟨_,rfl,rfl,s,_,A,by rw[hb];exact w2.Rz,⟨JI,by rw[hb],.mk⟩,?_⟩;refine FD.trans ⟨by rw[Bv];exact q.len,λj hj hn=>?_,q.BE⟩ B9;rw[An Ab];exact q.old j hj hn
 obtain⟨r,h',hr,rfl,o',c',G',w',Rf,x'⟩:=NH.ret;exact⟨h',o',c',G',hr,w',Rf,x'⟩
end
def h_{id l k:Nat}(hl:0<l)(hk:k<=l):Ay (.PI 3 false false true) [.CL id 0 l 3,I (k:Int)]=some (.CL id 0 k 3):=by
 have d:FG (k:Int) l=some k:=by unfold FG;rw[Ad Ab];rfl
 simp[Ay,Km,D2,d];omega
def ic{id l k:Nat}(hk:k<=l):Ay (.PI 3 false true false) [.CL id 0 l 3,I (k:Int)]=some (if k<l then .CL id (k*3) (l-k) 3 else .sl 3 []):=by
 have d:FG (k:Int) l=some k:=by unfold FG;rw[Ad Ab];rfl
 simp[Ay,Km,D2,d];split<;>rfl
def Im{U:Type}{l:List U}{k:Nat}(hk:k<l.length):(Bk l k).length=l.length-1:=by unfold Bk;rw[Ap,Au,AV];omega
def ż{h:Ah}{id k:Nat}{Ao:List (List Aa)}(hr:∀r∈Ao,r.length=3)(hc:h[id]?=some (.cells Ao.flatten))(hk:k<Ao.length)(hb:Ao.length<=1000000000):
  ∃Gd,Cx cx 200 [.CL id 0 Ao.length 3,I (k:Int),I ((k+1:Nat):Int)] h (.CL id 0 (Ao.length-1) 3) (h.set id (.cells ((Bk Ao k).flatten++Gd))):=by
 have Hw:=(Ae.1 hc).1;have qH:=Im hk;have YR:=F6 hr;have s:∀r∈Bk Ao k,r.length=3:=λr hm=>hr r (by
  unfold Bk at hm;rcases Ak.1 hm with hm|hm
  .exact AN hm
  .exact A6 hm)
 have iL:=F6 s;rw[qH] at iL;have RR:(Ao.take k).flatten=Ao.flatten.take (k*3):=(Wy hr).symm;have ku:(Ao.drop (k+1)).flatten=Ao.flatten.drop ((k+1)*3):=(HA hr).symm;obtain⟨P7,v,hcl⟩:∃P7,FX h 3 48 (.CL id 0 k 3) (if k+1<Ao.length then .CL id ((k+1)*3) (Ao.length-(k+1)) 3 else .sl 3 [])=some (h.set id (.cells ((Bk Ao k).flatten++P7)),.CL id 0 (Ao.length-1) 3)/\P7.length=3:=by
  have f:Gv h 3 (if k+1<Ao.length then .CL id ((k+1)*3) (Ao.length-(k+1)) 3 else .sl 3 [])=some (Ao.drop (k+1)):=by
   by_cases V5:k+1<Ao.length;.rw[Ad V5];have j:=Wz hr (n:=Ao.length-(k+1)) (off:=k+1) Ab;rw[AR (by rw[AV];exact Af _)] at j;simp only[Gv,BH,hc,j];rw[Ad (by rw[YR];omega)]
   .rw[Ac V5,Bd Ab];rfl
  by_cases Ś:k+1=Ao.length
  .refine⟨Ao.flatten.drop (k*3),?_,by rw[AV,YR];omega⟩;have g:Ao.drop (k+1)=[]:=Bd Ab;rw[g] at f;have u:(Bk Ao k).flatten++Ao.flatten.drop (k*3)=Ao.flatten:=by unfold Bk;rw[g,BQ,RR,BM]
   have A:h.set id (.cells ((Bk Ao k).flatten++Ao.flatten.drop (k*3)))=h:=by rw[u];obtain⟨YP,z⟩:=Ae.1 hc;rw[<-z,Iq]
   simp only[FX,f,BH];rw[A,(Ab:Ao.length-1=k)]
  .obtain⟨y,q,hd⟩:∃y q,Ao.drop (k+1)=y::q:=⟨_,_,AA (Ab:k+1<Ao.length)⟩;have lQ:(y::q).length=Ao.length-(k+1):=by rw[<-hd,AV]
   refine⟨Ao.flatten.drop ((Ao.length-1)*3),?_,by rw[AV,YR];omega⟩;rw[hd] at f;simp only[FX,f,hc,BH];rw[lQ,Ad (by rw[YR];omega)];rw[<-hd,ku,BC,BC,(Ab:k+(Ao.length-(k+1))=Ao.length-1)];unfold Bk;rw[Ju,RR,ku]
 generalize mz:h.set id (.cells ((Bk Ao k).flatten++P7))=h2 at v;have JB:h2[id]?=some (.cells ((Bk Ao k).flatten++P7)):=by rw[<-mz];exact AH Hw
 have gD:((Bk Ao k).flatten++P7).length=Ao.length*3:=by rw[Ap,iL,hcl];omega
 have g:EC (.mF 3 true true) h2 [.CL id 0 (Ao.length-1) 3,I ((Ao.length-1:Nat):Int),I (Ao.length:Int)]=some (h2,.CL id ((Ao.length-1)*3) 1 3):=by
  simp only[EC,YW,JB];have B:FG (Ao.length:Int) ((((Bk Ao k).flatten++P7).length-0)/3)=some Ao.length:=by unfold FG;rw[Ad (by rw[gD];omega)];rfl
  have j:FG ((Ao.length-1:Nat):Int) Ao.length=some (Ao.length-1):=by unfold FG;rw[Ad Ab];rfl
  rw[Ad ⟨trivial,trivial,A7 _⟩];simp only[D2,B,j,B5,BU];rw[Ad (by rw[gD];omega)];congr 3
  .omega
  .omega
 have w:EC (.clear 3 [I 0,S [],.slnil]) h2 [.CL id ((Ao.length-1)*3) 1 3]=some (h.set id (.cells ((Bk Ao k).flatten++[I 0,S [],.slnil])),.bool true):=by
  simp only[EC,Tk,JB];rw[Ad ⟨trivial,rfl,by rw[gD];omega⟩];congr 2
  rw[<-mz,ze];congr 2
  rw[Ia iL,Bd (by rw[gD];omega)];simp
 refine⟨[I 0,S [],.slnil],?_⟩;have d:∀i n,Ay (.len false) [.CL i 0 n 3]=some (I (n:Int)):=λ_ _=>rfl;have u:EC (.bZ 3) h [.CL id 0 Ao.length 3,I (k:Int),I ((k+1:Nat):Int),I (Ao.length:Int)]=some (h,.bool true):=by simp only[EC,Tl];simp;omega
 rw[Aj,fg,Ĵ];simp only[abS,d,u,(Ab:¬(k:Int)=((k+1:Nat):Int)),h_ (id:=id) (Ab:0<Ao.length) (Ab:k<=Ao.length),ic (id:=id) (Ab:k+1<=Ao.length),v,g,w]
def QB{z:Nat}:∀{Ao:List (List Aa)} {cs QY:List Aa},(∀r∈Ao,r.length=z)->Cg (QY++(Ao.flatten++cs)) z QY.length Ao.length=Ao
 |[],_,_,_=>rfl
 |x::Ao,cs,QY,h=>by have hx:=h x Aw;have:=QB (Ao:=Ao) (cs:=cs) (QY:=QY++x) (λr hr=>h r (by simp[hr]));simp only[AB,Ap,hx] at this;simp only[Cy,AU,Cg,AB];rw[J4 rfl,Ia hx,this]
def gJ{h:Ah}{id z:Nat}{Ao:List (List Aa)}{cs:List Aa}(hr:∀r∈Ao,r.length=z)(hc:h[id]?=some (.cells (Ao.flatten++cs))):LA h (.CL id 0 Ao.length z)=some (h.set id .DK,.sl z Ao):=by unfold LA;simp only[hc,BC];have:=QB (cs:=cs) (QY:=[]) hr;simp only[BG,BK] at this;rw[Ad (by rw[Ap,F6 hr];omega),this]
def E3(e:CN)(at_ mk:Int)(anc far:Item)(last:Int):List Aa:=
 [I e.c.node,.str e.c.name,e.v,I at_,I mk,I anc.node,I anc.AW,.str anc.name,.bool anc.NS,I far.node,I far.AW,.str far.name,.bool far.NS,I last]
def La(ai bi:Nat)(G:Nat->Prop):Nat->Prop:=λi=>i=ai\/BE bi G i
section
variable{h h':Ah}{bi a ai:Nat}{o c t:Aa}{G G' F:Nat->Prop}{b b':BS}{x:Int}{m:Nat}
variable{nm:Aq}{av:Aa}{l:List A3}{r:List Aa}{sp p:Int}{e:CN}{at_ mk last:Int}{anc far:Item}
def Er(x:FD h (BE bi G) h' (BE bi G'))(ai:Nat):FD h (La ai bi G) h' (La ai bi G'):=
 ⟨x.len,λi hi hn=>x.old i hi λhg=>hn (.inr hg),λi hi=>by
  rcases hi with hi|hi
  .exact .inl (.inl hi)
  .rcases x.BE i hi with h|h
   .exact .inl (.inr h)
   .exact .inr h⟩
def N4{k:Nat}{v:Aa}:FD h (Am.La ai bi G) (put h ai k v) (Am.La ai bi G):=⟨by rw[Lo];exact Af _,λi _ hn=>CQ λe=>hn (.inl e),λ_ h=> .inl h⟩
def Jr{id k:Nat}{v:Aa}{cs:List Aa}(hc:h[id]?=some (.cells cs)):(put h id k v)[id]?=some (.cells (cs.set k v)):=by rw[HP hc,AH (Ae.1 hc).1]
def down(k:Nat)(x:Int):Int:=if(k:Int)<x then x-1 else x
def lW(w:BX h bi a o c t G b)(hc:Dj b.A9 c)(rm:Ct b m)(ha:h[ai]?=some (.cells (E3 e at_ mk anc far last)))(hn:¬BE bi G ai){k:Nat}(hk:k<b.A9.length)(h1:0<=at_/\at_<=1000000000)(h2:0<=mk/\mk<=1000000000):
  ∃h' c',Cx cx 163 [Pt ai 0,Pt bi 0,I (k:Int)] h (.tuple []) h'/\BX h' bi a o c' t G {b with A9:=Bk b.A9 k}/\Dj (Bk b.A9 k) c'/\h'[ai]?=some (.cells (E3 e (down k at_) (down k mk) anc far last))/\FD h (La ai bi G) h' (La ai bi G):=by
 obtain⟨fs,Ld,hcs⟩:=hc;have bS:=rm.A9;have HV:b.A9.length=fs.length:=by rw[<-Ld,As]
 have hne:fs≠[]:=by intro e;rw[HV,e] at hk;exact absurd hk (Nat.not_lt_zero _)
 have qK:ai≠bi:=λe=>hn (.inl e);have E_:ai<h.length:=(Ae.1 ha).1;have A:=xq (h:=h) hcs hne Ab;have hX:(h++[DJ.cells (fs.map CN.row).flatten])[h.length]?=some (.cells (fs.map CN.row).flatten):=Aw;obtain⟨Gd,r2⟩:=ż (SH fs) hX (k:=k) ER ER;rw[As] at r2;have e2:(h++[DJ.cells (fs.map CN.row).flatten]).set h.length (.cells ((Bk (fs.map CN.row) k).flatten++Gd))=h++[.cells ((Bk (fs.map CN.row) k).flatten++Gd)]:=by rw[B6 _ _ (Af _),DY];rfl
 rw[e2] at r2;generalize y:h++[DJ.cells ((Bk (fs.map CN.row) k).flatten++Gd)]=H at r2;have w1:BX H bi a o c t G b:=by rw[<-y];exact w.Kr
 have sU:H[ai]?=some (.cells (E3 e at_ mk anc far last)):=by rw[<-y,Al E_];exact ha
 have O:H[h.length]?=some (.cells ((Bk (fs.map CN.row) k).flatten++Gd)):=by rw[<-y];simp
 have hL:H.length=h.length+1:=by rw[<-y];simp
 have X:FD h (La ai bi G) H (La ai bi G):=by rw[<-y];exact Er w.DT ai
 have ï:bi≠h.length:=Nn w.lt;have Xr:ai≠h.length:=Nn E_;have z:=w1.st (k:=3) (v:= .CL h.length 0 (fs.length-1) 3) (v0:=c) rfl rfl;have w2:=w1.Rz (u:= .CL h.length 0 (fs.length-1) 3) (l:=b.A9);have Pf:(put H bi 3 (.CL h.length 0 (fs.length-1) 3))[ai]?=some (.cells (E3 e at_ mk anc far last)):=by rw[CQ qK];exact sU
 have N:(put H bi 3 (.CL h.length 0 (fs.length-1) 3))[h.length]?=some (.cells ((Bk (fs.map CN.row) k).flatten++Gd)):=by rw[CQ (DX ï)];exact O
 have W:FD h (La ai bi G) (put H bi 3 (.CL h.length 0 (fs.length-1) 3)) (La ai bi G):=X.trans (Er B9 ai);generalize P:put H bi 3 (.CL h.length 0 (fs.length-1) 3)=f at*;have hL2:f.length=h.length+1:=by rw[<-P,Lo,hL]
 have t3:At f ai 3 (I at_):=⟨_,Pf,rfl⟩;have sY:=Jr (k:=3) (v:= I (down k at_)) Pf;have C:put f ai 3 (I (down k at_))=if(k:Int)<at_ then put f ai 3 (I (at_-1)) else f:=by
  unfold down;split;.rfl
  .exact t3.same
 have Z:BX (put f ai 3 (I (down k at_))) bi a o _ t G _:=w2.DU λj hj=>CQ λe=>hn (e▸hj);have M:(put f ai 3 (I (down k at_)))[h.length]?=_:=(CQ (DX Xr)).trans N;have V:=W.trans (N4 (k:=3) (v:= I (down k at_)));generalize hH3:put f ai 3 (I (down k at_))=d at*;have t4:At d ai 4 (I mk):=⟨_,sY,rfl⟩;have K:=Jr (k:=4) (v:= I (down k mk)) sY;have q:put d ai 4 (I (down k mk))=if(k:Int)<mk then put d ai 4 (I (mk-1)) else d:=by
  unfold down;split;.rfl
  .exact t4.same
 have R:BX (put d ai 4 (I (down k mk))) bi a o _ t G _:=Z.DU λj hj=>CQ λe=>hn (e▸hj);have L:(put d ai 4 (I (down k mk)))[h.length]?=_:=(CQ (DX Xr)).trans M;have D:=V.trans (N4 (k:=4) (v:= I (down k mk)));generalize hH4:put d ai 4 (I (down k mk))=Q at*;have J:∀r∈Bk (fs.map CN.row) k,r.length=3:=λr hm=>SH fs r (by
  unfold Bk at hm;rcases Ak.1 hm with hm|hm
  .exact AN hm
  .exact A6 hm)
 have f4:=gJ J L;rw[Im ER,As] at f4;have B:=UX R.wK f4 (by rw[An (DX ï)]);have Y:BX (Q.set h.length .DK) bi a o _ t G {b with A9:=b.A9}:=R.DU λj hj=>An λe=>by
  subst e;rcases hj with hj|hj
  .exact ï hj.symm
  .exact absurd (w.w.lt hj) (C8 _)
 have ed:Bk (fs.map CN.row) k=(Bk fs k).map CN.row:=by unfold Bk;rw[BV,Ie,LV]
 have ec:(Bk fs k).map (·.c)=Bk b.A9 k:=by unfold Bk;rw[BV,Ie,LV,Ld]
 refine⟨_,.sl 3 (Bk (fs.map CN.row) k),?_,Y.Rz (l:=Bk b.A9 k),⟨Bk fs k,ec,by rw[ed];exact .mk⟩,?_,?_⟩
 .have i:Bq f none (Pt ai 3)=some (I at_):=t3.load;have g:Bq d none (Pt ai 4)=some (I mk):=t4.load;have inc:=Ci (Ab:k<9223372036854775807);have U:=Em (Ab: -9223372036854775808<=at_-1) (Ab:at_-1<9223372036854775808);have T:=Em (Ab: -9223372036854775808<=mk-1) (Ab:mk-1<9223372036854775808);rw[Aj,dm,ĩ];by_cases s:(k:Int)<at_
  .rw[Ad s] at C;have S:CM f 1 (Pt ai 3) (I (at_-1))=some d:=by rw[C];exact t3.store rfl
   by_cases n:(k:Int)<mk
   .rw[Ad n] at q;have E:CM d 1 (Pt ai 4) (I (mk-1))=some Q:=by rw[q];exact t4.store rfl
    simp only[abS,w.l3,A.Ag,inc,r2.Ag,z,i,s,U,S,g,n,T,E,B]
   .rw[Ac n] at q;subst q;simp only[abS,w.l3,A.Ag,inc,r2.Ag,z,i,s,U,S,g,n,B]
  .rw[Ac s] at C;subst C;by_cases n:(k:Int)<mk
   .rw[Ad n] at q;have E:CM d 1 (Pt ai 4) (I (mk-1))=some Q:=by rw[q];exact t4.store rfl
    simp only[abS,w.l3,A.Ag,inc,r2.Ag,z,i,s,g,n,T,E,B]
   .rw[Ac n] at q;subst q;simp only[abS,w.l3,A.Ag,inc,r2.Ag,z,i,s,g,n,B]
 .rw[CQ qK,An (DX Xr),K];rfl
 .refine FD.trans ⟨by rw[Bv];exact D.len,λj hj hn=>?_,D.BE⟩ (Er B9 ai);rw[An Ab];exact D.old j hj hn
end
section
variable{U:Type}{q:U->Bool}{l:List U}
def KU{p:Nat}(hp:p<l.length)(h1:q l[p]=true)(h2:∀j (hj:j<l.length),p<j->q l[j]=false):AG q l=(p:Int):=by
 rcases CV (q:=q) (l:=l) with⟨e,h⟩|⟨n,hn,e,d,f⟩
 .rw[h _ (AJ hp)] at h1;exact absurd h1 Bj
 .rcases bJ n p with h|h|h
  .have:=f p hp h;rw[this] at h1;exact absurd h1 Bj
  .rw[e,h]
  .have:=h2 n hn h;rw[this] at d;exact absurd d Bj
def JZ{p:Nat}(e:AG q l=(p:Int)):∃hp:p<l.length,q l[p]=true/\∀j (hj:j<l.length),p<j->q l[j]=false:=by
 rcases CV (q:=q) (l:=l) with⟨g,h⟩|⟨n,hn,g,f,d⟩
 .omega
 .have:n=p:=by omega
  subst this;exact⟨hn,f,λj hj h=>d j hj h⟩
def aP{k j:Nat}(hk:k<l.length):(Bk l k)[j]?=if j<k then l[j]? else l[j+1]?:=by
 unfold Bk;by_cases h:j<k;.rw[Ad h,Al (by rw[Au];omega),B3,Ad h]
 .rw[Ac h,Bp (by rw[Au];omega),Cm];congr 1
  rw[Au];omega
def M5{k j:Nat}(hk:k<l.length)(hj:j<(Bk l k).length):(Bk l k)[j]=if h:j<k then l[j]'(by omega) else l[j+1]'(by rw[Im hk] at hj;omega):=by
 have hl:=Im hk;have:=aP (j:=j) hk;rw[Ai hj] at this;by_cases h:j<k;.rw[bI h];rw[Ad h,Ai Ab] at this;exact Ew this
 .rw[za h];rw[Ac h,Ai Ab] at this;exact Ew this
def Yv{p k:Nat}(e:AG q l=(p:Int))(hk:k<l.length)(hne:k≠p):AG q (Bk l k)=down k p:=by
 obtain⟨hp,h1,h2⟩:=JZ e;have hl:=Im hk;unfold down;by_cases d:k<p
 .rw[Ad Ab,(Ab:(p:Int)-1=((p-1:Nat):Int))];refine KU Ab ?_ ?_;.rw[M5 hk,za Ab];have:p-1+1=p:=Ab;simp only[this,h1]
  .intro j hj h;rw[M5 hk,za Ab];exact h2 _ _ Ab
 .rw[Ac Ab];refine KU Ab ?_ ?_;.rw[M5 hk,bI Ab];exact h1
  .intro j hj h;rw[M5 hk];split;.exact h2 _ _ h
   .exact h2 _ _ Ab
def aQ{p k:Nat}{x:U}(e:AG q l=(p:Int))(hne:k≠p)(hx:q x=false):AG q (l.set k x)=(p:Int):=by
 obtain⟨hp,h1,h2⟩:=JZ e;refine KU (by rw[Bv];exact hp) ?_ ?_;.rw[List.getElem_set_ne hne];exact h1
 .intro j hj h;rw[List.getElem_set];split;.exact hx
  .rw[Bv] at hj;exact h2 j hj h
end
def Yw{l:List Item}(hn:(l.map Item.node).Nodup){i:Nat}(hi:i<l.length):AG (Br l[i].node) l=(i:Int):=by
 refine KU hi (by simp[Br]) λj hj h=>?_;by_cases he:l[i].node=l[j].node
 .have h2:(l.map Item.node)[i]'(by simpa using hi)=(l.map Item.node)[j]'(by simpa using hj):=by simpa using he
  exact absurd h2 (Jg.1 hn i j (by simpa using hi) (by simpa using hj) h)
 .unfold Br;simpa using λe=>he e.symm
def J0{n:Int}{l:List B8}(h:0<=FF n l):∃p:Nat,∃hp:p<l.length,FF n l=(p:Int)/\n≠0/\l[p].node=n/\AG (UA n) l=(p:Int):=by
 unfold FF at h⊢;split at h;.omega
 .rename_i h0;rw[Ac h0];obtain⟨p,hp⟩:∃p:Nat,AG (UA n) l=(p:Int):=⟨_,(Jw h).symm⟩;obtain⟨h1,h2,_⟩:=JZ hp;exact⟨p,h1,hp,h0,by simpa[UA] using h2,hp⟩
def pE{n:Int}{l:List B8}{k:Nat}(h:0<=FF n l)(hk:k<l.length)(hne:l[k].node≠n):FF n (Bk l k)=down k (FF n l):=by obtain⟨p,hp,e,h0,h1,h2⟩:=J0 h;rw[e,<-Yv h2 hk (by rintro rfl;exact hne h1)];unfold FF;rw[Ac h0]
def wY{n:Int}{l:List B8}{k:Nat}{x:B8}(h:0<=FF n l)(hk:k<l.length)(hne:l[k].node≠n)(hx:x.node≠n):FF n (l.set k x)=FF n l:=by obtain⟨p,hp,e,h0,h1,h2⟩:=J0 h;rw[e,<-aQ (x:=x) (k:=k) h2 (by rintro rfl;exact hne h1) (by simp[UA];exact hx)];unfold FF;rw[Ac h0]
def pF{n:Int}{l:List B8}(hn:((l.map B8.node).filter λn=>decide (n≠0)).Nodup)(h:0<=FF n l):FF n (Bk l (FF n l).toNat)<0:=by
 obtain⟨p,hp,e,h0,h1,h2⟩:=J0 h;rw[e,Bn];refine Int.not_le.1 λi=>?_;obtain⟨g,f,j,_,d,_⟩:=J0 i;have:l=l.take p++l[p]::l.drop (p+1):=by rw[<-AA hp,BM]
 rw[this,BV,Bi,DP,Gr,Ad (by simpa[h1] using h0),BF,BL] at hn;have hm:=AJ f;generalize(Bk l p)[g]=y at hm d;unfold Bk at hm;rcases Ak.1 hm with hm|hm
 .exact hn.2.2 y.node (CG.2 ⟨VT hm,by simpa[d] using h0⟩) l[p].node Aw (by rw[d,h1])
 .exact hn.2.1.1 (CG.2 ⟨by rw[h1,<-d];exact VT hm,by simpa[h1] using h0⟩)
section
variable{h h':Ah}{bi a ai:Nat}{o c t:Aa}{G G' F:Nat->Prop}{b b':BS}{x:Int}{m:Nat}
variable{nm:Aq}{av:Aa}{l:List A3}{r:List Aa}{sp p:Int}{e:CN}{at_ mk last:Int}{anc far:Item}
def UY{blk anc:Int}{far i:Nat}{l:Int}{mk m:Nat}(r:Ct b (m+4)):Ct (BS.E7 blk anc far i b l mk).1 m:=by
 unfold BS.E7;simp only
 split;.exact(r.le Ab).sub rfl Ck (AF _) (Af _)
 .split;.exact(r.le Ab).sub rfl Ck Ck (Af _)
  .rename_i he _;obtain⟨p,hp,f,_,_,_⟩:=J0 (RG.1 he);rw[f,Bn,Ax,Ai hp,LP];have Ov:=r.Dy _ (AJ hp);have d:=Kv (m:=m+1) (nm:=b.A9[p].name) (l:=b.A9[p].Av) (sp:=1) (p:=anc) (r.le Ab) Ov.2;have r2:=(d.le (m':=m) Ab).JU (KA (p:=(b.HG b.A9[p].name b.A9[p].Av 1).node) (x:=l) (bf:=0));refine⟨r2.n,r2.at_,r2.data,by simp only[Bv];exact r2.AO,by simp only[Bv];exact r2.A9,r2.tm,λe he=>?_,λi hi=>?_⟩
   .rcases CU he with he|rfl
    .exact r2.Dy e he
    .exact Ov
   .rcases CU hi with hi|rfl
    .exact r2.aB i hi
    .exact N0 Ov.1
end
def RC{A:Ar}{x p bf:Int}(h:(A.nd p).kind=4):A.Dn x p bf=A.D9 p x bf:=by unfold Ar.Dn;rw[Ac (by rw[h];intro h;exact absurd h.1 Bj)]
section
variable{h h':Ah}{bi a ai:Nat}{o c t:Aa}{G G' F:Nat->Prop}{b b':BS}{x:Int}{m:Nat}
variable{nm:Aq}{av:Aa}{l:List A3}{r:List Aa}{sp p:Int}{e:CN}{at_ mk last:Int}{anc far:Item}
def Dj.at(hc:Dj b.A9 c)(w:BX h bi a o c t G b)(rm:Ct b m)(n:Int):Cx cx 114 [Pt bi 3,I n] h (I (FF n b.A9)) h:=by obtain⟨fs,Ld,hv⟩:=hc;have ha:=rm.A9;have:=f41 w.wK hv (by rw[<-Ld,As] at ha;omega) n;rwa [aL,Ld] at this
structure aR(h:Ah)(bi a ai:Nat)(t:Aa)(G0:Nat->Prop)(fe:CN)(anc far:Item)(k N m:Nat)(s0:BS×Int×Nat)(n:Nat)(h1:Ah)(o c:Aa)(G:Nat->Prop)(s:BS×Int×Nat):Prop where
 le:n<=N
 w:BX h1 bi a o c t G s.1
 hc:Dj s.1.A9 c
 ok:Dz s.1
 rm:Ct s.1 (m+4*n)
 last:s.1.a.has s.2.1
 st:h1[ai]?=some (.cells (E3 fe (FF fe.c.node s.1.A9) (s.2.2:Int) anc far s.2.1))
 hn:¬BE bi G ai
 x:FD h (La ai bi G0) h1 (La ai bi G)
 qA:0<=FF fe.c.node s.1.A9
 Ž:s.2.2<=1000000000
 AO:s.1.AO.take (k+n+1)=s0.1.AO.take (k+n+1)
 len:k+n+1<=s.1.AO.length
 eq:BS.JT far.node anc.node (k+1+N) k N s0=BS.JT far.node anc.node (k+1+N) k n s
 fe:s.1.a.has fe.c.node
def pG{blk anc:Int}{far i:Nat}{l:Int}{mk:Nat}(hi:i<b.AO.length):(BS.E7 blk anc far i b l mk).1.AO.take i=b.AO.take i/\i<=(BS.E7 blk anc far i b l mk).1.AO.length:=by
 have h1:(Bk b.AO i).take i=b.AO.take i/\i<=(Bk b.AO i).length:=by refine⟨?_,by rw[Im hi];omega⟩;unfold Bk;rw[Di (by rw[Au];omega),GD,Nat.min_self]
 unfold BS.E7;simp only
 split;.exact h1
 .split;.exact h1
  .have OD:∀nm l p,(b.DA nm l 1 p).AO=b.AO:=λnm l p=>by unfold BS.DA;rw[Ad K9]
   simp only[OD];exact⟨VO (Af i),by rw[Bv];omega⟩
def aR.step{h1 h2:Ah}{C D A z:Aa}{B u:Nat->Prop}{fe:CN}{k N n:Nat}{s0 s s':BS×Int×Nat}(i:aR h bi a ai t G fe anc far k N m s0 (n+1) h1 C D B s)(e:s'=BS.E7 far.node anc.node (k+1+N) (k+(n+1)) s.1 s.2.1 s.2.2)
  (w:BX h2 bi a A z t u s'.1) (hc:Dj s'.1.A9 z) (st:h2[ai]?=some (.cells (E3 fe (FF fe.c.node s'.1.A9) (s'.2.2:Int) anc far s'.2.1))) (hn:¬BE bi u ai) (x:FD h1 (La ai bi B) h2 (La ai bi u)) (qA:0<=FF fe.c.node s'.1.A9) (mk:s'.2.2<=1000000000):
  aR h bi a ai t G fe anc far k N m s0 n h2 A z u s':=by
 obtain⟨g,last',j⟩:=Qs (blk:=far.node) (anc:=anc.node) (far:=k+1+N) (i:=k+(n+1)) (m:=s.2.2) i.ok i.last;have hl:=i.len;obtain⟨f,v⟩:=pG (blk:=far.node) (anc:=anc.node) (far:=k+1+N) (i:=k+(n+1)) (l:=s.2.1) (mk:=s.2.2) (b:=s.1) Ab;have d:=UY (blk:=far.node) (anc:=anc.node) (far:=k+1+N) (i:=k+(n+1)) (l:=s.2.1) (mk:=s.2.2) (m:=m+4*n) (i.rm.le Ab);have OD:=i.AO;have y:BS.JT far.node anc.node (k+1+N) k (n+1) s=BS.JT far.node anc.node (k+1+N) k n (BS.E7 far.node anc.node (k+1+N) (k+(n+1)) s.1 s.2.1 s.2.2):=rfl;have q:=i.eq.trans y;rw[<-e] at g last' j f v d q;refine⟨by have:=i.le;omega,w,hc,g,d,last',st,hn,i.x.trans x,qA,mk,?_,Ab,q,j.has _ i.fe⟩;have:=Ca (λl=>l.take (k+(n+1))) OD;simp only[GD] at this;rw[(Ab:k+n+1=k+(n+1)),f];rwa [Ce Ab] at this
def ž{fe:CN}{k N:Nat}{s0:BS×Int×Nat}(i0:aR h bi a ai t G fe anc far k N m s0 N h o c G s0)(Y3:1<=k)(V5:AG (Br fe.c.node) s0.1.AO=(k:Int))(hN:k+1+N<s0.1.AO.length):
  ∃h' o' c' G' s',Cx cx 166 [Pt bi 0,Pt ai 0,I (k:Int),I ((k+1+N:Nat):Int)] h (.tuple []) h'/\s'=BS.JT far.node anc.node (k+1+N) k N s0/\aR h bi a ai t G fe anc far k N m s0 0 h' o' c' G' s':=by
 have ho:=i0.rm.AO;have NH:Ev cx 166 [Pt bi 0,Pt ai 0,I (k:Int),I ((k+1+N:Nat):Int)] h λr h'=>r= .tuple []/\∃o' c' G' s',s'=BS.JT far.node anc.node (k+1+N) k N s0/\aR h bi a ai t G fe anc far k N m s0 0 h' o' c' G' s':=by
  unfold Ev;rw[dv,ī];have i1:=Em (a:=((k+1+N:Nat):Int)) (b:=1) Ab Ab;rw[(Ab:((k+1+N:Nat):Int)-1=((k+N:Nat):Int))] at i1;simp only[Cr,i1];refine BI (λn:Nat=>[I ((N-n:Nat):Int),I ((k+n:Nat):Int)]) (λn h1=>∃o c G1 s,aR h bi a ai t G fe anc far k N m s0 n h1 o c G1 s) (λn=>n) N (by rw[DY];rfl) ⟨o,c,_,s0,i0⟩ ?_;rintro n h1 ⟨o1,c1,G1,s,i⟩;cases n with
  |zero=>simp only[abS,↓reduceIte,(Ab:¬(k:Int)<(k:Int))];exact⟨_,rfl,rfl,o1,c1,G1,s,i.eq.symm,i⟩
  |succ n=>
   have hnN:=i.le;have hlen:=i.len;have y:k+(n+1)<s.1.AO.length:=Ab;have hwo:=i.rm.AO;have hwa:=i.rm.A9;have qK:ai≠bi:=λe=>i.hn (.inl e);have E_:ai<h1.length:=(Ae.1 i.st).1;have H:=UL i.w.sA ((k+(n+1):Nat):Int);rw[IA y] at H;have S:=Yw i.ok.qE y;have hxf:s.1.AO[k+(n+1)].node≠fe.c.node:=by have h2:=Ca (λl=>l[k+(n+1)]?) i.AO;simp only[B3] at h2;rw[Ad Ab,Ad Ab,Ai y,Ai Ab] at h2;obtain⟨_,_,J⟩:=JZ V5;have g:=J (k+(n+1)) Ab Ab;rw[Ew h2];intro h5;unfold Br at g;rw[h5] at g;simp at g
   have wZ:s.1.AO.getD (k+(n+1)) Item.zero=s.1.AO[k+(n+1)]:=by rw[Ax,Ai y];rfl
   generalize s.1.AO[k+(n+1)]=x at*;have r2:=i.hc.at i.w i.rm x.node;obtain⟨q,hq,gp,hq0,hq2,hq3⟩:=J0 i.qA;have inc:Ay (.int .add) [I ((N-(n+1):Nat):Int),I 1]=some (I ((N-n:Nat):Int)):=by have:=Ci (n:=N-(n+1)) Ab;rwa [(Ab:N-(n+1)+1=N-n)] at this
   have dec:Ay (.int .sub) [I ((k+(n+1):Nat):Int),I 1]=some (I ((k+n:Nat):Int)):=by have:=LJ (n:=k+(n+1)) Ab Ab;rwa [(Ab:k+(n+1)-1=k+n)] at this
   have ſ:(k:Int)<((k+(n+1):Nat):Int):=Ab;have U:∀l:List Item,l=s.1.AO->DS x.node l=Bk l (k+(n+1)):=by intro l e;subst e;unfold DS;rw[S,Ac Ab,Bn]
   by_cases he:FF x.node s.1.A9<0
   .obtain⟨u,A,hu⟩:=xo i.w.sO Ab x.node;rw[U _ rfl] at hu;have w2:=i.w.N3 hu;have es:({s.1 with AO:=Bk s.1.AO (k+(n+1))},s.2.1,s.2.2)=BS.E7 far.node anc.node (k+1+N) (k+(n+1)) s.1 s.2.1 s.2.2:=by unfold BS.E7;simp only[wZ];rw[Ad he]
    have B:=i.step es w2 i.hc ((CQ qK).trans i.st) i.hn (Er B9 ai) i.qA i.Ž;by_cases Wm:(3:Int)<((N-n:Nat):Int);.simp only[abS,↓reduceIte,IH,ſ,H.Ag,inc,r2.Ag,Wm,he,(Ab:¬(0:Int)<=FF x.node s.1.A9),A.Ag,dec];exact A8.next n rfl ⟨_,_,_,_,B⟩ Ab
    .simp only[abS,↓reduceIte,IH,ſ,H.Ag,inc,r2.Ag,Wm,he,A.Ag,dec];exact A8.next n rfl ⟨_,_,_,_,B⟩ Ab
   .obtain⟨p,hp,ep,hx0,qI,hp3⟩:=J0 (RG.1 he);have GW:(0:Int)<=(p:Int):=Ab;rw[ep] at r2;have V:s.1.A9[p].node≠fe.c.node:=by rw[qI];exact hxf
    have C:(FF x.node s.1.A9).toNat=p:=by rw[ep,Bn]
    by_cases Wm:(3:Int)<((N-n:Nat):Int)
    .obtain⟨h2,c2,A,w2,JB,nj,D⟩:=lW i.w i.hc i.rm i.st i.hn hp ⟨i.qA,Ab⟩ ⟨Ab,by have:=i.Ž;omega⟩;have gG:Ct {s.1 with A9:=Bk s.1.A9 p} (m+4*(n+1)):=i.rm.sub rfl (AF _) Ck (Af _);have r4:=Dj.at (b:={s.1 with A9:=Bk s.1.A9 p}) JB w2 gG x.node;have iR:FF x.node (Bk s.1.A9 p)<0:=by have:=pF (n:=x.node) i.ok.qF (RG.1 he);rwa [C] at this
     obtain⟨u,Z,hu⟩:=xo w2.sO Hc x.node;rw[U _ rfl] at hu;have K:=w2.N3 hu;have xA:(((if p<s.2.2 then s.2.2 -1 else s.2.2:Nat)):Int)=down p (s.2.2:Int):=by unfold down;split<;>split<;>omega
     have es:({s.1 with A9:=Bk s.1.A9 p,AO:=Bk s.1.AO (k+(n+1))},s.2.1,if p<s.2.2 then s.2.2 -1 else s.2.2)=BS.E7 far.node anc.node (k+1+N) (k+(n+1)) s.1 s.2.1 s.2.2:=by unfold BS.E7;simp only[wZ];rw[Ac he,Ad (Ab:k+(n+1)+3<k+1+N),C]
     have aAa:=pE i.qA hp V;have hd0:0<=down p (FF fe.c.node s.1.A9):=by unfold down;split<;>omega
     have B:=i.step es K JB (by rw[CQ qK,nj];simp only;rw[aAa,xA]) i.hn (D.trans (Er B9 ai)) (by simp only;rw[aAa];exact hd0) (by have:=i.Ž;simp only;split<;>omega);simp only[abS,↓reduceIte,IH,ſ,H.Ag,inc,r2.Ag,Wm,GW,A.Ag,r4.Ag,iR,Z.Ag,dec];exact A8.next n rfl ⟨_,_,_,_,B⟩ Ab
    .obtain⟨fs,Ld,hv⟩:=i.hc;have HV:s.1.A9.length=fs.length:=by rw[<-Ld,As]
     have aD1:p<fs.length:=Ab;have Y:fs[p].c=s.1.A9[p]:=by simp only[<-Ld,C5]
     have l3:=i.w.l3;have e1:=Bu.DC (k:= .i64) hv aD1;have l5:Bq h1 none (Pt ai 5)=some (I anc.node):=At.load ⟨_,i.st,rfl⟩;obtain⟨r,A,hr⟩:=wX fs[p] h1;have Ov:=i.rm.Dy _ (AJ hp);rw[<-Y] at Ov;obtain⟨h2,G2,r4,w2,D⟩:=wM (m:=m+4*n) i.w i.ok.ba (i.rm.le Ab) hr fs[p].ok Ov.2 Ov.1 anc.node 1;obtain⟨xz,f,le2⟩:=JV (nm:=fs[p].c.name) (at_:=fs[p].c.Av) (p:=anc.node) i.ok K9;have gG:=Kv (m:=m+4*n+1) (nm:=fs[p].c.name) (l:=fs[p].c.Av) (sp:=1) (p:=anc.node) (i.rm.le Ab) Ov.2;have OD:(s.1.DA fs[p].c.name fs[p].c.Av 1 anc.node).AO=s.1.AO:=by unfold BS.DA;rw[Ad K9]
     have bS:(s.1.DA fs[p].c.name fs[p].c.Av 1 anc.node).A9=s.1.A9:=by unfold BS.DA;rw[Ad K9]
     have X:BS.E7 far.node anc.node (k+1+N) (k+(n+1)) s.1 s.2.1 s.2.2=({s.1.DA fs[p].c.name fs[p].c.Av 1 anc.node with a:=(s.1.DA fs[p].c.name fs[p].c.Av 1 anc.node).a.D9 (s.1.HG fs[p].c.name fs[p].c.Av 1).node s.2.1 0,AO:=(s.1.DA fs[p].c.name fs[p].c.Av 1 anc.node).AO.set (k+(n+1)) (s.1.HG fs[p].c.name fs[p].c.Av 1),A9:=(s.1.DA fs[p].c.name fs[p].c.Av 1 anc.node).A9.set p {fs[p].c with node:=(s.1.HG fs[p].c.name fs[p].c.Av 1).node}},(s.1.HG fs[p].c.name fs[p].c.Av 1).node,if s.2.1=far.node then p+1 else s.2.2):=by unfold BS.E7;simp only[wZ];rw[Ac he,Ac Ab,C,Ax,Ai hp,LP,<-Y]
     have q9:=Ou i.ok f;have hna:=Ru i.ok f;have hnf:(s.1.HG fs[p].c.name fs[p].c.Av 1).node≠fe.c.node:=λe2=>f.new (by rw[e2];exact i.fe);have aD3:=le2.has _ i.last;have aD4:(s.1.HG fs[p].c.name fs[p].c.Av 1).name.length<=1000:=N0 Ov.1;generalize s.1.HG fs[p].c.name fs[p].c.Av 1=d at*;generalize s.1.DA fs[p].c.name fs[p].c.Av 1 anc.node=b2 at*;have Vq:¬BE bi G2 ai:=λhg=>by
      rcases D.BE ai hg with hg|hg
      .exact i.hn hg
      .omega
     have nj:h2[ai]?=_:=(D.old ai E_ i.hn).trans i.st;obtain⟨E,L,Z,Xs⟩:=aDl w2.sO (by have:=gG.AO;omega) x.node d;have ij:NV x.node d b2.AO=b2.AO.set (k+(n+1)) d:=by unfold NV;rw[OD,S,Ac Ab,Bn]
     rw[ij] at Xs;have K:=(w2.N3 Xs).Kr (u:=L);have x3:FD h1 (La ai bi G1) (put h2 bi 2 E++L) (La ai bi G2):=(Er D ai).trans (Er (B9.trans (w2.N3 Xs).DT) ai);have ai2:ai<h2.length:=by have:=D.len;omega
     have st3:(put h2 bi 2 E++L)[ai]?=_:=(Al (by rw[Lo];exact ai2)).trans ((CQ qK).trans nj);have ai3:ai<(put h2 bi 2 E++L).length:=by rw[Ap,Lo];omega
     generalize put h2 bi 2 E++L=J at*;have aD5:=(Ov.2).1;obtain⟨z,t2,e2,he2,r6,Qe⟩:=f208 (h:=J) (id:=bi) (o:=3) (l:=fs) ⟨c1,K.wK,hv⟩ Ab x.node (e:=⟨{fs[p].c with node:=d.node},fs[p].v,fs[p].ok⟩) (by unfold qD;simp only;omega);have hei:Jo x.node fs=(p:Int):=by rw[aL,Ld,ep]
     rw[hei,Ac Ab,Bn] at Qe;have w4:=(K.Rz (u:=z) (l:=b2.A9.set p {fs[p].c with node:=d.node})).Kr (u:=t2);have hc4:Dj (b2.A9.set p {fs[p].c with node:=d.node}) z:=⟨_,by rw[Fo,Ld,he2,bS],Qe⟩;have x4:=x3.trans (Er ((B9 (k:=3) (v:=z)).trans (BX.DT (u:=t2) (K.Rz (u:=z) (l:=b2.A9.set p {fs[p].c with node:=d.node})))) ai);have F_:(put J bi 3 z++t2)[ai]?=_:=(Al (by rw[Lo];exact ai3)).trans ((CQ qK).trans st3);generalize put J bi 3 z++t2=g at*;have G_:=xz.uC (i:=d) (k:=k+(n+1)) ⟨f.has,f.kind,f.AW,f.name⟩ (by rw[OD];exact q9);have mb:=G_.uF (e:={fs[p].c with node:=d.node}) (k:=p) ⟨f.has,f.kind⟩ (by simp only[bS];exact hna);have rm4:Ct {b2 with AO:=b2.AO.set (k+(n+1)) d,A9:=b2.A9.set p {fs[p].c with node:=d.node}} (m+4*n+1):=by
      refine⟨gG.n,gG.at_,gG.data,by simp only[Bv];exact gG.AO,by simp only[Bv];exact gG.A9,gG.tm,λe he=>?_,λi hi=>?_⟩
      .rcases CU he with he|rfl
       .exact gG.Dy e he
       .exact Ov
      .rcases CU hi with hi|rfl
       .exact gG.aB i hi
       .exact aD4
     have Q:Bq g none (Pt ai 13)=some (I s.2.1):=At.load ⟨_,F_,rfl⟩;have l9:Bq g none (Pt ai 9)=some (I far.node):=At.load ⟨_,F_,rfl⟩;have t4:At g ai 4 (I (s.2.2:Int)):=⟨_,F_,rfl⟩;obtain⟨Yx,pH⟩:∃Yx:Nat,Yx=if s.2.1=far.node then p+1 else s.2.2:=⟨_,rfl⟩
     have e5:put g ai 4 (I (Yx:Int))=if s.2.1=far.node then put g ai 4 (I ((p+1:Nat):Int)) else g:=by
      rw[pH];split;.rfl
      .exact t4.same
     have O:=Jr (k:=4) (v:= I (Yx:Int)) F_;have w5:BX (put g ai 4 (I (Yx:Int))) bi a E z t G2 {b2 with AO:=b2.AO.set (k+(n+1)) d,A9:=b2.A9.set p {fs[p].c with node:=d.node}}:=w4.DU λj hj=>CQ λe=>Vq (e▸hj);have x5:=x4.trans (N4 (k:=4) (v:= I (Yx:Int)));have ai5:ai<(put g ai 4 (I (Yx:Int))).length:=by have:=x5.len;omega
     have t5:Bq (put g ai 4 (I (Yx:Int))) none (Pt ai 13)=some (I s.2.1):=At.load ⟨_,O,rfl⟩;generalize hh5:put g ai 4 (I (Yx:Int))=h5 at*;obtain⟨h6,G6,r7,w6,x6⟩:=aK (x:=s.2.1) (p:=d.node) (bf:=0) w5 mb.ba rm4;rw[RC (by exact f.kind)] at w6;have W:¬BE bi G6 ai:=λhg=>by
      rcases x6.BE ai hg with hg|hg
      .exact Vq hg
      .omega
     have M:h6[ai]?=_:=(x6.old ai ai5 Vq).trans O;have t6:At h6 ai 13 (I s.2.1):=⟨_,M,rfl⟩;have H_:=Jr (k:=13) (v:= I d.node) M;have w7:BX (put h6 ai 13 (I d.node)) bi a E z t G6 _:=w6.DU λj hj=>CQ λe=>W (e▸hj);have x7:=(x5.trans (Er x6 ai)).trans (N4 (k:=13) (v:= I d.node));have pI:FF fe.c.node (b2.A9.set p {fs[p].c with node:=d.node})=FF fe.c.node s.1.A9:=by rw[bS];exact wY i.qA hp V hnf
     rw[<-pH] at X;have B:=i.step X.symm w7 hc4 (by simp only;rw[H_,pI];rfl) W x7 (by simp only;rw[pI];exact i.qA) (by simp only;rw[pH];have:=i.Ž;split<;>omega);have T:fs[p].v.cells=[fs[p].v]:=Bu.cells fs[p].ok;have R:=Ci (Ab:p<9223372036854775807);have P:Cx cx 203 [Pt bi 3,I x.node,.agg [I d.node,.str fs[p].c.name,fs[p].v]] J (.bool (decide (0<=Jo x.node fs))) g:=r6;rw[CN.row] at e1 A;by_cases YR:s.2.1=far.node
     .rw[Ad YR] at e5;have s5:CM g 1 (Pt ai 4) (I ((p+1:Nat):Int))=some h5:=by rw[e5];exact t4.store rfl
      simp only[abS,Nat.reduceLeDiff,↓reduceIte,BD,IH,ſ,H.Ag,inc,r2.Ag,Wm,GW,(Ab:¬(p:Int)<0),l3,e1,l5,A.Ag,Dx,r4.Ag,Z.Ag,T,P.Ag,Q,l9,CZ YR,R,s5,t5,r7.Ag,t6.store (u:= I d.node) rfl,dec];exact A8.next n rfl ⟨_,_,_,_,B⟩ Ab
     .rw[Ac YR] at e5;subst e5;simp only[abS,Nat.reduceLeDiff,↓reduceIte,BD,IH,ſ,H.Ag,inc,r2.Ag,Wm,GW,(Ab:¬(p:Int)<0),l3,e1,l5,A.Ag,Dx,r4.Ag,Z.Ag,T,P.Ag,Q,l9,YR,r7.Ag,t6.store (u:= I d.node) rfl,dec];exact A8.next n rfl ⟨_,_,_,_,B⟩ Ab
 obtain⟨r,h',hr,rfl,o',c',G',s',e',i'⟩:=NH.ret;exact⟨h',o',c',G',s',hr,e',i'⟩
end
end Go.Am
end
