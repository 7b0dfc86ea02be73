/- Lemmas -/
import Derived.Test.YtemolpggcmbieaaGreatDoorZ24
set_option linter.all false
set_option maxHeartbeats 0
set_option maxRecDepth 100000
section
namespace Go.Am
open Go
section
variable{h h':Ah}{a n:Nat}{m:Option Nat}{ps:List PN}{A:Ar}{x:Int}{F:Nat->Prop}
def jT{p:PN}(w:PA h a n m ps A)(hx:A.has x){i:Nat}(hi:i∈FA a n m (ps.set (x.toNat-1) p)):i∈FA a n m ps\/Ho p.kv=some i:=by
 obtain⟨c,b⟩:=Xx w hx p;unfold FA at hi⊢;rw[b,El] at hi;simp only[AE,Aq,Ce] at hi⊢;rcases hi with h1|h1|h1|⟨q,h1,h2⟩|⟨q,h1,h2⟩
 .exact .inl (.inl h1)
 .exact .inl (.inr (.inl h1))
 .exact .inl (.inr (.inr (.inl h1)))
 .exact .inl (.inr (.inr (.inr ⟨q,A4 h1,h2⟩)))
 .rcases h1 with rfl|h1
  .exact .inr h2
  .exact .inl (.inr (.inr (.inr ⟨q,Bu h1,h2⟩)))
def ta{kv:Aa}{l:List Int}{k:Nat}(hk:JS h kv l)(Y0:k<=l.length)(hb:l.length<=1000000000)(y:Int):
  ∃h1,DC .zB h [kv,I (k:Int),.sl 1 [[I y]]]=some (h1,.CW h.length 0 (l.length+1) 1)/\h1[h.length]?=some (.cells ((l.take k++y::l.drop k).map (Aa.int .i64)))/\(∀i,i<h.length->Ho kv≠some i->h1[i]?=h[i]?)/\h1.length=h.length+1:=by
 rcases hk with⟨rfl,rfl⟩|⟨id,cs,rfl,hc⟩
 .have:k=0:=by simpa using Y0
  subst this;exact⟨h++[.cells [I y]],rfl,Ax,λi hi _=>An hi,Ax⟩
 .have HX:=(Aj.1 hc).1;refine⟨h.set id .Ds++[.cells ((l.take k++y::l.drop k).map (Aa.int .i64))],?_,by rw[Bn Ax];simp,λi hi hn=>?_,Ax⟩
  .simp only[DC,PS,hc];rw[Af (by have:AK=140737488355328:=rfl;simp;omega)];simp only[BH];have c:(l.map (Aa.int .i64)++cs).take k=(l.take k).map (Aa.int .i64):=by rw[Dz (by simpa using Y0),GO]
   have b:(l.map (Aa.int .i64)++cs).take l.length=l.map (Aa.int .i64):=I3 Ax;rw[c,b];simp
  .rw[An (by simpa using hi),Ao];intro e;exact hn (by rw[e];rfl)
def Qe{p b:Int}(hf:¬aAp A p x b):A.If p x b=A:=by unfold Ar.If;rw[Ag hf]
def td{l:List Int}{b y:Int}{k:Nat}(hb:b=0->k=l.length)(h2:b≠0->l.takeWhile (λy=>decide (y≠b))=l.take k/\l.dropWhile (λy=>decide (y≠b))=l.drop k):My l b y=l.take k++y::l.drop k:=by
 unfold My;by_cases h0:b=0;.rw[Af h0,hb h0];simp
 .rw[Ag h0,(h2 h0).1,(h2 h0).2]
open Classical in
def ľ{e p b:Int}(w:PA h a n m ps A)(d:Mi A)(ok:EY A e):
  ∃Z h' Mj,Ca cx 66 [Pt a 0,I p,I x,I b] h (I Z) h'/\PA h' a n m Mj (A.If p x b)/\Ew h (λi=>i∈FA a n m ps) h' (λi=>i∈FA a n m Mj):=by
 by_cases gm:A.has p/\A.has x;rotate_left;.refine⟨3,h,ps,?_,by rw[Qe (λf=>gm ⟨f.hp,f.hn⟩)];exact w,.refl⟩;rw[Ae,Py,N_];simp only[abS,Fs,(Lk (x:=p) (y:=x) w).Ad,Ag gm,CA,(AI:¬(3:Int)=0)]
 obtain⟨hp,hx⟩:=gm;by_cases hb:b≠0/\¬A.has b;.refine⟨3,h,ps,?_,by rw[Qe (λf=>hb.2 (f.hb hb.1).1)];exact w,.refl⟩;rw[Ae,Py,N_];simp only[abS,Fs,(Lk (x:=p) (y:=x) w).Ad,Af (And.intro hp hx),CA,Cq,hb.1,(U9 (x:=b) w).Ad,Ai hb.2,EX]
 have SZ:b=0\/(b≠0/\A.has b):=by
  by_cases h0:b=0;.exact .inl h0
  .refine .inr ⟨h0,?_⟩;by_cases h1:A.has b;.exact h1
   .exact absurd ⟨h0,h1⟩ hb
 by_cases kp:OD (A.nd p).kind;rotate_left
 .refine⟨4,h,ps,?_,by rw[Qe (λf=>kp f.kp)];exact w,.refl⟩;unfold OD at kp;have c:¬(A.nd p).kind=1:=λe=>kp (.inl e);have s:¬(A.nd p).kind=2:=λe=>kp (.inr (.inl e));have E:¬(A.nd p).kind=4:=λe=>kp (.inr (.inr e));rw[Ae,Py,N_];rcases SZ with h0|⟨h0,Qm⟩
  .simp only[abS,Fs,(Lk (x:=p) (y:=x) w).Ad,Af (And.intro hp hx),CA,Cq,(Ih w d hp).Ad,(Ih w d hx).Ad,w.f0 hp,w.f0 hx,c,EX,h0,s,E]
  .simp only[abS,Fs,(Lk (x:=p) (y:=x) w).Ad,Af (And.intro hp hx),CA,Cq,(Ih w d hp).Ad,(Ih w d hx).Ad,w.f0 hp,w.f0 hx,c,EX,h0,(U9 (x:=b) w).Ad,Al Qm,s,E]
 by_cases kn:(A.nd x).kind=1\/(A.nd x).kind=2
 .refine⟨4,h,ps,?_,by rw[Qe (λf=>by have:=f.kn;omega)];exact w,.refl⟩;rw[Ae,Py,N_];rcases kp with c|c|c<;>rcases kn with s|s<;>rcases SZ with h0|⟨h0,Qm⟩
  all_goals first|(simp only[abS,Fs,(Lk (x:=p) (y:=x) w).Ad,Af (And.intro hp hx),CA,Cq,(Ih w d hp).Ad,(Ih w d hx).Ad,w.f0 hp,w.f0 hx,c,(AI:¬(2:Int)=1),(AI:¬(4:Int)=1),(AI:¬(4:Int)=2),EX,h0,s];done)|simp only[abS,Fs,(Lk (x:=p) (y:=x) w).Ad,Af (And.intro hp hx),CA,Cq,(Ih w d hp).Ad,(Ih w d hx).Ad,w.f0 hp,w.f0 hx,c,(AI:¬(2:Int)=1),(AI:¬(4:Int)=1),(AI:¬(4:Int)=2),EX,h0,(U9 (x:=b) w).Ad,Al Qm,s]
 have g:¬(A.nd x).kind=1:=λe=>kn (.inl e);have Ŀ:¬(A.nd x).kind=2:=λe=>kn (.inr e);have q:=aGd w ok hx hp;by_cases re:Reach A x p
 .refine⟨4,h,ps,?_,by rw[Qe (λf=>f.re re)];exact w,.refl⟩;rw[Al re] at q;rw[Ae,Py,N_];rcases kp with c|c|c<;>rcases SZ with h0|⟨h0,Qm⟩
  all_goals first|(simp only[abS,Fs,(Lk (x:=p) (y:=x) w).Ad,Af (And.intro hp hx),CA,Cq,(Ih w d hp).Ad,(Ih w d hx).Ad,w.f0 hp,w.f0 hx,c,(AI:¬(2:Int)=1),(AI:¬(4:Int)=1),(AI:¬(4:Int)=2),EX,h0,g,Ŀ,q.Ad];done)|simp only[abS,Fs,(Lk (x:=p) (y:=x) w).Ad,Af (And.intro hp hx),CA,Cq,(Ih w d hp).Ad,(Ih w d hx).Ad,w.f0 hp,w.f0 hx,c,(AI:¬(2:Int)=1),(AI:¬(4:Int)=1),(AI:¬(4:Int)=2),EX,h0,(U9 (x:=b) w).Ad,Al Qm,g,Ŀ,q.Ad]
 rw[Ai re] at q;by_cases o:b≠0/\(b=x\/(A.nd b).He≠p)
 .refine⟨5,h,ps,?_,by rw[Qe (λf=>by have:=f.hb o.1;rcases o.2 with h|h;exact this.2.1 h;exact h this.2.2)];exact w,.refl⟩;obtain⟨h0,o⟩:=o;have Qm:=(SZ.resolve_left h0).2;rw[Ae,Py,N_];by_cases l:b=x;.have aQR:=l;rcases kp with c|c|c<;>simp only[abS,Fs,(Lk (x:=p) (y:=x) w).Ad,Af (And.intro hp hx),CA,Cq,(Ih w d hp).Ad,(Ih w d hx).Ad,w.f0 hp,w.f0 hx,c,(AI:¬(2:Int)=1),(AI:¬(4:Int)=1),(AI:¬(4:Int)=2),EX,g,Ŀ,q.Ad,l,show¬x=0 from l▸h0,Al hx,(U9 (x:=x) w).Ad]
  .have o:=o.resolve_left l;rcases kp with c|c|c<;>simp only[abS,Fs,(Lk (x:=p) (y:=x) w).Ad,Af (And.intro hp hx),CA,Cq,(Ih w d hp).Ad,(Ih w d hx).Ad,w.f0 hp,w.f0 hx,c,(AI:¬(2:Int)=1),(AI:¬(4:Int)=1),(AI:¬(4:Int)=2),EX,h0,(U9 (x:=b) w).Ad,Al Qm,g,Ŀ,q.Ad,l,(Ih w d Qm).Ad,w.f1 Qm,o]
 have fits:aAp A p x b:=⟨hp,hx,λh0=>⟨(SZ.resolve_left h0).2,λe=>o ⟨h0,.inl e⟩,by
  by_cases h1:(A.nd b).He=p;.exact h1
  .exact absurd ⟨h0,.inr h1⟩ o⟩,kp,⟨g,Ŀ⟩,re⟩
 have X:A.If p x b=(A.cut x).MG p x b:=by unfold Ar.If;rw[Af fits]
 obtain⟨h1,YF,O,w1,S⟩:=ļ w d ok hx;have ZI:=bV ok hx Ŀ;have Ĵ:=d.cut (x:=x);have pH:(A.cut x).has p:=N2.2 hp;have Tl:(A.cut x).has x:=N2.2 hx;have H:x≠p:=by rintro rfl;exact re .refl
 have Ĳ:=Ĵ.Bw ZI p;obtain⟨k,Y0,B,yk⟩:∃k,k<=((A.cut x).nd p).Bw.length/\(b=0->k=((A.cut x).nd p).Bw.length)/\(b≠0->Cf (λy=>decide (b=y)) 0 ((A.cut x).nd p).Bw=(k:Int)/\((A.cut x).nd p).Bw.takeWhile (λy=>decide (y≠b))=((A.cut x).nd p).Bw.take k/\((A.cut x).nd p).Bw.dropWhile (λy=>decide (y≠b))=((A.cut x).nd p).Bw.drop k):=by
  by_cases h0:b=0;.exact⟨_,Ab _,λ_=>rfl,λh=>absurd h0 h⟩
  .have t:=fits.hb h0;have aGl:((A.cut x).nd b).He=p:=by
    rw[Xc ok hx,Ag t.2.1];split;.exact t.2.2
    .exact t.2.2
   have Ú:b∈((A.cut x).nd p).Bw:=by have:=(ZI.He b (N2.2 t.1) (by rw[aGl];have:=hp.1;omega)).2;rwa [aGl] at this
   obtain⟨k,c,s,_,E,V⟩:=dM Ú;exact⟨k,Ac,λh=>absurd h h0,λ_=>⟨s,E,V⟩⟩
 have Qk:=td (y:=x) B λh=>(yk h).2;have P2:=w1.P2 pH;obtain⟨h2,L,K9,rK,lK⟩:=ta P2 Y0 Ĳ x;have J:=(w1.pn pH).2.1;obtain⟨r,Þ⟩:∃r:PN,r=⟨{(A.cut x).nd p with Bw:=My ((A.cut x).nd p).Bw b x},.CW h1.length 0 (((A.cut x).nd p).Bw.length+1) 1,(pN YF p).av,w1.att pH⟩:=⟨_,rfl⟩;have z:r.x={(A.cut x).nd p with Bw:=My ((A.cut x).nd p).Bw b x}:=by rw[Þ]
 have hrow:r.row=(pN YF p).row.set 2 (.CW h1.length 0 (((A.cut x).nd p).Bw.length+1) 1):=by rw[Þ];simp only[PN.row];rw[J];rfl
 have aGm:n∈FA a n m YF:=by simp[FA]
 have K:Ho (pN YF p).kv≠some n:=by intro D;have:=w1.nd;unfold FA at this;simp only[B6,AE,PL] at this;exact this.2.1 (Aq.2 (.inr (Ce.2 ⟨_,(w1.pn pH).2.2,D⟩)))
 have G:=w1.sto pH (k:=2) AI (v:= .CW h1.length 0 (((A.cut x).nd p).Bw.length+1) 1) rfl hrow (rK n (w1.lt n aGm) K);have hlen:(My ((A.cut x).nd p).Bw b x).length=((A.cut x).nd p).Bw.length+1:=by rw[Qk,Ap,AJ,AB,Bj];omega
 have u:=w1.fo pH (p:=r) (h1:=h2) (λi hi hn=>rK i (w1.lt i hi) hn) (by rw[Þ];refine .inr ⟨h1.length,[],by simp only[hlen],?_⟩;simp only[Qk,Bq];exact K9) (.inr λj hj=>by rw[Þ] at hj;cases hj;exact Ab _)
 have Wm:∀i,i∈FA a n m (YF.set (p.toNat-1) r)->i∈FA a n m YF\/i=h1.length:=by
  intro i hi;rcases jT w1 pH hi with h|h
  .exact .inl h
  .rw[Þ] at h;cases h;exact .inr rfl
 generalize C:h2.set n (.cells ((YF.set (p.toNat-1) r).map PN.row).flatten)=Y at G u;generalize aQU:YF.set (p.toNat-1) r=sx at u Wm;rw[z] at u;have Yq:((A.cut x).set p {(A.cut x).nd p with Bw:=My ((A.cut x).nd p).Bw b x}).has x:=I6.2 Tl;have eX:((A.cut x).set p {(A.cut x).nd p with Bw:=My ((A.cut x).nd p).Bw b x}).nd x=(A.cut x).nd x:=by rw[JO,Ag (λh=>H h.1)]
 have gm:=(u.pn Yq).2.1;obtain⟨Q,M,T,W,U,l4⟩:=u.wr Yq (k:=1) AI (v:= I p) rfl (p:=⟨{(A.cut x).nd x with He:=p},(pN sx x).kv,(pN sx x).av,by have:=(pN sx x).ok;rw[gm,eX] at this;exact this⟩) (by simp only[PN.row];rw[gm,eX];rfl) rfl (B5 GL.Bw eX).symm;have aGn:(A.cut x).MG p x b=((A.cut x).set p {(A.cut x).nd p with Bw:=My ((A.cut x).nd p).Bw b x}).set x {(A.cut x).nd x with He:=p}:=by unfold Ar.MG;simp only;rw[eX]
 refine⟨0,Q,_,?_,by rw[X,aGn];exact T,?_⟩
 .rw[Ae,Py,N_];by_cases h0:b=0;.rw[B h0] at L;have kl:=P2.len;rcases kp with c|c|c<;>simp only[abS,Fs,(Lk (x:=p) (y:=x) w).Ad,Af (And.intro hp hx),CA,Cq,(Ih w d hp).Ad,(Ih w d hx).Ad,w.f0 hp,w.f0 hx,c,(AI:¬(2:Int)=1),(AI:¬(4:Int)=1),(AI:¬(4:Int)=2),EX,h0,g,Ŀ,q.Ad,O.Ad,w1.f2 pH,kl,Gl,L,G,M]
  .have t:=fits.hb h0;have Qm:=t.1;have N:=aCJ P2.Su Ĳ b;rw[(yk h0).1] at N;have kl:=P2.len;rcases kp with c|c|c<;>simp only[abS,Fs,(Lk (x:=p) (y:=x) w).Ad,Af (And.intro hp hx),CA,Cq,(Ih w d hp).Ad,(Ih w d hx).Ad,w.f0 hp,w.f0 hx,c,(AI:¬(2:Int)=1),(AI:¬(4:Int)=1),(AI:¬(4:Int)=2),EX,h0,(U9 (x:=b) w).Ad,Al Qm,g,Ŀ,q.Ad,t.2.1,(Ih w d Qm).Ad,w.f1 Qm,t.2.2,O.Ad,w1.f2 pH,kl,N.Ad,Gl,L,G,M]
 .have rY:Y.length=h1.length+1:=by rw[<-C,BY,lK]
  have R:Ew h1 (λi=>i∈FA a n m YF) Q (λi=>i∈FA a n m (sx.set (x.toNat-1) ⟨{(A.cut x).nd x with He:=p},(pN sx x).kv,(pN sx x).av,by have:=(pN sx x).ok;rw[gm,eX] at this;exact this⟩)):=by
   refine⟨Ac,λi hi fA=>?_,λi hi=>?_⟩;.have P:i≠n:=λD=>fA (D▸aGm);rw[U i P,<-C,Ao (Dr P)];exact rK i hi λD=>fA (KX (w1.pn pH).2.2 D)
   .rw[W] at hi;rcases Wm i hi with h|h
    .exact .inl h
    .exact .inr Ac
  exact S.trans R
end
def Oc(a:Nat)(b:BS)(o c t:Aa):List Aa:=[Pt a 0,I b.Cy,o,c,I b.mode,I b.Nn,t,I b.head,I b.HQ,.bool b.Ps,I b.ctx.node,I b.ctx.A9,.str b.ctx.name,.bool b.ctx.Oz,.bool b.fs,.bool b.F5,.str b.cj,.bool b.skip,I b.sw,.bool b.stop]
def Rj(l:List Int)(v:Aa):Prop:=Jf l v\/(v= .EC 1/\l=[])
def Sw(l:List Int)(v:Aa):Prop:=Rj l v/\v≠ .sl 1 []
section
variable{h:Ah}{l:List Int}{v:Aa}
def Rj.cells(t:Rj l v):v.cells=[v]:=by
 rcases t with t|⟨rfl,_⟩
 .exact Bz.cells t
 .rfl
def Rj.len(t:Rj l v):Ay (.len false) [v]=some (I (l.length:Int)):=by
 rcases t with t|⟨rfl,rfl⟩
 .exact Bz.Ha t
 .rfl
def Rj.ne(t:Rj l v)(hne:l≠[]):Jf l v:=by
 rcases t with t|⟨_,e⟩
 .exact t
 .exact absurd e hne
def Rj.Su(t:Rj l v):MS h v l:=⟨t.len,λk hk=>(Jf.Su (t.ne (λe=>by rw[e] at hk;simp at hk))).at_ k hk⟩
def Rj.Po(t:Rj l v)(hb:l.length*8<=AK):∃u,Ay (.append 1 8) [.slnil,v]=some u/\Jf l u:=by
 rcases t with t|⟨rfl,rfl⟩
 .exact Bz.Po t hb
 .exact⟨.slnil,rfl,.inr ⟨rfl,rfl⟩⟩
def Rj.zx(t:Rj l v)(m:Int)(hb:(l.length+1)*8<=AK):Ay (.append 1 8) [v,.sl 1 [Cu m]]=some (.sl 1 ((l++[m]).map Cu)):=by
 rcases t with t|⟨rfl,rfl⟩
 .exact Bz.Zw t hb
 .rfl
def Sw.gK{m:Int}:Sw (l++[m]) (.sl 1 ((l++[m]).map Cu)):=⟨.inl .mk,λe=>by injection e with _ e;simp at e⟩
def Sw.nil:Sw [] .slnil:=⟨.inl (.inr ⟨rfl,rfl⟩),nofun⟩
end
structure BX(h:Ah)(bi a:Nat)(o c t:Aa)(G:Nat->Prop)(b:BS):Prop where
 hb:h[bi]?=some (.cells (Oc a b o c t))
 o:Dy b.AL o
 t:Sw b.tm t
 w:PW h G a b.a
 nb:¬G bi
section
variable{h:Ah}{bi a:Nat}{o c t:Aa}{G F:Nat->Prop}{b:BS}{x:Int}{m:Nat}
def BX.lt(w:BX h bi a o c t G b):bi<h.length:=(Aj.1 w.hb).1
def BX.DT{h':Ah}(w:BX h bi a o c t G b)(hf:∀i,i=bi\/G i->h'[i]?=h[i]?):BX h' bi a o c t G b:=
 ⟨by rw[hf bi (.inl rfl)];exact w.hb,w.o,w.t,w.w.DT λi hi=>hf i (.inr hi),w.nb⟩
def BX.JL(w:BX h bi a o c t G b){u:Ah}:BX (h++u) bi a o c t G b:=w.DT λi hi=>An (by rcases hi with rfl|hi;exact w.lt;exact w.w.lt hi)
def BX.ld(w:BX h bi a o c t G b)(k:Nat):Bi h none (Pt bi k)=(Oc a b o c t)[k]?:=by simp only[Bi,w.hb,FJ]
def BX.l0(w:BX h bi a o c t G b):Bi h none (Pt bi 0)=some (Pt a 0):=w.ld 0
def BX.l1(w:BX h bi a o c t G b):Bi h none (Pt bi 1)=some (I b.Cy):=w.ld 1
def BX.l4(w:BX h bi a o c t G b):Bi h none (Pt bi 4)=some (I b.mode):=w.ld 4
def BX.l7(w:BX h bi a o c t G b):Bi h none (Pt bi 7)=some (I b.head):=w.ld 7
def BX.l9(w:BX h bi a o c t G b):Bi h none (Pt bi 9)=some (.bool b.Ps):=w.ld 9
def BX.ŀ(w:BX h bi a o c t G b):Bi h none (Pt bi 15)=some (.bool b.F5):=w.ld 15
def BX.l3(w:BX h bi a o c t G b):Bi h none (Pt bi 3)=some c:=w.ld 3
def BX.l6(w:BX h bi a o c t G b):Bi h none (Pt bi 6)=some t:=w.ld 6
def BX.atO(w:BX h bi a o c t G b):At h bi 2 o:=⟨_,w.hb,rfl⟩
def BX.lO(w:BX h bi a o c t G b):At h bi 3 c:=⟨_,w.hb,rfl⟩
def BX.sO(w:BX h bi a o c t G b):Lt h bi 2 b.AL:=⟨o,w.atO,w.o⟩
def BX.sA(w:BX h bi a o c t G b):bk h (Pt bi 2) b.AL:=w.sO.at
def HV(w:BX h bi a o c t G b):Ca cx 83 [Pt bi 0] h (.bool true) h:=by rw[Ae,qo,t83];simp only[abS,w.l0]
def PW.pa{A:Ar}(w:PW h G a A):∃n m ps,PA h a n m ps A:=let⟨n,m,ps,w,_⟩:=w;⟨n,m,ps,w⟩
def Va(w:BX h bi a o c t G b)(ok:BA b)(rm:Cd b m)(x:Int):∃K V u,Ca cx 105 [Pt bi 0,I x] h (.agg [I (b.a.nd x).kind,I (b.a.nd x).He,K,I (b.a.nd x).Cy,I (b.a.nd x).A9,.str (b.a.nd x).name,V,.str (b.a.nd x).data,.str (b.a.nd x).JN,.str (b.a.nd x).sys,.bool (b.a.nd x).CS,I (b.a.nd x).cont,I (b.a.nd x).EK]) (h++u)/\Jf (b.a.nd x).Bw K/\KJ (h++u) V (b.a.nd x).Av/\Up h.length V:=by obtain⟨n,m',ps,d⟩:=w.w.pa;obtain⟨r,u,e,K,V,rfl,g,f⟩:=aCI (x:=x) d rm.UY (rm.UY.Bw ok.ok x);refine⟨K,V,u,?_,g,f⟩;rw[Ae,tK,aAU];simp only[abS,w.l0,e.Ad]
def aCO(w:BX h bi a o c t G b)(rm:Cd b m):Ca cx 120 [Pt bi 0] h (.agg (E4 b.AL).row) h:=by have:=rm.AL;rw[Ae,tX,aA6];simp only[abS,JB,(HV w).Ad,(f39 w.sA Ac).Ad]
def aGo(w:BX h bi a o c t G b)(ok:BA b)(rm:Cd b m):Ca cx 199 [Pt bi 0] h (.tuple [I b.MO.1,I b.MO.2]) h:=by
 have hl:=rm.AL;obtain⟨n,m',ps,g⟩:=w.w.pa;have f:=f144 w.sA (Ac:b.AL.length<=1000000000) IG;have r2:=f144 w.sA (Ac:b.AL.length<=1000000000) Bb;have b1:=N6 (q:=Bf [IG]) (l:=b.AL);have b2:=N6 (q:=Bf [Bb]) (l:=b.AL);unfold BS.MO;simp only
 generalize AX (Bf [IG]) b.AL=d at f b1⊢;generalize AX (Bf [Bb]) b.AL=i at r2 b2⊢;rw[Ae,vK,aBJ];simp only[Ci,f.Ad,r2.Ad];refine⟨λh1=>?_,λh1=>⟨λh2=>?_,λh2=>?_⟩⟩;.rw[Af h1];simp only[Ci,JB,(U5 w.sA i).Ad]
 .rw[Ag h1,Af h2];simp only[Ci,JB,(U5 w.sA 0).Ad]
 .rw[Ag h1,Ag h2];simp only[abS,JB,(U5 w.sA d).Ad,w.l0,(aF0 (x:=(DK b.AL d).node) g rm.UY).Ad];refine⟨λe=>?_,λe=>?_⟩;.rw[Af e]
  .rw[Ag e];have j:(if d-1<0 then 0 else d-1)=max (d-1) 0:=Ac;simp only[Ci,JB,DJ (Ac: -9223372036854775808<=d-1) (Ac:d-1<9223372036854775808),bI,j,(U5 w.sA (max (d-1) 0)).Ad]
def ZJ:Ay (.Cl 1) [S IG,S oF,S oG,S oH,S wTr]=some (.sl 1 (Jd.map Cc)):=Es (ws:=Jd) rfl AI
def pI{v:Aa}{ws:List Ak}(hv:HN ws v)(hn:ws.length<=1000000000)(a:Item)(h:Ah):Ca cx 100 [.agg a.row,v] h (.bool (Bf ws a)) h:=by rw[Ae,tI,aAS];simp only[Ci,JB,(Ù hv hn _ h).Ad,Bf];refine⟨λh1=>by simp[h1],λh1=>by simp[h1]⟩
def tg{A:Ar}{x:Int}(hk:(A.nd x).kind=4)(ws:List Ak):Bf ws ⟨0,(A.nd x).A9,(A.nd x).name,false⟩=decide (lM ws A x):=by
 by_cases h:lM ws A x;.rw[Al h];unfold Bf;rw[Al];exact⟨h.2.1,h.2.2⟩
 .rw[Ai h];unfold Bf;rw[Ai];exact λh2=>h ⟨hk,h2.1,h2.2⟩
def ß(w:BX h bi a o c t G b)(ok:BA b)(rm:Cd b m)(x:Int):∃u,Ca cx 104 [Pt bi 0,I x] h (.tuple [I (b.place x).1,I (b.place x).2]) (h++u):=by
 have hl:=rm.AL;by_cases B:x=0/\b.AL=[]
 .refine⟨[],?_⟩;have C:b.place x=(b.Cy,0):=by unfold BS.place;rw[Af B]
  rw[C,Bq,Ae,cF,Q_];simp only[abS,(HV w).Ad,B.1,B.2,Cq,(TG w.sA).Ad,Int.natCast_zero,w.l1]
 .obtain⟨t',ht⟩:∃t',t'=if x=0 then(E4 b.AL).node else x:=⟨_,rfl⟩
  obtain⟨X,U,r,R,_,_⟩:=Va w ok rm t';have w1:=w.JL (u:=r);have C:b.place x=if(b.a.nd (if b.F5=true/\lM Jd b.a t' then b.MO else(t',0)).1).cont≠0 then((b.a.nd (if b.F5=true/\lM Jd b.a t' then b.MO else(t',0)).1).cont,0) else if b.F5=true/\lM Jd b.a t' then b.MO else(t',0):=by unfold BS.place;rw[Ag B,<-ht]
  obtain⟨pb,tD⟩:∃pb,pb=if b.F5=true/\lM Jd b.a t' then b.MO else(t',0):=⟨_,rfl⟩
  rw[<-tD] at C;obtain⟨V,T,N,r2,_,_⟩:=Va w1 ok rm pb.1;have Q:=aGo w1 ok rm;have z:=pI (ws:=Jd) CO AI ⟨0,(b.a.nd t').A9,(b.a.nd t').name,false⟩ (h++r);have em:∀s n,Ay (.BV [I 0,I 0,S [],ff] [(1,1),(2,1)]) [I s,.str n]=some (.agg (Item.row ⟨0,s,n,false⟩)):=λ_ _=>rfl;refine⟨r++N,?_⟩;rw[<-AQ];have last:∀(y:Int×Int),y=pb->W cx (.call 105 [Pt bi 0,I y.1] λp=> .cells 13 p λd=> .op (.int .neq) [g d 11,I 0] λk=> .AH k (.ret .ret [.tuple [g d 11,I 0]]) (.ret .ret [.tuple [I y.1,I y.2]])) (λj vs h1=>j=FO.ret/\vs=[.tuple [I (b.place x).1,I (b.place x).2]]/\h1=h++r++N) (h++r):=by
   rintro _ rfl;rw[C];simp only[Ci,r2.Ad];refine⟨λh1=>?_,λh1=>?_⟩;.rw[Af h1]
   .rw[Ag h1]
  rw[Ae,cF,Q_];have ŀ:=w1.ŀ;have mid:W cx (.call 105 [Pt bi 0,I t'] λM=> .cells 13 M λq=> .F9 200009 (.op .LI [Pt bi 0] λL=> .op (.Fg 15) [L] λv16=> .load none v16 λK=> .AH K (.op (.int .eql) [g q 0,I 4] λJ=> .AH J (.op (.BV [I 0,I 0,S [],ff] [(1,1),(2,1)]) [g q 4,g q 5] λH=> .op (.Cl 1) [S aTL,S aUi,S aUh,S aUj,S [116,114]] λv20=> .call 100 [H,v20] λE=> .ret .normal [E]) (.ret .normal [ff])) (.ret .normal [ff])) (λx P=>match x with
    | .normal=> .F9 100046 (.AH (g P 0) (.call 199 [Pt bi 0] λv23=> .op (.ext 0) [v23] λv24=> .op (.ext 1) [v23] λD=> .ret .normal [v24,D]) (.ret .normal [I t',I 0])) (λx f=>match x with
     | .normal=> .call 105 [Pt bi 0,g f 0] λp=> .cells 13 p λd=> .op (.int .neq) [g d 11,I 0] λk=> .AH k (.ret .ret [.tuple [g d 11,I 0]]) (.ret .ret [.tuple [g f 0,g f 1]])
     | .exit i=> .fail
     | .ret=> .ret .ret [.tuple [g f 0,g f 1]])
    | .exit i=> .fail
    | .ret=> .ret .ret [.tuple [I t',I 0]])) (λj vs h1=>j=FO.ret/\vs=[.tuple [I (b.place x).1,I (b.place x).2]]/\h1=h++r++N) h:=by
   rw[R.Ad];by_cases hf:b.F5=true
   .rw[hf] at ŀ;by_cases A:(b.a.nd t').kind=4
    .rw[tg A] at z;by_cases hw:lM Jd b.a t';.rw[Al hw] at z;rw[Af ⟨hf,hw⟩] at tD;have:=last b.MO tD.symm;simp only[abS,ŀ,A,em,ZJ,z.Ad,Q.Ad];simpa only[Ci,bK,AJ,Br] using this
     .rw[Ai hw] at z;rw[Ag (λh=>hw h.2)] at tD;have:=last (t',0) tD.symm;simp only[abS,ŀ,A,em,ZJ,z.Ad];simpa only[Ci,bK,AJ,Br] using this
    .rw[Ag (λh=>A h.2.1)] at tD;have:=last (t',0) tD.symm;simp only[abS,ŀ,A];simpa only[Ci,bK,AJ,Br] using this
   .rw[Ag (λh=>hf h.1)] at tD;have:=last (t',0) tD.symm;rw[show b.F5=false by simpa using hf] at ŀ;simp only[Ci,ŀ];simpa only[Ci,bK,AJ,Br] using this
  by_cases h0:x=0
  .have hne:b.AL≠[]:=λe=>B ⟨h0,e⟩;have O:¬((b.AL.length:Nat):Int)=0:=by have:=Ef.2 hne;omega
   rw[Af h0] at ht;rw[ht] at mid;simp only[abS,(HV w).Ad];rw[h0] at mid⊢;simp only[abS,JB,(TG w.sA).Ad,O,(aCO w rm).Ad] at mid⊢;exact mid
  .rw[Ag h0] at ht;rw[ht] at mid;simp only[abS,(HV w).Ad,h0,Fc] at mid⊢;exact mid
end
section
def dg{Q:Kj}{h:Ah}{k:Aa->IT}:W cx (.MY k) Q h↔W cx (k (.map (some h.length))) Q (h++[.map (ft 0)]):=Q2
section
variable{v:Aa}{l:List A7}{h:Ah}
def aLm(hv:A8 l v)(hb:l.length<=1000)(sp:Int):∃u,Ca cx 136 [I sp,v] h u (h++[.map (ft 11)])/\A8 (l.map (DL sp)) u:=by
 have Gc:Bz 3 (l.map A7.row) v:=hv;have Pb:Ev cx 136 [I sp,v] h λr h'=>h'=h++[.map (ft 11)]/\A8 (l.map (DL sp)) r:=by
  unfold Ev;rw[uL,aBj];rw[dg];simp only[Ci,Nat.reduceLeDiff,↓reduceIte,Bv,Fo,nV,aFk,aFl,aFm,aFn,aFo,aFp,aFq,aFr,aFs,aFt,aAm,Gc.Ha];refine B1 (λp:Nat×Aa=>[p.2,I (p.1:Int)]) (λp h1=>p.1<=l.length/\A8 ((l.take p.1).map (DL sp)) p.2/\h1=h++[.map (ft 11)]) (λp=>l.length-p.1) (0,.slnil) rfl ⟨Bd _,.nil,rfl⟩ ?_;rintro⟨n,u⟩ h1 ⟨hn,hu,rfl⟩;simp only at hn hu;rcases Bk n l.length with hlt|Hh
  .have i1:(n:Int)<(l.length:Int):=by omega
   have IV:∀{q:List Aa},q=(DL sp l[n]).row->∃w,Ay (.append 3 40) [u,.sl 3 [q]]=some w/\A8 ((l.take (n+1)).map (DL sp)) w:=by
    rintro _ rfl;refine⟨_,Bz.Zw (f:=A7.row) (a:=DL sp l[n]) (b:=40) hu ?_,?_⟩;.simp[AK];omega
    .rw[AS hlt,BP];exact .mk
   have inc:=CR (Ac:n<9223372036854775807);by_cases e:sp=2
   .subst e;cases c:Jt (DG l[n].name Nj) with
    |some x=>obtain⟨w,d,hw⟩:=IV (q:=[I x.1,.str x.2,.str l[n].value]) (by simp only[DL,Mx,true_or,BD,c,A7.row]);simp only[Ci,Nat.reduceLeDiff,↓reduceIte,Bv,i1,Gc.Dh hlt,Fo,A7.row,(aFK _).BG rfl rfl,AW,AR,AM,LW,c,LX,d,inc];exact By.next (n+1,w) rfl ⟨hlt,hw,rfl⟩ Hb
    |none=>obtain⟨w,d,hw⟩:=IV (q:=[I 0,.str (DG l[n].name Nj),.str l[n].value]) (by simp only[DL,Mx,true_or,BD,c,A7.row]);simp only[Ci,Nat.reduceLeDiff,↓reduceIte,Bv,i1,Gc.Dh hlt,Fo,A7.row,(aFK _).BG rfl rfl,AW,AR,AM,LW,c,LX,d,inc];exact By.next (n+1,w) rfl ⟨hlt,hw,rfl⟩ Hb
   by_cases g:sp=3
   .subst g;by_cases hd:l[n].name=aFu
    .have c:Jt aAn=none:=by decide
     obtain⟨w,d,hw⟩:=IV (q:=[I 0,.str aAn,.str l[n].value]) (by simp only[DL,Mx,hd,or_true,BD,DO,c,A7.row,X7,e]);simp only[Ci,Nat.reduceLeDiff,↓reduceIte,Bv,i1,Gc.Dh hlt,Fo,A7.row,hd,(AI:¬(3:Int)=2),AW,A3,AR,AM,LW,c,LX,d,inc];exact By.next (n+1,w) rfl ⟨hlt,hw,rfl⟩ Hb
    .cases c:Jt l[n].name with
     |some x=>obtain⟨w,d,hw⟩:=IV (q:=[I x.1,.str x.2,.str l[n].value]) (by simp only[DL,Mx,hd,or_true,BD,DO,c,A7.row,ŉ,e]);simp only[Ci,Nat.reduceLeDiff,↓reduceIte,Bv,i1,Gc.Dh hlt,Fo,A7.row,hd,(AI:¬(3:Int)=2),AW,A3,AR,AM,LW,c,LX,d,inc];exact By.next (n+1,w) rfl ⟨hlt,hw,rfl⟩ Hb
     |none=>obtain⟨w,d,hw⟩:=IV (q:=[I 0,.str l[n].name,.str l[n].value]) (by simp only[DL,Mx,hd,or_true,BD,DO,c,A7.row,ŉ,e]);simp only[Ci,Nat.reduceLeDiff,↓reduceIte,Bv,i1,Gc.Dh hlt,Fo,A7.row,hd,(AI:¬(3:Int)=2),AW,A3,AR,AM,LW,c,LX,d,inc];exact By.next (n+1,w) rfl ⟨hlt,hw,rfl⟩ Hb
   .obtain⟨w,d,hw⟩:=IV (q:=[I 0,.str l[n].name,.str l[n].value]) (by simp only[DL,e,g,or_self,DO,A7.row]);cases c:Jt l[n].name with
    |some x=>simp only[Ci,Nat.reduceLeDiff,↓reduceIte,Bv,i1,Gc.Dh hlt,Fo,A7.row,e,g,AW,A3,AR,AM,LW,c,LX,d,inc];exact By.next (n+1,w) rfl ⟨hlt,hw,rfl⟩ Hb
    |none=>simp only[Ci,Nat.reduceLeDiff,↓reduceIte,Bv,i1,Gc.Dh hlt,Fo,A7.row,e,g,AW,A3,AR,AM,LW,c,LX,d,inc];exact By.next (n+1,w) rfl ⟨hlt,hw,rfl⟩ Hb
  .have i1:¬(n:Int)<(l.length:Int):=by omega
   rw[Be Hh] at hu;simp only[Ci,Nat.reduceLeDiff,↓reduceIte,Bv,i1,A3,AR,AM];exact⟨_,rfl,hu⟩
 obtain⟨r,h',hr,rfl,hu⟩:=Pb.ret;exact⟨r,hr,hu⟩
end
end
def BM(bi:Nat)(G:Nat->Prop):Nat->Prop:=λi=>i=bi\/G i
section
variable{h h':Ah}{bi a:Nat}{o c t:Aa}{G G' F:Nat->Prop}{b:BS}{x:Int}{m:Nat}
def Ew.aGr(x:Ew h G h' G'):Ew h (Am.BM bi G) h' (Am.BM bi G'):=⟨x.len,λi hi hn=>x.old i hi λhg=>hn (.inr hg),λi hi=>by
 rcases hi with rfl|hi
 .exact .inl (.inl rfl)
 .rcases x.BM i hi with h|h
  .exact .inl (.inr h)
  .exact .inr h⟩
def BX.aGs{A':Ar}(w:BX h bi a o c t G b)(hp:PW h' G' a A')(x:Ew h G h' G'):BX h' bi a o c t G' {b with a:=A'}/\Ew h (BM bi G) h' (BM bi G'):=
 ⟨⟨by rw[x.old bi w.lt w.nb];exact w.hb,w.o,w.t,hp,λhg=>by rcases x.BM bi hg with h|h;exact w.nb h;have:=w.lt;omega⟩,x.aGr⟩
def BX.step{A':Ar}{R:Ah->Prop}(w:BX h bi a o c t G b)(d:∀n m ps,PA h a n m ps b.a->∃h' n' m' Mj,R h'/\PA h' a n' m' Mj A'/\Ew h (λi=>i∈FA a n m ps) h' (λi=>i∈FA a n' m' Mj)):
  ∃h' G',R h'/\BX h' bi a o c t G' {b with a:=A'}/\Ew h (BM bi G) h' (BM bi G'):=by
 obtain⟨n,m,ps,g,e⟩:=w.w;obtain⟨h',n',m',Mj,r,w',x⟩:=d n m ps g;have k:G=λi=>i∈FA a n m ps:=funext λi=>propext (e i);obtain⟨j,f⟩:=w.aGs w'.pw (by rw[k];exact x);exact⟨h',_,r,j,f⟩
def BX.DZ(w:BX h bi a o c t G b){u:Ah}:Ew h (BM bi G) (h++u) (BM bi G):= .JL
def aGt{v:Aa}{l:List Int}{f:FuncId}{caps:List Aa}{q:Int->Bool}(hv:Jf l v)(hb:l.length<=1000000000)(hf:f<=99999)(hq:∀k∈l,∀u,∃d,Ca cx f (I k::caps) (h++u) (.bool (q k)) (h++u++d)):
  ∃u,Ca cx 253 [v,.func (.func f) [] caps] h (I (Cf q 0 l)) (h++u):=by
 have Gc:Bz 1 (l.map Cu) v:=hv;have Pb:Ev cx 253 [v,.func (.func f) [] caps] h λr h'=>r= I (Cf q 0 l)/\∃u,h'=h++u:=by
  unfold Ev;rw[wX,aCm];simp only[Ci,Gc.Ha];refine B1 (λk:Nat=>[I 0,I (k:Int)]) (λk h1=>k<=l.length/\Cf q 0 l=Cf q k (l.drop k)/\∃u,h1=h++u) (λk=>l.length-k) 0 rfl ⟨Bd _,rfl,[],Ax⟩ ?_;rintro k h1 ⟨hk,ha,u,rfl⟩;rcases Bk k l.length with hlt|Hh
  .have i1:(k:Int)<(l.length:Int):=by omega
   have g:Bi (h++u) none (.BW (Cu l[k]))=some (I l[k]):=rfl;obtain⟨d,e⟩:=hq _ (A5 hlt) u;rw[Az hlt,Cf] at ha;simp only[abS,↓reduceIte,Cz,i1,Gc.Dh hlt,g,hf,e.Ad,CR (Ac:k<9223372036854775807)];rw[C9];refine⟨λh2=>?_,λh2=>?_⟩;.exact⟨_,rfl,by rw[ha,Af h2],u++d,Ax⟩
   .rw[Ag (by simp[h2])] at ha;exact By.next (k+1) rfl ⟨hlt,ha,u++d,Ax⟩ Ac
  .have i1:¬(k:Int)<(l.length:Int):=by omega
   rw[AT Hh,Cf] at ha;simp only[abS,↓reduceIte,Cz,i1];exact⟨_,rfl,by rw[ha],u,rfl⟩
 obtain⟨r,h',hr,rfl,u,rfl⟩:=Pb.ret;exact⟨u,hr⟩
def à{l:List Int}{q:Int->Bool}:decide (0<=Cf q 0 l)=l.any q:=by
 rcases Gs (p:=q) (l:=l) (k:=0) with⟨h1,h2⟩|⟨n,y,h1,h2,d⟩
 .rw[h1,gw];have:=IN.1 h2;simpa using this
 .rw[h1,gw];have f:=Lb d;have e:=Hq d;rw[Al Ac,Ka];exact⟨y,e,f⟩
def BX.self(w:BX h bi a o c t G b){A':Ar}(e:A'=b.a):BX h bi a o c t G {b with a:=A'}:=by subst e;exact w
open Classical in
def jU{p bf:Int}(w:BX h bi a o c t G b)(ok:BA b)(rm:Cd b m):∃h' G',Ca cx 97 [Pt bi 0,I x,I p,I bf] h (.tuple []) h'/\BX h' bi a o c t G' {b with a:=b.a.HU x p bf}/\Ew h (BM bi G) h' (BM bi G'):=by
 obtain⟨K1,Z,d,J,_,_⟩:=Va w ok rm p;have w1:=w.JL (u:=d);have W:∀v,Aa.cells (.ptr v)=[.ptr v]:=λ_=>rfl;have ID:∀h2,(∃u,h2=h++u)->∃h' G',(∃s,Ca cx 66 [Pt a 0,I p,I x,I bf] h2 (I s) h')/\BX h' bi a o c t G' {b with a:=b.a.If p x bf}/\Ew h (BM bi G) h' (BM bi G'):=by
  rintro _ ⟨u,rfl⟩;have g:=w.JL (u:=u);obtain⟨h',G',r,w',x'⟩:=g.step (A':=b.a.If p x bf) (R:=λh'=>∃s,Ca cx 66 [Pt a 0,I p,I x,I bf] (h++u) (I s) h') (λn m ps P=>by obtain⟨s,h',Mj,r,wp,xp⟩:=ľ P rm.UY ok.ok (p:=p) (x:=x) (b:=bf);exact⟨h',n,m,Mj,⟨s,r⟩,wp,xp⟩)
  exact⟨h',G',r,w',w.DZ.trans x'⟩
 by_cases A:(b.a.nd p).kind=1
 .obtain⟨K2,Y,j,r2,_,_⟩:=Va w1 ok rm x;have g:=w1.JL (u:=j);by_cases D:(b.a.nd x).kind=4
  .obtain⟨U,V,sx,M⟩:=g.w.pa;obtain⟨K,O,T⟩:=ĳ (x:=p) M rm.UY (rm.UY.Bw ok.ok p);obtain⟨H,S⟩:=aGt (h:=h++d++j) (f:=190) (caps:=[.BW [Pt bi 0]]) (q:=λk=>decide ((b.a.nd k).kind=4)) T (rm.UY.Bw ok.ok p) AI (λk _ u=>by have E:=g.JL (u:=u);obtain⟨K3,X,Q,y,_,_⟩:=Va E ok rm k;refine⟨Q,?_⟩;rw[Ae,vC,aBB];simp only[Ci,y.Ad])
   have i:Ca cx 188 [K,.func (.func 190) [] [.BW [Pt bi 0]]] (h++d++j) (.bool ((b.a.nd p).Bw.any λk=>decide ((b.a.nd k).kind=4))) (h++d++j++H):=by rw[Ae,vB,aBA,<-à];simp only[Ci,S.Ad]
   have E:=g.JL (u:=H);by_cases L:∃k∈(b.a.nd p).Bw,(b.a.nd k).kind=4
   .have N:((b.a.nd p).Bw.any λk=>decide ((b.a.nd k).kind=4))=true:=by simpa using L
    rw[N] at i;have z:b.a.HU x p bf=b.a:=by unfold Ar.HU;rw[Af ⟨A,D,L⟩]
    refine⟨_,G,?_,E.self z,(w.DZ.trans w1.DZ).trans g.DZ⟩;rw[Ae,Xq,t97];simp only[abS,J.Ad,A,r2.Ad,D,g.l0,O.Ad,i.Ad]
   .have N:((b.a.nd p).Bw.any λk=>decide ((b.a.nd k).kind=4))=false:=by rw[aOO];intro k hk;simpa using λe=>L ⟨k,hk,e⟩
    rw[N] at i;have z:b.a.HU x p bf=b.a.If p x bf:=by unfold Ar.HU;rw[Ag (λh=>L h.2.2)]
    obtain⟨h',G',⟨s,y⟩,C,B⟩:=ID (h++d++j++H) ⟨d++j++H,Ax⟩;refine⟨h',G',?_,by rw[z];exact C,B⟩;rw[Ae,Xq,t97];simp only[abS,J.Ad,A,r2.Ad,D,g.l0,O.Ad,i.Ad,E.l0,y.Ad]
  .have z:b.a.HU x p bf=b.a.If p x bf:=by unfold Ar.HU;rw[Ag (λh=>D h.2.1)]
   obtain⟨h',G',⟨s,y⟩,C,B⟩:=ID (h++d++j) ⟨d++j,Ax⟩;refine⟨h',G',?_,by rw[z];exact C,B⟩;rw[Ae,Xq,t97];simp only[abS,J.Ad,A,r2.Ad,D,g.l0,y.Ad]
 .have z:b.a.HU x p bf=b.a.If p x bf:=by unfold Ar.HU;rw[Ag (λh=>A h.1)]
  obtain⟨h',G',⟨s,y⟩,C,B⟩:=ID (h++d) ⟨d,rfl⟩;refine⟨h',G',?_,by rw[z];exact C,B⟩;rw[Ae,Xq,t97];simp only[abS,J.Ad,A,w1.l0,y.Ad]
def aGu(w:BX h bi a o c t G b)(ok:BA b)(rm:Cd b m)(p:Int):∃u,Ca cx 139 [Pt bi 0,I p] h (I (b.LY p)) (h++u):=by
 obtain⟨n,j,d,f,_,_⟩:=Va w ok rm p;have w1:=w.JL (u:=d);unfold BS.LY;by_cases hc:(b.a.nd p).cont=0
 .refine⟨d,?_⟩;rw[Ag (by simp[hc]),Ae,cJ,U_];simp only[abS,f.Ad,hc,CA,Cq,w1.l1];refine⟨λh1=>?_,λh1=>?_⟩;.rw[Af h1]
  .rw[Ag h1]
 .obtain⟨k,i,e,r2,_,_⟩:=Va w1 ok rm (b.a.nd p).cont;have g:=w1.JL (u:=e);refine⟨d++e,?_⟩;rw[Af hc,<-AQ,Ae,cJ,U_];simp only[abS,f.Ad,r2.Ad,hc,CA,g.l1];refine⟨λh1=>?_,λh1=>?_⟩;.rw[Af h1]
  .rw[Ag h1]
def XB(nm:Ak)(av:Aa)(r:List Aa):Prop:=∃n k j i g f e d fC sB,r=[n,.str nm,k,j,i,g,f,e,av,d,fC,sB]
def QH:Aa.agg Item.zero.row= .agg [I 0,I 0,S [],ff]:=rfl
variable{nm:Ak}{av:Aa}{l:List A7}{r:List Aa}{sp p:Int}
def Cd.len{k:Nat}(rm:Cd b k)(hk:3<=k):b.a.len+3<=1000000000:=by have:=rm.n;unfold Ar.len;omega
def th(w:BX h bi a o c t G b)(ok:BA b)(rm:Cd b (m+3))(hr:XB nm av r)(hv:A8 l av)(hl:EM l)(hn:nm.length<=1000)(p sp:Int):
  ∃h' G',Ca cx 59 [Pt bi 0,.agg r,I sp,I p] h (.agg (b.JP nm l sp).row) h'/\BX h' bi a o c t G' (b.Fz nm l sp p)/\Ew h (BM bi G) h' (BM bi G'):=by
 obtain⟨N,M,L,K,J,H,E,D,fC,sB,rfl⟩:=hr;by_cases hs:BS.Lu sp
 .obtain⟨C,s,hu⟩:=aLm (h:=h) hv hl.1 sp;have w1:=w.JL (u:=[.map (ft 11)]);obtain⟨j,r2⟩:=aGu w1 ok rm p;have g:=w1.JL (u:=j);have hd:=Tz ok (p:=p);have i:∀y∈l.map (DL sp),BS.Lu y.A9:=by intro y hy;obtain⟨z,_,rfl⟩:=AZ.1 hy;exact oM
  obtain⟨h',G',⟨f,_⟩,B,v⟩:=g.step (A':=b.a.elem (b.LY p) sp (BS.MP sp nm) (l.map (DL sp))) (R:=λh'=>Ca cx 138 [Pt a 0,I (b.LY p),I sp,.str (BS.MP sp nm),C] (h++[.map (ft 11)]++j) (.tuple [I (b.a.len+1),I 0]) h'/\True) (λn m ps A=>by obtain⟨h',n',m',Mj,r,wp,xp,_⟩:=aGc A rm.UY (rm.len Ac) hd hs hu (by rw[As];have:=hl.1;omega) i (nm:=BS.MP sp nm);exact⟨h',n',m',Mj,⟨r,trivial⟩,wp,xp⟩)
  have d:=f96 (h:=h') hu (λy hy=>by obtain⟨z,hz,rfl⟩:=AZ.1 hy;rw[cy];have:=(hl.2 z hz).2;have:AK=140737488355328:=rfl;omega) (by rw[As];have:=hl.1;omega) sp (BS.MP sp nm);have em:Ay (.BV [I 0,I 0,S [],ff] [(0,1),(1,1),(2,1),(3,1)]) [I (b.a.len+1),I sp,.str (BS.MP sp nm),.bool (Iv sp (BS.MP sp nm) (l.map (DL sp)))]=some (.agg (b.JP nm l sp).row):=by rw[bn];unfold BS.JP;rw[Af hs]
  refine⟨h',G',?_,by unfold BS.Fz;rw[Af hs];exact B,(w.DZ.trans w1.DZ).trans v⟩;have q:¬sp<0:=by have:=hs.1;omega
  have k:¬7<sp:=by have:=hs.2;omega
  have hlen:=λ(y:Item)=>@Item.DS y;rw[Ae,oW,t59];by_cases h2:sp=2
  .have e:BS.MP sp nm=DG nm Ni:=by unfold BS.MP;rw[Af h2]
   rw[e] at f d em;subst h2;simp only[abS,↓reduceIte,Bv,JB,(HV w).Ad,q,k,Fc,s.Ad,GN,Cq,(aKJ nm).BG rfl rfl,w1.l0,r2.Ad,g.l0,C8,f.Ad,CA,d.Ad,em,hlen]
  .have e:BS.MP sp nm=nm:=by unfold BS.MP;rw[Ag h2]
   rw[e] at f d em;simp only[abS,↓reduceIte,Bv,JB,(HV w).Ad,q,k,Fc,s.Ad,h2,w1.l0,r2.Ad,g.l0,C8,f.Ad,CA,Cq,d.Ad,em,hlen]
 .refine⟨h,G,?_,by unfold BS.Fz;rw[Ag hs];exact w,.refl⟩;have e:b.JP nm l sp=Item.zero:=by unfold BS.JP;rw[Ag hs]
  rw[e,QH,Ae,oW,t59];unfold BS.Lu at hs;by_cases h1:sp<0;.simp only[abS,↓reduceIte,Bv,(HV w).Ad,h1,GN]
  .simp only[abS,↓reduceIte,Bv,(HV w).Ad,h1,Fc,(Ac:7<sp),GN]
def BN{k:Nat}{v:Aa}:Ew h (BM bi G) (put h bi k v) (BM bi G):=⟨by rw[Ls];exact Ab _,λi _ hn=>CU λe=>hn (.inl e),λ_ h=> .inl h⟩
def BX.put{k:Nat}{v o' c' t':Aa}{b':BS}(w:BX h bi a o c t G b)(e:(Oc a b o c t).set k v=Oc a b' o' c' t')(ea:b'.a=b.a)(ho:Dy b'.AL o')(ht:Sw b'.tm t'):BX (Am.put h bi k v) bi a o' c' t' G b':=
 ⟨by rw[HO w.hb,e];exact AA w.lt,ho,ht,by rw[ea];exact w.w.DT λi hi=>CU λe=>w.nb (e▸hi),w.nb⟩
def BX.Mk{u:Aa}{l:List Item}(w:BX h bi a o c t G b)(hu:Dy l u):BX (Am.put h bi 2 u) bi a u c t G {b with AL:=l}:=w.put rfl rfl hu w.t
def BX.PD{u:Aa}{l:List Cp}(w:BX h bi a o c t G b):BX (Am.put h bi 3 u) bi a o u t G {b with AY:=l}:=w.put rfl rfl w.o w.t
def BX.st{k:Nat}{v v0:Aa}(w:BX h bi a o c t G b)(hk:(Oc a b o c t)[k]?=some v0)(hv:v.cells=[v]):CH h 1 (Pt bi k) v=some (Am.put h bi k v):=At.store (v:=v0) ⟨_,w.hb,hk⟩ hv
variable{nm:Ak}{av:Aa}{l:List A7}{r:List Aa}{sp p:Int}
def aLn(w:BX h bi a o c t G b)(ok:BA b)(rm:Cd b (m+4))(hr:XB nm av r)(hv:A8 l av)(hl:EM l)(hn:nm.length<=1000)(sp:Int):
  ∃h' o' G',Ca cx 102 [Pt bi 0,.func (.func 59) [Pt bi 0] [],.agg r,I sp] h (I (b.No sp)) h'/\BX h' bi a o' c t G' (b.E5 nm l sp)/\Ew h (BM bi G) h' (BM bi G'):=by
 obtain⟨v,q⟩:=ß w ok rm 0;have w1:=w.JL (u:=v);obtain⟨h2,B,r2,n,j⟩:=th (m:=m+1) w1 ok (rm.le Ac) hr hv hl hn (b.place 0).1 sp;have Hd:=hr;obtain⟨M,L,K,J,H,E,D,C,fC,sB,rfl⟩:=hr;have ho:=rm.AL;by_cases hs:BS.Lu sp
 .have f:=oa (nm:=nm) (at_:=l) (p:=(b.place 0).1) ok hs;have pJ:=Lw (m:=m+1) (nm:=nm) (sp:=sp) (p:=(b.place 0).1) (rm.le Ac) hl;have Ł:(b.JP nm l sp).node=b.a.len+1:=by unfold BS.JP;rw[Af hs]
  have eZ:¬(b.a.len+1=0):=by unfold Ar.len;omega
  have Qu:(b.Fz nm l sp (b.place 0).1).AL=b.AL:=by unfold BS.Fz;rw[Af hs]
  obtain⟨z,A,y,k,s⟩:=jU (x:=b.a.len+1) (p:=(b.place 0).1) (bf:=(b.place 0).2) n f pJ;obtain⟨v4,d,g⟩:=f95 k.sO (by simp only[Qu];omega) (b.JP nm l sp);refine⟨Am.put z bi 2 v4,v4,A,?_,?_,((w.DZ.trans j).trans s).trans BN⟩
  .have i:b.No sp=b.a.len+1:=by unfold BS.No;rw[Af hs]
   rw[Ae,cE,P_,i];simp only[abS,Nat.reduceAdd,↓reduceIte,Cz,JB,q.Ad,(AI:(59:Nat)<=99999),r2.Ad,Ł,eZ,CA,y.Ad];have e:=@Item.UX (b.JP nm l sp);rw[Ł] at e;rw[<-e] at d;simp only[e] at d⊢;simp only[d.Ad,Ci]
  .have:=k.Mk g;unfold BS.E5;rw[Af hs];exact this
 .refine⟨h2,o,B,?_,?_,w.DZ.trans j⟩
  .have e:b.JP nm l sp=Item.zero:=by unfold BS.JP;rw[Ag hs]
   have i:b.No sp=0:=by unfold BS.No;rw[Ag hs]
   rw[e,QH] at r2;rw[Ae,cE,P_,i];simp only[abS,Nat.reduceAdd,↓reduceIte,Cz,JB,q.Ad,(AI:(59:Nat)<=99999),r2.Ad,CA,Cq]
  .have:b.E5 nm l sp=b.Fz nm l sp (b.place 0).1:=by unfold BS.E5 BS.Fz;rw[Ag hs,Ag hs]
   rw[this];exact n
def aCQ(w:BX h bi a o c t G b)(ok:BA b)(rm:Cd b (m+4))(hr:XB nm av r)(hv:A8 l av)(hl:EM l)(hn:nm.length<=1000)(sp:Int):
  ∃h' o' G',Ca cx 41 [Pt bi 0,.agg r,I sp] h (I (b.No sp)) h'/\BX h' bi a o' c t G' (b.E5 nm l sp)/\Ew h (BM bi G) h' (BM bi G'):=by
 obtain⟨h',o',G',d,w',x'⟩:=aLn w ok rm hr hv hl hn sp;refine⟨h',o',G',?_,w',x'⟩;obtain⟨q,n,k,j,i,g,f,e,fC,sB,rfl⟩:=hr;rw[Ae,pc,t41];simp only[abS,(HV w).Ad,d.Ad]
def dh(w:BX h bi a o c t G b)(ok:BA b)(rm:Cd b (m+4))(hr:XB nm av r)(hv:A8 l av)(hl:EM l)(hn:nm.length<=1000):
  ∃h' o' G',Ca cx 39 [Pt bi 0,.agg r] h (I (b.a.len+1)) h'/\BX h' bi a o' c t G' (b.E5 nm l 1)/\Ew h (BM bi G) h' (BM bi G'):=by
 obtain⟨h',o',G',d,w',x'⟩:=aCQ w ok rm hr hv hl hn 1;refine⟨h',o',G',?_,w',x'⟩;have e:b.No 1=b.a.len+1:=by unfold BS.No;rw[Af Mh]
 rw[e] at d;obtain⟨s,q,n,k,j,i,g,f,fC,sB,rfl⟩:=hr;rw[Ae,o_,t39];simp only[Ci,d.Ad]
end
def Dj(l:List Cp)(v:Aa):Prop:=∃fs:List C1,fs.map (·.c)=l/\EJ fs v
def Ux{U Z:Type}{f:U->Z}{q:Z->Bool}{l:List U}:AX q (l.map f)=AX (λx=>q (f x)) l:=by unfold AX;rw[<-SX,List.findIdx?_map,As];rfl
def pK{U Z:Type}{f:U->Z}{l:List U}{k:Nat}:(BB l k).map f=BB (l.map f) k:=by unfold BB;simp
def á{fs:List C1}:since fs=oE (fs.map (·.c)):=by unfold since oE;rw[Ux];rfl
def XC{n:Int}{fs:List C1}:Ko n fs=FC n (fs.map (·.c)):=by unfold Ko FC;rw[Ux];rfl
def xV{nm:Ak}{fs:List C1}:QE nm fs=Fj nm (fs.map (·.c)):=by
 unfold QE Fj;rw[<-SX];generalize fs.reverse=r;induction r with
 |nil=>rfl
 |cons x r ih=>simp only[A0,sN,Xf,ih,As]
def aGv{e:Cp}{fs:List C1}:Yy e fs=sV e (fs.map (·.c)).reverse:=by
 unfold Yy;rw[<-SX];generalize fs.reverse=r;induction r with
 |nil=>rfl
 |cons x r ih=>simp only[A0,z_,sV,ih]
def aGw{e:Cp}{fs:List C1}:Q5 e fs=i5 e (fs.map (·.c)).reverse:=by
 unfold Q5;rw[<-SX];generalize fs.reverse=r;induction r with
 |nil=>rfl
 |cons x r ih=>simp only[A0,nZ,i5,ih,As]
def tj{e:Cp}{d:C1}{fs:List C1}(he:d.c=e):(Q6 e fs++[d]).map (·.c)=i6 e (fs.map (·.c)):=by
 unfold Q6 i6;rw[aGv,aGw,BP,aM5,he];split;.rw[pK]
 .rfl
def dN{fs:List C1}:(fs.take (Hz fs)).map (·.c)=FD (fs.map (·.c)):=by unfold FD Hz;rw[GO,á]
def â{l:List Cp}{fs:List C1}(e:fs.map (·.c)=l)(h:∀x∈l,x.Av.length<=1000):∀x∈fs,gi x:=by intro x hx;have:=h x.c (by rw[<-e];exact AZ.2 ⟨x,hx,rfl⟩);unfold gi;omega
section
variable{h h':Ah}{bi a:Nat}{o c t:Aa}{G G' F:Nat->Prop}{b:BS}{x:Int}{m:Nat}
variable{nm:Ak}{av:Aa}{l:List A7}{r:List Aa}{sp p:Int}
def aGx(w:BX h bi a o c t G b)(hc:Dj b.AY c)(ok:E6 b)(rm:Cd b (m+5))(hr:XB nm av r)(hv:A8 l av)(hl:EM l)(hn:nm.length<=1000):
  ∃h' o' c' G',Ca cx 42 [Pt bi 0,.agg r] h (I (b.a.len+1)) h'/\BX h' bi a o' c' t G' (b.Hm nm l)/\Dj (b.Hm nm l).AY c'/\Ew h (BM bi G) h' (BM bi G'):=by
 obtain⟨h1,j,k,i,w1,g⟩:=dh (m:=m+1) w ok (rm.le Ac) hr hv hl hn;obtain⟨fs,d,hf⟩:=hc;have ha:=rm.AY;have Im:fs.length=b.AY.length:=by rw[<-d,As]
 obtain⟨u,n,aR,r2,hu⟩:=f30 (h:=h1) (id:=bi) (o:=3) (l:=fs) ⟨c,w1.lO,hf⟩ Ac (â d λx hx=>((rm.C5 x hx).2).1) (e:=⟨⟨b.a.len+1,nm,l⟩,av,hv⟩) (by unfold gi;have:=hl.1;simp only;omega);refine⟨_,j,u,k,?_,w1.PD (u:=u),?_,g.trans BN⟩
 .obtain⟨C,B,A,z,y,v,s,q,fC,sB,rfl⟩:=hr;have eZ:¬(b.a.len+1=0):=by unfold Ar.len;omega
  have f:Ca cx 103 [Pt bi 3,.agg [I (b.a.len+1),.str nm,av]] h1 (.tuple []) (put h1 bi 3 u):=r2;have fm:av.cells=[av]:=Bz.cells hv;rw[Ae,pd,t42];simp only[abS,Nat.reduceLeDiff,↓reduceIte,Bv,i.Ad,eZ,CA,fm,f.Ad]
 .refine⟨_,?_,hu⟩;rw[tj aR,d];unfold BS.Hm;simp only;rw[E7]
end
def aGy:∀x:Fin 64,(BitVec.ofInt 8 192|||BitVec.ofInt 8 (x.val:Int)).toNat=192+x.val:=AI
def aGz:∀x:Fin 32,(BitVec.ofInt 8 224|||BitVec.ofInt 8 (x.val:Int)).toNat=224+x.val:=AI
def aGA:∀x:Fin 16,(BitVec.ofInt 8 240|||BitVec.ofInt 8 (x.val:Int)).toNat=240+x.val:=AI
def aGB:∀x:Fin 64,(BitVec.ofInt 8 128|||BitVec.ofInt 8 (x.val:Int)).toNat=128+x.val:=AI
def aGC:∀x:Fin 256,(BitVec.ofInt 8 (x.val:Int)&&& BitVec.ofInt 8 63).toNat=x.val%64:=AI
def xW{a b:Int}:Ay (.int .or) [.int .u8 a,.int .u8 b]=some (.int .u8 (IntKind.u8.wrap (BitVec.ofInt 8 a|||BitVec.ofInt 8 b).toNat)):=rfl
def aCR{a b:Int}:Ay (.int .and) [.int .u8 a,.int .u8 b]=some (.int .u8 (IntKind.u8.wrap (BitVec.ofInt 8 a&&& BitVec.ofInt 8 b).toNat)):=rfl
def tk{x:Nat}(h:x<64):Ay (.int .or) [.int .u8 192,.int .u8 (x:Int)]=some (.int .u8 ((192+x:Nat):Int)):=by rw[xW,aGy ⟨x,h⟩,IntKind.wrap_u8];congr 2;simp only;omega
def jV{x:Nat}(h:x<32):Ay (.int .or) [.int .u8 224,.int .u8 (x:Int)]=some (.int .u8 ((224+x:Nat):Int)):=by rw[xW,aGz ⟨x,h⟩,IntKind.wrap_u8];congr 2;simp only;omega
def tl{x:Nat}(h:x<16):Ay (.int .or) [.int .u8 240,.int .u8 (x:Int)]=some (.int .u8 ((240+x:Nat):Int)):=by rw[xW,aGA ⟨x,h⟩,IntKind.wrap_u8];congr 2;simp only;omega
def KY{x:Nat}(h:x<64):Ay (.int .or) [.int .u8 128,.int .u8 (x:Int)]=some (.int .u8 ((128+x:Nat):Int)):=by rw[xW,aGB ⟨x,h⟩,IntKind.wrap_u8];congr 2;simp only;omega
def KZ{x:Nat}(h:x<256):Ay (.int .and) [.int .u8 (x:Int),.int .u8 63]=some (.int .u8 ((x%64:Nat):Int)):=by rw[aCR,aGC ⟨x,h⟩,IntKind.wrap_u8];congr 2;simp only;omega
def VB{n:Nat}:Ay (.int .shr) [.int .i32 (n:Int),.int .u64 6]=some (.int .i32 ((n/64:Nat):Int)):=by rw[show Ay (.int .shr) [.int .i32 (n:Int),.int .u64 6]=some (.int .i32 ((n:Int).fdiv 64)) from rfl,PO _ Ac];rfl
def XD{n:Nat}:Ay (.int .shr) [.int .i32 (n:Int),.int .u64 12]=some (.int .i32 ((n/4096:Nat):Int)):=by rw[show Ay (.int .shr) [.int .i32 (n:Int),.int .u64 12]=some (.int .i32 ((n:Int).fdiv 4096)) from rfl,PO _ Ac];rfl
def tn{n:Nat}:Ay (.int .shr) [.int .i32 (n:Int),.int .u64 18]=some (.int .i32 ((n/262144:Nat):Int)):=by rw[show Ay (.int .shr) [.int .i32 (n:Int),.int .u64 18]=some (.int .i32 ((n:Int).fdiv 262144)) from rfl,PO _ Ac];rfl
def XE{k:IntKind}{n:Nat}:Ay (.conv .u8) [.int k (n:Int)]=some (.int .u8 ((n%256:Nat):Int)):=by rw[Vl,IntKind.wrap_u8];congr 2
def dO{n:Int}:Ay (.conv .u32) [.int .i32 n]=some (.int .u32 (n%4294967296)):=by rw[Vl,IntKind.wrap_u32]
def xk{n:Nat}(h:n<256):((UInt8.ofNat n).toNat:Int)=(n:Int):=by rw[UInt8.toNat_ofNat'];congr 1;omega
def xl(b:UInt8):Aa:= .int .u8 (b.toNat:Int)
def Kv{h:Ah}{bs:Ak}(hb:bs≠[])(hl:bs.length<=8):FT h 1 1 .slnil (.sl 1 (CY bs))=some (h++[.cells (bs.map xl)],.CW h.length 0 bs.length 1):=by
 have Im:∀bs:Ak,(CY bs).flatten=bs.map xl:=by
  intro bs;induction bs with
  |nil=>rfl
  |cons c bs ih=>show[xl c]++(CY bs).flatten=_;rw[ih];rfl
 cases bs with
 |nil=>exact absurd rfl hb
 |cons c bs=>
  have hm:AK=140737488355328:=rfl;have hlen:(CY (c::bs)).length=(c::bs).length:=by simp[CY]
  have e:CY (c::bs)=[.int .u8 c.toNat]::CY bs:=rfl;have a:Gb h 1 (.sl 1 (CY (c::bs)))=some (CY (c::bs)):=by simp[Gb]
  unfold FT;rw[a,e];simp only
  rw[<-e,Af (by rw[hlen];omega),Im,hlen]
def aLp{h:Ah}(r:Int)(hr: -2147483648<=r/\r<=2147483647):Ca cx 107 [.slnil,.int .i32 r] h (.CW h.length 0 (LZ r).length 1) (h++[.cells ((LZ r).map xl)]):=by
 have one:∀{a:Nat} (h1:a<256),Ay (.Cl 1) [.int .u8 (a:Int)]=some (.sl 1 (CY [UInt8.ofNat a])):=by intro a h1;simp only[CY,A0,Dc,xk h1];rfl
 have JA:∀{a b:Nat} (h1:a<256) (h2:b<256),Ay (.Cl 1) [.int .u8 (a:Int),.int .u8 (b:Int)]=some (.sl 1 (CY [UInt8.ofNat a,UInt8.ofNat b])):=by intro a b h1 h2;simp only[CY,A0,Dc,xk h1,xk h2];rfl
 have YZ:∀{a b c:Nat} (h1:a<256) (h2:b<256) (d:c<256),Ay (.Cl 1) [.int .u8 (a:Int),.int .u8 (b:Int),.int .u8 (c:Int)]=some (.sl 1 (CY [UInt8.ofNat a,UInt8.ofNat b,UInt8.ofNat c])):=by intro a b c h1 h2 d;simp only[CY,A0,Dc,xk h1,xk h2,xk d];rfl
 have four:∀{a b c f:Nat} (h1:a<256) (h2:b<256) (d:c<256) (i:f<256),Ay (.Cl 1) [.int .u8 (a:Int),.int .u8 (b:Int),.int .u8 (c:Int),.int .u8 (f:Int)]=some (.sl 1 (CY [UInt8.ofNat a,UInt8.ofNat b,UInt8.ofNat c,UInt8.ofNat f])):=by intro a b c f h1 h2 d i;simp only[CY,A0,Dc,xk h1,xk h2,xk d,xk i];rfl
 have Œ:Ay (.Cl 1) [.int .u8 239,.int .u8 191,.int .u8 189]=some (.sl 1 (CY [239,191,189])):=rfl;rw[Ae,tM,aAW];simp only[Ci,dO];by_cases h0:0<=r
 .obtain⟨n,rfl⟩:=SV h0;have em:(n:Int)%4294967296=(n:Int):=Ac;rw[em];by_cases q:n<128
  .have e:LZ (n:Int)=[UInt8.ofNat n]:=by unfold LZ;rw[Af Ac];rfl
   have j:n%256=n:=Ac;rw[e];simp only[Ci,bK,(Ac:(n:Int)<=127),XE,j,one (Ac:n<256),Kv (bs:=[UInt8.ofNat n]) Ax Ax]
  .have aCS:Ca cx 200 [.slnil,.int .i32 (n:Int)] h (.CW h.length 0 (LZ (n:Int)).length 1) (h++[.cells ((LZ (n:Int)).map xl)]):=by
    rw[Ae,cZ,Ë];simp only[Ci,dO,em];by_cases p:n<2048
    .have e:LZ (n:Int)=[UInt8.ofNat (192+n/64),UInt8.ofNat (128+n%64)]:=by unfold LZ;rw[Ag Ac,Af Ac];rfl
     rw[e];have a1:n/64%256=n/64:=Ac;have a2:n%256%64=n%64:=Ac;simp only[Ci,bK,(Ac:(n:Int)<=2047),VB,XE,a1,tk (Ac:n/64<64),KZ (Ac:n%256<256),a2,KY (Ac:n%64<64),JA (Ac:192+n/64<256) (Ac:128+n%64<256),Kv (bs:=[UInt8.ofNat (192+n/64),UInt8.ofNat (128+n%64)]) Ax Ax]
    .by_cases o:n<65536/\¬(55296<=n/\n<57344)
     .have e:LZ (n:Int)=[UInt8.ofNat (224+n/4096),UInt8.ofNat (128+n/64%64),UInt8.ofNat (128+n%64)]:=by unfold LZ;rw[Ag Ac,Ag Ac,Af Ac];rfl
      rw[e];have a1:n/4096%256=n/4096:=Ac;have a2:n/64%256%64=n/64%64:=Ac;have a3:n%256%64=n%64:=Ac;have g:=Kv (h:=h) (bs:=[UInt8.ofNat (224+n/4096),UInt8.ofNat (128+n/64%64),UInt8.ofNat (128+n%64)]) Ax Ax;have t3:=YZ (Ac:224+n/4096<256) (Ac:128+n/64%64<256) (Ac:128+n%64<256);by_cases m:n<55296;.simp only[abS,(Ac:¬(n:Int)<=2047),(Ac:(n:Int)<55296),VB,XD,XE,a1,jV (Ac:n/4096<32),KZ (Ac:n/64%256<256),a2,KY (Ac:n/64%64<64),KZ (Ac:n%256<256),a3,KY (Ac:n%64<64),t3,g]
      .simp only[abS,(Ac:¬(n:Int)<=2047),(Ac:¬(n:Int)<55296),(Ac:(57343:Int)<n),(Ac:(n:Int)<=65535),VB,XD,XE,a1,jV (Ac:n/4096<32),KZ (Ac:n/64%256<256),a2,KY (Ac:n/64%64<64),KZ (Ac:n%256<256),a3,KY (Ac:n%64<64),t3,g]
     .by_cases l:65536<=n/\n<=1114111
      .have e:LZ (n:Int)=[UInt8.ofNat (240+n/262144),UInt8.ofNat (128+n/4096%64),UInt8.ofNat (128+n/64%64),UInt8.ofNat (128+n%64)]:=by unfold LZ;rw[Ag Ac,Ag Ac,Ag Ac,Af Ac];rfl
       rw[e];have a0:n/262144%256=n/262144:=Ac;have a1:n/4096%256%64=n/4096%64:=Ac;have a2:n/64%256%64=n/64%64:=Ac;have a3:n%256%64=n%64:=Ac;have g:=Kv (h:=h) (bs:=[UInt8.ofNat (240+n/262144),UInt8.ofNat (128+n/4096%64),UInt8.ofNat (128+n/64%64),UInt8.ofNat (128+n%64)]) Ax Ax;have t4:=four (Ac:240+n/262144<256) (Ac:128+n/4096%64<256) (Ac:128+n/64%64<256) (Ac:128+n%64<256);simp only[abS,(Ac:¬(n:Int)<=2047),(Ac:¬(n:Int)<55296),(Ac:(57343:Int)<n),(Ac:¬(n:Int)<=65535),(Ac:(65535:Int)<n),(Ac:(n:Int)<=1114111),VB,XD,tn,XE,a0,tl (Ac:n/262144<16),KZ (Ac:n/4096%256<256),a1,KY (Ac:n/4096%64<64),KZ (Ac:n/64%256<256),a2,KY (Ac:n/64%64<64),KZ (Ac:n%256<256),a3,KY (Ac:n%64<64),t4,g]
      .have e:LZ (n:Int)=[239,191,189]:=by unfold LZ;rw[Ag Ac,Ag Ac,Ag Ac,Ag Ac]
       rw[e];have g:=Kv (h:=h) (bs:=[239,191,189]) Ax Ax;by_cases k:n<65536;.simp only[abS,(Ac:¬(n:Int)<=2047),(Ac:¬(n:Int)<55296),(Ac:¬(57343:Int)<n),(Ac:¬(65535:Int)<n),Œ,g]
       .simp only[abS,(Ac:¬(n:Int)<=2047),(Ac:¬(n:Int)<55296),(Ac:(57343:Int)<n),(Ac:¬(n:Int)<=65535),(Ac:(65535:Int)<n),(Ac:¬(n:Int)<=1114111),Œ,g]
   simp only[abS,(Ac:¬(n:Int)<=127),aCS.Ad]
 .have e:LZ r=[239,191,189]:=by unfold LZ;rw[Ag Ac,Ag Ac,Ag Ac,Ag Ac]
  have g:=Kv (h:=h) (bs:=[239,191,189]) Ax Ax;have aCS:Ca cx 200 [.slnil,.int .i32 r] h (.CW h.length 0 (LZ r).length 1) (h++[.cells ((LZ r).map xl)]):=by rw[e,Ae,cZ,Ë];simp only[abS,dO,(Ac:¬(r%4294967296)<=2047),(Ac:¬(r%4294967296)<55296),(Ac:(57343:Int)<r%4294967296),(Ac:¬(r%4294967296)<=65535),(Ac:(65535:Int)<r%4294967296),(Ac:¬(r%4294967296)<=1114111),Œ,g]
  simp only[abS,(Ac:¬(r%4294967296)<=127),aCS.Ad]
def XF(r:Int):(LZ r).length<=4:=by unfold LZ;split<;>(try split)<;>(try split)<;>(try split)<;>simp
def tq{l:List Int}{bf:Int}(hb:bf≠0->bf∈l):∃i,i<=l.length/\(bf=0->i=l.length)/\(bf≠0->Cf (λy=>decide (bf=y)) 0 l=(i:Int))/\Tw l bf=if i=0 then none else l[i-1]?:=by
 by_cases h0:bf=0
 .refine⟨l.length,Ab _,λ_=>rfl,λh=>absurd h0 h,?_⟩;unfold Tw;rw[Af h0,Qr];split;.rename_i h;rw[C4 Ac]
  .rfl
 .obtain⟨k,j,e,g,d,f⟩:=dM (hb h0);refine⟨k,Ac,λh=>absurd h h0,λ_=>e,?_⟩;unfold Tw;rw[Ag h0,d,Qr,AB,CG Ac];split;.rename_i h;subst h;simp
  .rw[Cn];rw[Af Ac]
def xX{s u:Ak}(h:s.length+u.length<=2000000000):Ay (.str .add) [.str s,.str u]=some (.str (s++u)):=by have:s.length+u.length<=9223372036854775807:=Ac;simp[Ay,fH,this]
def ZK:∀s:Ak,(CY s).flatten=s.map xl
 |[]=>rfl
 |c::s=>by show[xl c]++(CY s).flatten=_;rw[ZK s];rfl
section
variable{h h':Ah}{bi a:Nat}{o c t:Aa}{G G' F:Nat->Prop}{b:BS}{x:Int}{m:Nat}
variable{nm:Ak}{av:Aa}{l:List A7}{r:List Aa}{sp p:Int}
def xY{k d:Int}{s:Ak}(ok:E6 b)(rm:Cd b (m+1))(hk:k=5\/k=6)(hd:b.a.has d/\(b.a.nd d).kind=1)(hs:s.length<=100000):E6 {b with a:=b.a.add {kind:=k,Cy:=d,data:=s}}/\Cd {b with a:=b.a.add {kind:=k,Cy:=d,data:=s}} m:=
 ⟨ok.IH (bW ok.ok (by unfold Ar.len;omega) hd hk) Xi,rm.FQ (k:=1) (KW (Bd _) hs)⟩
def aGD(w:BX h bi a o c t G b)(ok:E6 b)(rm:Cd b (m+5))(r:Int)(hr: -2147483648<=r/\r<=2147483647):
  ∃h' G',Ca cx 43 [Pt bi 0,.int .i32 r] h (.tuple []) h'/\BX h' bi a o c t G' (b.OM r)/\Ew h (BM bi G) h' (BM bi G'):=by
 obtain⟨f,D⟩:=ß w ok rm 0;obtain⟨hp,hbf⟩:=jE ok (t:=0) (.inl rfl);have w1:=w.JL (u:=f);unfold BS.OM;generalize(b.place 0).1=p at*;generalize(b.place 0).2=bf at*;obtain⟨K,V,d,r2,X,_⟩:=Va w1 ok rm p;have Z:=w1.JL (u:=d);have x2:Ew h (BM bi G) (h++f++d) (BM bi G):=w.DZ.trans w1.DZ;unfold BS.Ra;by_cases hk:(b.a.nd p).kind=4\/(b.a.nd p).kind=2;rotate_left
 .refine⟨_,G,?_,?_,x2⟩;.have k4:¬(b.a.nd p).kind=4:=λe=>hk (.inl e);have k2:¬(b.a.nd p).kind=2:=λe=>hk (.inr e);rw[Ae,Xo,t43];simp only[abS,(HV w).Ad,D.Ad,r2.Ad,CA,k4,k2]
  .rw[Ag hk];exact Z
 rw[Af hk];obtain⟨i,hi,ĺ,xh,hpv⟩:=tq (l:=(b.a.nd p).Bw) (bf:=bf) (λh=>by have:=hbf h;have h2:=(ok.ok.He bf this.1 (by rw[this.2];have:=hp.1;omega)).2;rwa [this.2] at h2);rw[hpv];have Y0:=rm.UY.Bw ok.ok p;have H:=aCJ (h:=h++f++d) (x:=bf) X.Su Y0;have g:=aLp (h:=h++f++d) r hr;have fu:=XF r;generalize hs:LZ r=s at*;have f3:KO (h++f++d++[.cells (s.map xl)]) (.CW (h++f++d).length 0 s.length 1)=some (h++f++d++[.Ds],.sl 1 (CY s)):=by have Im:=ZK s;have:=Nh (h:=h++f++d++[.cells (s.map xl)]) (id:=(h++f++d).length) (z:=1) (Aw:=CY s) (by intro q hq;obtain⟨y,_,rfl⟩:=AZ.1 hq;rfl) (by rw[Im];simp);rw[show(CY s).length=s.length by simp[CY]] at this;rw[this];congr 2;rw[BL _ _ (Ab _),DB];rfl
 have b3:Ay .Yc [.sl 1 (CY s)]=some (.str s):=by simp[Ay,Z4,WS]
 have A:=Z.JL (u:=[.Ds]);have x3:Ew h (BM bi G) (h++f++d++[.Ds]) (BM bi G):=x2.trans Z.DZ;have tr:=ok.ok.Cy p hp;have new:∀h3,(∃u,h3=h++f++d++[.Ds]++u)->∃h' J G',Ca cx 109 [Pt a 0,I (b.a.nd p).Cy,.str s] h3 (.tuple [I (b.a.len+1),I 0]) J/\Ca cx 97 [Pt bi 0,I (b.a.len+1),I p,I bf] J (.tuple []) h'/\BX h' bi a o c t G' {b with a:=(b.a.add {kind:=5,Cy:=(b.a.nd p).Cy,data:=s}).HU (b.a.len+1) p bf}/\Ew h (BM bi G) h' (BM bi G'):=by
  rintro _ ⟨u,rfl⟩;have w4:=A.JL (u:=u);obtain⟨J,G4,⟨C,_⟩,w5,x5⟩:=w4.step (A':=b.a.add (L3 5 (b.a.nd p).Cy s).x) (R:=λh'=>Ca cx 109 [Pt a 0,I (b.a.nd p).Cy,.str s] (h++f++d++[.Ds]++u) (.tuple [I (b.a.len+1),I 0]) h'/\True) (λn m ps S=>by obtain⟨h',r,wp,o1,l1⟩:=aK8 (s:=s) S rm.UY (by have:=rm.n;unfold Ar.len;omega) tr;exact⟨h',_,_,_,⟨r,trivial⟩,wp,S.Qd rfl o1 l1⟩)
  obtain⟨ok5,rm5⟩:=xY (m:=m) (k:=5) (s:=s) ok (rm.le Ac) (.inl rfl) tr Ac;obtain⟨h',G',B,N,L⟩:=jU (x:=b.a.len+1) (p:=p) (bf:=bf) w5 ok5.ba rm5;exact⟨h',J,G',C,B,N,(x3.trans A.DZ).trans (x5.trans L)⟩
 have kl:=(X.Su (h:=h++f++d)).len;have Qj:i<=1000000000:=Ac;by_cases hz:i=0
 .subst hz;obtain⟨h',J,G',C,B,N,L⟩:=new (h++f++d++[.Ds]) ⟨[],Ax⟩;simp only[↓reduceIte];refine⟨h',G',?_,N,L⟩;rw[Ae,Xo,t43];rcases hk with hk|hk<;>by_cases h0:bf=0
  all_goals first|(rw[<-ĺ h0] at kl;simp only[abS,(HV w).Ad,D.Ad,r2.Ad,hk,CA,Cq,(AI:¬(2:Int)=4),kl,A6 h0,g.Ad,f3,b3,(AI:¬(0:Int)<((0:Nat):Int)),A.l0,C.Ad,Cq,B.Ad];done)|(rw[xh h0] at H;simp only[abS,(HV w).Ad,D.Ad,r2.Ad,hk,CA,Cq,(AI:¬(2:Int)=4),kl,h0,g.Ad,f3,b3,(AI:¬(0:Int)<((0:Nat):Int)),A.l0,C.Ad,Cq,B.Ad,H.Ad])
 .obtain⟨j,rfl⟩:∃j,i=j+1:=⟨i-1,Ac⟩;have hj:j<(b.a.nd p).Bw.length:=Ac;rw[Ag hz,eV,Au hj];simp only
  have ht:=ok.ok.P2 p hp _ (A5 hj);obtain⟨q,Q,Y⟩:=(X.Su (h:=h++f++d++[.Ds])).at_ j hj;obtain⟨K7,V7,T,W,_,_⟩:=Va A ok rm (b.a.nd p).Bw[j];have M:=A.JL (u:=T);obtain⟨q',P,O⟩:=(X.Su (h:=h++f++d++[.Ds]++T)).at_ j hj;rw[Q,Bx] at P;subst P;have U:Ay (.int .sub) [I ((j+1:Nat):Int),I 1]=some (I (j:Int)):=by have:=MN (n:=j+1) Ac Ac;simpa using this
  generalize hte:(b.a.nd p).Bw[j]=v at*;by_cases E:(b.a.nd v).kind=5
  .rw[Af E];have fy:=rm.data v;obtain⟨h8,G8,⟨r8,_⟩,w8,x8⟩:=M.step (A':=b.a.Sg v ((b.a.nd v).data++s)) (R:=λh'=>Ca cx 108 [Pt a 0,I v,.str ((b.a.nd v).data++s)] (h++f++d++[.Ds]++T) (I 0) h'/\True) (λn m ps S=>by obtain⟨h',Mj,r,wp,xp⟩:=aK9 (s:=(b.a.nd v).data++s) S rm.UY ht.1 E;exact⟨h',n,m,Mj,⟨r,trivial⟩,wp,xp⟩)
   refine⟨h8,G8,?_,w8,(x3.trans A.DZ).trans x8⟩;rw[Ae,Xo,t43];rcases hk with hk|hk<;>by_cases h0:bf=0
   all_goals first|(rw[<-ĺ h0] at kl;simp only[abS,(HV w).Ad,D.Ad,r2.Ad,hk,CA,Cq,(AI:¬(2:Int)=4),kl,A6 h0,g.Ad,f3,b3,(Ac:(0:Int)<((j+1:Nat):Int)),U,Q,Y,W.Ad,E,M.l0,O,xX (Ac:(b.a.nd v).data.length+s.length<=2000000000),Cq,r8.Ad];done)|(rw[xh h0] at H;simp only[abS,(HV w).Ad,D.Ad,r2.Ad,hk,CA,Cq,(AI:¬(2:Int)=4),kl,h0,g.Ad,f3,b3,(Ac:(0:Int)<((j+1:Nat):Int)),U,Q,Y,W.Ad,E,M.l0,O,xX (Ac:(b.a.nd v).data.length+s.length<=2000000000),Cq,r8.Ad,H.Ad])
  .rw[Ag E];obtain⟨h',J,G',C,B,N,L⟩:=new _ ⟨T,rfl⟩;refine⟨h',G',?_,N,L⟩;rw[Ae,Xo,t43];rcases hk with hk|hk<;>by_cases h0:bf=0
   all_goals first|(rw[<-ĺ h0] at kl;simp only[abS,(HV w).Ad,D.Ad,r2.Ad,hk,CA,Cq,(AI:¬(2:Int)=4),kl,A6 h0,g.Ad,f3,b3,(Ac:(0:Int)<((j+1:Nat):Int)),U,Q,Y,W.Ad,E,M.l0,C.Ad,Cq,B.Ad];done)|(rw[xh h0] at H;simp only[abS,(HV w).Ad,D.Ad,r2.Ad,hk,CA,Cq,(AI:¬(2:Int)=4),kl,h0,g.Ad,f3,b3,(Ac:(0:Int)<((j+1:Nat):Int)),U,Q,Y,W.Ad,E,M.l0,C.Ad,Cq,B.Ad,H.Ad])
def XG{s:Ak}{p bf x:Int}{h0 h1:Ah}(hstart:(¬x=0/\p=x/\bf=0/\h1=h0)\/(x=0/\Ca cx 104 [Pt bi 0,I 0] h0 (.tuple [I p,I bf]) h1))
  (w0:BX h0 bi a o c t G b) (i:Ew h0 (BM bi G) h1 (BM bi G)) (w:BX h1 bi a o c t G b) (ok:E6 b) (rm:Cd b (m+1)) (hs:s.length<=100000):
  ∃h' G',Ca cx 44 [Pt bi 0,.str s,I x] h0 (.tuple []) h'/\BX h' bi a o c t G' {b with a:=BS.Iy b.a s p bf}/\Ew h0 (BM bi G) h' (BM bi G'):=by
 obtain⟨K,V,q,r2,L,_⟩:=Va w ok rm p;have d:=w.JL (u:=q);unfold BS.Iy;by_cases hk:OD (b.a.nd p).kind
 .rw[Af hk];have hp:b.a.has p:=by
   by_cases hp:b.a.has p;.exact hp
   .rw[OB hp] at hk;unfold OD at hk;simp at hk
  have tr:=ok.ok.Cy p hp;obtain⟨M,N,⟨y,_⟩,H,D⟩:=d.step (A':=b.a.add (L3 6 (b.a.nd p).Cy s).x) (R:=λh'=>Ca cx 110 [Pt a 0,I (b.a.nd p).Cy,.str s] (h1++q) (.tuple [I (b.a.len+1),I 0]) h'/\True) (λn m ps j=>by obtain⟨h',r,wp,J,l1⟩:=aF2 (s:=s) j rm.UY (by have:=rm.n;unfold Ar.len;omega) tr;exact⟨h',_,_,_,⟨r,trivial⟩,wp,j.Qd rfl J l1⟩)
  obtain⟨g,e⟩:=xY (m:=m) (k:=6) (s:=s) ok rm (.inr rfl) tr hs;obtain⟨h',G',v,E,C⟩:=jU (x:=b.a.len+1) (p:=p) (bf:=bf) H g.ba e;refine⟨h',G',?_,E,(i.trans w.DZ).trans (D.trans C)⟩;rw[Ae,oS,t44];rcases hstart with⟨hx,rfl,rfl,rfl⟩|⟨hx,f⟩
  .rcases hk with hk|hk|hk<;>simp only[abS,(HV w0).Ad,r2.Ad,hk,CA,Cq,(AI:¬(2:Int)=1),(AI:¬(4:Int)=1),(AI:¬(4:Int)=2),d.l0,y.Ad,v.Ad,hx]
  .rcases hk with hk|hk|hk<;>simp only[abS,(HV w0).Ad,r2.Ad,hk,CA,Cq,(AI:¬(2:Int)=1),(AI:¬(4:Int)=1),(AI:¬(4:Int)=2),d.l0,y.Ad,v.Ad,A6 hx,f.Ad]
 .rw[Ag hk];refine⟨_,G,?_,d,i.trans w.DZ⟩;unfold OD at hk;have B:¬(b.a.nd p).kind=1:=Ac;have A:¬(b.a.nd p).kind=2:=Ac;have z:¬(b.a.nd p).kind=4:=Ac;rw[Ae,oS,t44];rcases hstart with⟨hx,rfl,rfl,rfl⟩|⟨hx,f⟩
  .simp only[abS,(HV w0).Ad,r2.Ad,CA,B,A,z,hx]
  .simp only[abS,(HV w0).Ad,r2.Ad,CA,B,A,z,A6 hx,f.Ad]
def aGE(w:BX h bi a o c t G b)(ok:E6 b)(rm:Cd b (m+1))(s:Ak)(hs:s.length<=100000)(x:Int):
  ∃h' G',Ca cx 44 [Pt bi 0,.str s,I x] h (.tuple []) h'/\BX h' bi a o c t G' (b.DM s x)/\Ew h (BM bi G) h' (BM bi G'):=by
 unfold BS.DM;by_cases h0:x=0;.rw[Af h0];obtain⟨d,e⟩:=ß w ok rm 0;exact XG (p:=(b.place 0).1) (bf:=(b.place 0).2) (.inr ⟨h0,e⟩) w w.DZ (w.JL (u:=d)) ok rm hs
 .rw[Ag h0];exact XG (p:=x) (bf:=0) (.inl ⟨h0,rfl,rfl,rfl⟩) w .refl w ok rm hs
def aCT(w:BX h bi a o c t G b)(ok:BA b)(rm:Cd b (m+4))(hr:XB nm av r)(hv:A8 l av)(hl:EM l)(hn:nm.length<=1000)(st:Int):
  ∃h' o' G',Ca cx 45 [Pt bi 0,.agg r,I st] h (.tuple []) h'/\BX h' bi a o' c t G' (b.Eu nm l st)/\Ew h (BM bi G) h' (BM bi G'):=by
 obtain⟨h1,d,e,u,w1,i⟩:=dh w ok rm hr hv hl hn;have s:=w1.st (k:=18) (v:= I st) rfl rfl;have g:BX (put h1 bi 18 (I st)) bi a d c t e {b.E5 nm l 1 with sw:=st}:=w1.put rfl rfl w1.o w1.t;have q:=g.st (k:=5) (v:= I (b.E5 nm l 1).mode) rfl rfl;have f:BX (put (put h1 bi 18 (I st)) bi 5 (I (b.E5 nm l 1).mode)) bi a d c t e {b.E5 nm l 1 with sw:=st,Nn:=(b.E5 nm l 1).mode}:=g.put rfl rfl w1.o w1.t;have n:=f.st (k:=4) (v:=I 8) rfl rfl;have j:BX (put (put (put h1 bi 18 (I st)) bi 5 (I (b.E5 nm l 1).mode)) bi 4 (I 8)) bi a d c t e (b.Eu nm l st):=f.put rfl rfl w1.o w1.t;refine⟨_,d,e,?_,j,((i.trans BN).trans BN).trans BN⟩;obtain⟨H,E,D,C,B,A,z,y,fC,sB,rfl⟩:=hr;rw[Ae,pg,t45];simp only[Ci,(HV w).Ad,u.Ad,w1.l4,s,q,n]
def aGF(w:BX h bi a o c t G b)(rm:Cd b m):
  ∃h' o',Ca cx 46 [Pt bi 0] h (.tuple []) h'/\BX h' bi a o' c t G b.CD/\Ew h (BM bi G) h' (BM bi G):=by
 have ho:=rm.AL;have d:=aFN w.sA (Ac:b.AL.length<=1000000000) 3 (v:= .sl 1 ([wP].map Cc)) (ws:=[wP]) CO AI;have em:Ay (.Cl 1) [S [112]]=some (.sl 1 ([wP].map Cc)):=Es (ws:=[wP]) rfl AI;unfold BS.CD;by_cases hs:Pq (Bf [wP]) (N0 3) b.AL.reverse=true;.rw[Af hs];rw[hs] at d;obtain⟨g,r2,aK⟩:=aCF w.sO Ac wP;have w1:=w.Mk aK;have Ek:=bR (b:=EB wP) (a:=Db) (l:=b.AL);obtain⟨e,f,Ql⟩:=f66 w1.sO Hb (w:= .sl 1 ([wP].map Cc)) (ws:=[wP]) CO AI;refine⟨_,e,?_,w1.Mk Ql,BN.trans BN⟩;rw[Ae,oT,t46];simp only[Ci,(HV w).Ad,em,d.Ad,r2.Ad,f.Ad]
 .rw[Ag hs];rw[show Pq (Bf [wP]) (N0 3) b.AL.reverse=false by simpa using hs] at d;refine⟨h,o,?_,w,.refl⟩;rw[Ae,oT,t46];simp only[Ci,(HV w).Ad,em,d.Ad]
end
section
variable{h h':Ah}{bi a:Nat}{o c t:Aa}{G G' F:Nat->Prop}{b:BS}{x:Int}{m:Nat}
variable{nm:Ak}{av:Aa}{l:List A7}{r:List Aa}{sp p:Int}
def Sx{U:Type}{l:List U}{n:Nat}(hn:n<l.length):(l.take (n+1)).reverse=l[n]::(l.take n).reverse:=by rw[AS hn,HZ];rfl
def aCU(w:BX h bi a o c t G b)(rm:Cd b m)(nm:Ak):
  ∃h' o',Ca cx 48 [Pt bi 0,.str nm] h (.tuple []) h'/\BX h' bi a o' c t G (b.Dw nm)/\Ew h (BM bi G) h' (BM bi G):=by
 have ho:=rm.AL;have Pb:Ev cx 48 [Pt bi 0,.str nm] h λr h'=>r= .tuple []/\∃o',BX h' bi a o' c t G (b.Dw nm)/\Ew h (BM bi G) h' (BM bi G):=by
  unfold Ev;rw[pj,t48];simp only[abS,(HV w).Ad,(TG w.sA).Ad,DJ (Ac: -9223372036854775808<=(b.AL.length:Int)-1) (Ac:(b.AL.length:Int)-1<9223372036854775808)];refine B1 (λn:Nat=>[I ((n:Int)-1)]) (λn h1=>n<=b.AL.length/\(b.AL.reverse.find? λi=>Bf [nm] i||Dp i)=((b.AL.take n).reverse.find? λi=>Bf [nm] i||Dp i)/\h1=h) (λn=>n) b.AL.length rfl ⟨Ab _,by rw[BZ],rfl⟩ ?_;rintro n h1 ⟨hn,ha,rfl⟩;cases n with
  |zero=>
   have e:b.Dw nm=b:=by unfold BS.Dw;rw[ha];rfl
   simp only[abS,(Ac:¬(0:Int)<=((0:Nat):Int)-1)];exact⟨_,rfl,rfl,o,by rw[e];exact w,.refl⟩
  |succ n=>
   have hlt:n<b.AL.length:=Ac;have i1:((n+1:Nat):Int)-1=(n:Int):=Ac;have j:=U5 w.sA (n:Int);rw[HI hlt] at j;have em:Ay (.Cl 1) [.str nm]=some (.sl 1 ([nm].map Cc)):=Es (ws:=[nm]) rfl Ax;have r2:=pI (ws:=[nm]) CO Ax b.AL[n] h1;rw[Sx hlt,Hs] at ha;generalize hi:b.AL[n]=i at*;rw[Item.row] at r2;simp only[abS,JB,i1,(Ac:(0:Int)<=(n:Int)),j.Ad,em];have f:Ca cx 100 [.agg i.row,.sl 1 ([nm].map Cc)] h1 (.bool (Bf [nm] i)) h1:=r2;rw[f.Ad,Nf,C9];refine⟨λh2=>?_,λh2=>?_⟩
   .obtain⟨u,s,aK⟩:=aCF w.sO Ac nm;have w1:=w.Mk aK;have Ek:=bR (b:=EB nm) (a:=Db) (l:=b.AL);obtain⟨k,q,Ql⟩:=aFS w1.sO Hb i.node;simp only[Ci,s.Ad,q.Ad];refine⟨_,rfl,rfl,k,?_,BN.trans BN⟩;have e:b.Dw nm={b with AL:=I5 i.node (DV (EB nm) Db b.AL)}:=by unfold BS.Dw;rw[ha];simp only[h2,OS,BD]
    rw[e];exact w1.Mk Ql
   .simp only[h2,I8] at ha;simp only[(Ö i.A9 i.name).BG rfl rfl];rw[Nf,C9];refine⟨λg=>?_,λg=>?_⟩
    .have d:Dp i=true:=g;rw[d] at ha;have e:b.Dw nm=b:=by unfold BS.Dw;rw[ha];simp only[h2,Co,DO]
     simp only[Ci];exact⟨_,rfl,rfl,o,by rw[e];exact w,.refl⟩
    .have d:Dp i=false:=g;rw[d] at ha;simp only[Ci,DJ (Ac: -9223372036854775808<=(n:Int)-1) (Ac:(n:Int)-1<9223372036854775808)];exact By.next n rfl ⟨Ac,ha,rfl⟩ Ac
 obtain⟨r,h',hr,rfl,o',w',x'⟩:=Pb.ret;exact⟨h',o',hr,w',x'⟩
def aGG(w:BX h bi a o c t G b)(rm:Cd b m){k:Nat}(hk:k<=b.AL.length):Ca cx 217 [Pt bi 0,I (k:Int)] h (I (BS.P8 (b.AL.take k))) h:=by
 have ho:=rm.AL;rw[Ae,wA,aB0];simp only[Ci,DJ (Ac: -9223372036854775808<=(k:Int)-1) (Ac:(k:Int)-1<9223372036854775808)];refine B1 (λn:Nat=>[I 0,I ((n:Int)-1)]) (λn h1=>n<=k/\((b.AL.take k).reverse.find? λi=>Bf [Bb] i||Bf [IG] i)=((b.AL.take n).reverse.find? λi=>Bf [Bb] i||Bf [IG] i)/\h1=h) (λn=>n) k rfl ⟨Ab _,rfl,rfl⟩ ?_;rintro n h1 ⟨hn,ha,rfl⟩;cases n with
 |zero=>simp only[abS,(Ac:¬(0:Int)<=((0:Nat):Int)-1)];unfold BS.P8;rw[ha];rfl
 |succ n=>
  have hlt:n<b.AL.length:=Ac;have i1:((n+1:Nat):Int)-1=(n:Int):=Ac;have g:=U5 w.sA (n:Int);rw[HI hlt] at g;have f:Ay (.Cl 1) [S Bb]=some (.sl 1 ([Bb].map Cc)):=Es (ws:=[Bb]) rfl AI;have e:Ay (.Cl 1) [S IG]=some (.sl 1 ([IG].map Cc)):=Es (ws:=[IG]) rfl AI;have r2:=pI (ws:=[Bb]) CO AI b.AL[n] h1;have j:=pI (ws:=[IG]) CO AI b.AL[n] h1;rw[Sx hlt,Hs] at ha;simp only[abS,i1,(Ac:(0:Int)<=(n:Int)),g.Ad,f,r2.Ad,e,j.Ad,DJ (Ac: -9223372036854775808<=(n:Int)-1) (Ac:(n:Int)-1<9223372036854775808)];rw[C9];refine⟨λh2=>?_,λh2=>?_⟩;.simp only[h2,OS] at ha;unfold BS.P8;rw[ha];simp only[h2,BD]
  .simp only[h2,I8] at ha;rw[C9];refine⟨λd=>?_,λd=>?_⟩;.rw[d] at ha;unfold BS.P8;rw[ha];simp only[h2,Co,DO]
   .rw[d] at ha;exact By.next n rfl ⟨Ac,ha,rfl⟩ Ac
def pL(r:Ak×Int):List Aa:=[.str r.1,I r.2]
def dP{z:Nat}{Aw:List (List Aa)}{args:List Aa}(e:args=Aw.map Aa.agg)(hz:∀r∈Aw,r.length=z)(hl:Aw.length*z<=16777216):Ay (.Cl z) args=some (.sl z Aw):=by
 subst e;have f:(Aw.map Aa.agg).all (λa=>a.cells.length==z)=true:=by simp[Aa.cells];exact hz
 have d:(Aw.map Aa.agg).map (·.cells)=Aw:=by rw[aDI];exact List.map_id _
 rw[sG,f,d];simp[hl]
def tw{args:List Aa}(e:args=(JQ.map pL).map Aa.agg):Ay (.Cl 2) args=some (.sl 2 (JQ.map pL)):=dP e (λr hr=>by obtain⟨x,_,rfl⟩:=AZ.1 hr;rfl) AI
def aGH:Ca cx 216 [] h (.sl 2 (JQ.map pL)) h:=by rw[Ae,v8,aBZ];simp only[abS,Nat.reduceLeDiff,↓reduceIte,Bv];exact(B5 (λz=>Zm z λv=>[v]=[Aa.sl 2 (JQ.map pL)]) (tw rfl)).mpr (by rw[LU])
def ZL{s:Ak}{i:Item}:Bf [s] i=decide (i.A9=1/\i.name=s):=by unfold Bf;simp
def di{i:Item}{k:Nat}:b.N4 i k=match JQ.find? λr=>Bf [r.1] i with
  |some r=>some r.2
  |none=>if Bf [N3] i then some (BS.P8 (b.AL.take k)) else if Bf [ħ,Ĩ] i&&decide (0<k) then some 15 else if Bf [Bb] i then some (b.tm.getLast?.getD 7) else if Bf [Xg] i&&decide (0<k) then some 4 else if Bf [Gd] i then some (if b.head=0 then 3 else 6) else if k=0 then some 7 else none:=by
 unfold BS.N4;by_cases hs:i.A9=1
 .rw[Af hs];have e:(λr:Ak×Int=>Bf [r.1] i)=λr=>decide (r.1=i.name):=by funext r;rw[ZL,Dn];exact⟨λh=>h.2.symm,λh=>⟨hs,h.symm⟩⟩
  rw[e];cases hf:JQ.find? λr=>decide (r.1=i.name) with
  |some r=>rfl
  |none=>simp only[Bf,hs,Nx,AE,MW,wz,AO,B4]
 .rw[Ag hs];have e:(λr:Ak×Int=>Bf [r.1] i)=λ_=>false:=by funext r;rw[ZL,Ai (λh=>hs h.1)]
  rw[e];have d:JQ.find? (λ_=>false)=none:=AI;rw[d];simp only[Bf,hs,Ŋ,Fc,Co,DO,Bool.false_and]
def aGI(w:BX h bi a o c t G b)(rm:Cd b m)(i:Item){k:Nat}(hk:k<=b.AL.length):Ca cx 123 [Pt bi 0,.agg i.row,I (k:Int)] h (.tuple [I ((b.N4 i k).getD 7),.bool (b.N4 i k).isSome]) h:=by
 have ho:=rm.AL;have P:=rm.tm;have rL:Bz 2 (JQ.map pL) (.sl 2 (JQ.map pL)):= .mk;have C:=λws hw=>pI (ws:=ws) CO hw i h;rw[di,Ae,tZ,aA8];have hlen:JQ.length=9:=rfl;have O:=rL.Ha;rw[hlen] at O;simp only[Ci,↓reduceIte,JB,aGH.Ad,O];refine B1 (λn:Nat=>[I 0,ff,I (n:Int)]) (λn h1=>n<=9/\(JQ.find? λr=>Bf [r.1] i)=((JQ.drop n).find? λr=>Bf [r.1] i)/\h1=h) (λn=>9 -n) 0 rfl ⟨Bd _,rfl,rfl⟩ ?_;rintro n h1 ⟨hn,ha,rfl⟩;rcases Bk n 9 with hlt|Hh
 .have dH:n<JQ.length:=hlt;have em:Ay (.Cl 1) [.str JQ[n].1]=some (.sl 1 ([JQ[n].1].map Cc)):=Es (ws:=[JQ[n].1]) rfl Ax;rw[Az dH,Hs] at ha;simp only[Ci,Nat.reduceLeDiff,↓reduceIte,bK,(Ac:(n:Int)<((9:Nat):Int)),rL.Dh dH,pL,em,(C [JQ[n].1] Ax).Ad,CR (Ac:n<9223372036854775807)];rw[C9];refine⟨λh2=>?_,λh2=>?_⟩;.rw[h2] at ha;rw[ha];simp
  .rw[h2] at ha;exact By.next (n+1) rfl ⟨hlt,ha,rfl⟩ Ac
 .have Q:n=9:=by omega
  subst Q;have ha:(JQ.find? λr=>Bf [r.1] i)=none:=ha;rw[ha];have q:Ay (.Cl 1) [S aT9]=some (.sl 1 ([N3].map Cc)):=Es (ws:=[N3]) rfl AI;have s:Ay (.Cl 1) [S [116,100],S [116,104]]=some (.sl 1 ([ħ,Ĩ].map Cc)):=Es (ws:=[ħ,Ĩ]) rfl AI;have u:Ay (.Cl 1) [S aTv]=some (.sl 1 ([Bb].map Cc)):=Es (ws:=[Bb]) rfl AI;have E:Ay (.Cl 1) [S aTx]=some (.sl 1 ([Xg].map Cc)):=Es (ws:=[Xg]) rfl AI;have J:Ay (.Cl 1) [S aTu]=some (.sl 1 ([Gd].map Cc)):=Es (ws:=[Gd]) rfl AI;have f:=C [N3] AI;have d:=C [ħ,Ĩ] AI;have g:=C [Bb] AI;have y:=C [Xg] AI;have B:=C [Gd] AI;have rs:=aGG w rm hk;have lt:=(w.t.1.Su (h:=h1));have j:¬((9:Nat):Int)<((9:Nat):Int):=AI;have l6:=w.l6;have D:b.tm≠[]->∃p,Ay (.int .sub) [I (b.tm.length:Int),I 1]=some (I ((b.tm.length-1:Nat):Int))/\Ay (.FH 1) [t,I ((b.tm.length-1:Nat):Int)]=some p/\Bi h1 none p=some (I (b.tm.getLast?.getD 7)):=by intro hne;have hpos:=Ef.2 hne;obtain⟨p,p1,p2⟩:=lt.at_ (b.tm.length-1) Ac;refine⟨p,MN hpos Ac,p1,?_⟩;rw[p2,Qr,Au Ac];rfl
  by_cases g1:Bf [N3] i=true;.rw[g1] at f;simp only[abS,↓reduceIte,j,q,f.Ad,rs.Ad,g1,FF,aM2]
  .have g1:Bf [N3] i=false:=by simpa using g1
   rw[g1] at f;by_cases A:0<k
   .have L:¬k=0:=by omega
    have z:¬(k:Int)=0:=Ac;have v:(0:Int)<(k:Int):=Ac;cases g2:Bf [ħ,Ĩ] i<;>rw[g2] at d;rotate_left;.simp only[Ci,↓reduceIte,j,q,f.Ad,s,d.Ad,A,v,g1,Us]
    cases g3:Bf [Bb] i<;>rw[g3] at g;rotate_left
    .by_cases ht:b.tm=[];.simp only[Ci,↓reduceIte,j,q,f.Ad,s,d.Ad,u,g.Ad,A,v,g1,Us,l6,lt.len,ht,Int.natCast_zero,ą,aOS]
     .obtain⟨p,p1,p2,K⟩:=D ht;have Ir:¬b.tm.length=0:=λe=>ht (Ō.1 e);simp only[Ci,↓reduceIte,j,q,f.Ad,s,d.Ad,u,g.Ad,A,v,g1,Us,l6,lt.len,(Ac:(0:Int)<(b.tm.length:Int)),p1,p2,K]
    cases N:Bf [Xg] i<;>rw[N] at y;rotate_left;.simp only[Ci,↓reduceIte,j,q,f.Ad,s,d.Ad,u,g.Ad,E,y.Ad,A,v,g1,Us]
    all_goals cases M:Bf [Gd] i<;>rw[M] at B
    all_goals first
     |simp only[Ci,↓reduceIte,j,q,f.Ad,s,d.Ad,u,g.Ad,E,y.Ad,J,B.Ad,A,L,z,v,g1,Us];done
     |by_cases H:b.head=0
      .simp only[Ci,↓reduceIte,j,q,f.Ad,s,d.Ad,u,g.Ad,E,y.Ad,J,B.Ad,A,z,v,g1,Us,w.l7,H]
      .simp only[Ci,↓reduceIte,j,q,f.Ad,s,d.Ad,u,g.Ad,E,y.Ad,J,B.Ad,A,z,v,g1,Us,w.l7,H]
   .have L:k=0:=by omega
    subst L;have v:¬(0:Int)<((0:Nat):Int):=AI;have z:((0:Nat):Int)=0:=rfl;by_cases g3:Bf [Bb] i=true
    .rw[g3] at g;cases g2:Bf [ħ,Ĩ] i<;>rw[g2] at d<;>by_cases ht:b.tm=[];all_goals first
      |simp only[Ci,↓reduceIte,j,q,f.Ad,s,d.Ad,u,g.Ad,z,g1,g3,Us,l6,lt.len,ht,ą,aOS,Dd];done
      |obtain⟨p,p1,p2,K⟩:=D ht
       have Ir:¬b.tm.length=0:=λe=>ht (Ō.1 e);simp only[Ci,↓reduceIte,j,q,f.Ad,s,d.Ad,u,g.Ad,z,g1,g3,Us,l6,lt.len,(Ac:(0:Int)<(b.tm.length:Int)),p1,p2,K,Dd]
    .have g3:Bf [Bb] i=false:=by simpa using g3
     rw[g3] at g;cases g2:Bf [ħ,Ĩ] i<;>rw[g2] at d<;>cases N:Bf [Xg] i<;>rw[N] at y<;>cases M:Bf [Gd] i<;>rw[M] at B<;>by_cases H:b.head=0;all_goals simp only[Ci,↓reduceIte,j,q,f.Ad,s,d.Ad,u,g.Ad,E,y.Ad,J,B.Ad,z,g1,g3,Us,w.l7,H,Dd]
end
section
variable{h h':Ah}{bi a:Nat}{o c t:Aa}{G G' F:Nat->Prop}{b:BS}{x:Int}{m:Nat}
variable{nm:Ak}{av:Aa}{l:List A7}{r:List Aa}{sp p:Int}
def BX.aGK(w:BX h bi a o c t G b):Bi h (some 4) (Pt bi 10)=some (.agg b.ctx.row):=by simp only[Bi,w.hb];rfl
def BX.aCV(w:BX h bi a o c t G b)(v:Int):BX (Am.put h bi 4 (I v)) bi a o c t G {b with mode:=v}:=w.put rfl rfl w.o w.t
def Cd.mode{v:Int}(rm:Cd b m):Cd {b with mode:=v} m:=⟨rm.n,rm.at_,rm.data,rm.AL,rm.AY,rm.tm,rm.C5,rm.ZG⟩
def tz(w:BX h bi a o c t G b)(rm:Cd b m):
  ∃h',Ca cx 50 [Pt bi 0] h (.tuple []) h'/\BX h' bi a o c t G b.IY/\Ew h (BM bi G) h' (BM bi G):=by
 have ho:=rm.AL;have Pb:Ev cx 50 [Pt bi 0] h λr h'=>r= .tuple []/\BX h' bi a o c t G b.IY/\Ew h (BM bi G) h' (BM bi G):=by
  unfold Ev;have w1:=w.aCV 7;rw[pk,t50];simp only[abS,(HV w).Ad,w.st (k:=4) (v:=I 7) rfl rfl,(TG w1.sA).Ad,DJ (Ac: -9223372036854775808<=(b.AL.length:Int)-1) (Ac:(b.AL.length:Int)-1<9223372036854775808)];refine B1 (λn:Nat=>[I ((n:Int)-1)]) (λn h1=>n<=b.AL.length/\b.Tx b.AL.length=b.Tx n/\h1=Am.put h bi 4 (I 7)) (λn=>n) b.AL.length rfl ⟨Ab _,rfl,rfl⟩ ?_;rintro n h1 ⟨hn,ha,rfl⟩;cases n with
  |zero=>
   have e:b.IY={b with mode:=7}:=by unfold BS.IY;rw[ha];rfl
   simp only[abS,(Ac:¬(0:Int)<=((0:Nat):Int)-1)];exact⟨_,rfl,rfl,by rw[e];exact w1,BN⟩
  |succ n=>
   have hlt:n<b.AL.length:=Ac;have i1:((n+1:Nat):Int)-1=(n:Int):=Ac;have g:=U5 w1.sA (n:Int);rw[show DK ({b with mode:=7}:BS).AL (n:Int)=b.AL[n] from HI hlt] at g;have r2:∀i:Item,Ca cx 123 [Pt bi 0,.agg i.row,I (n:Int)] (Am.put h bi 4 (I 7)) (.tuple [I ((b.N4 i n).getD 7),.bool (b.N4 i n).isSome]) (Am.put h bi 4 (I 7)):=λi=>aGI w1 rm.mode i (k:=n) Hb;have d:=r2 (b.GS n);have IP:∀v,CH (Am.put h bi 4 (I 7)) 1 (Pt bi 4) (I v)=some (Am.put (Am.put h bi 4 (I 7)) bi 4 (I v)):=λv=>w1.st (k:=4) rfl rfl;have e:b.Tx (n+1)=match b.N4 (b.GS n) n with|some m=>m|none=>b.Tx n:=rfl
   rw[e] at ha;have fF:=w1.l9;have hlc:=w1.aGK;have Wm:=DJ (Ac: -9223372036854775808<=(n:Int)-1) (Ac:(n:Int)-1<9223372036854775808);cases hm:b.N4 (b.GS n) n with
   |none=>
    rw[hm] at d ha;by_cases h0:n=0
    .have zY:((n:Int)=0)=True:=A6 Ac;cases hf:b.Ps with
     |true=>
      have f:b.GS n=b.ctx:=by unfold BS.GS;rw[Af ⟨h0,hf⟩]
      rw[f] at d;rw[show({b with mode:=7}:BS).Ps=true from hf] at fF;simp only[Ci,JB,i1,g.Ad,fF,hlc,d.Ad,IP,Us,(Ac:(0:Int)<=(n:Int)),zY,Wm];exact By.next n rfl ⟨Ac,ha,rfl⟩ Ac
     |false=>
      have f:b.GS n=b.AL[n]:=by unfold BS.GS;rw[Ag (by simp[hf]),AP,Au hlt];rfl
      rw[f] at d;rw[show({b with mode:=7}:BS).Ps=false from hf] at fF;simp only[Ci,JB,i1,g.Ad,fF,hlc,d.Ad,IP,Us,(Ac:(0:Int)<=(n:Int)),zY,Wm];exact By.next n rfl ⟨Ac,ha,rfl⟩ Ac
    .have f:b.GS n=b.AL[n]:=by unfold BS.GS;rw[Ag (by simp[h0]),AP,Au hlt];rfl
     rw[f] at d;have zY:¬(n:Int)=0:=Ac;simp only[Ci,JB,i1,g.Ad,d.Ad,IP,Us,(Ac:(0:Int)<=(n:Int)),zY,Wm];exact By.next n rfl ⟨Ac,ha,rfl⟩ Ac
   |some v=>
    rw[hm] at d ha;have e:b.IY={b with mode:=v}:=by unfold BS.IY;rw[ha]
    have j:BX (Am.put (Am.put h bi 4 (I 7)) bi 4 (I v)) bi a o c t G b.IY:=by rw[e];exact w1.aCV v
    by_cases h0:n=0
    .have zY:((n:Int)=0)=True:=A6 Ac;cases hf:b.Ps with
     |true=>
      have f:b.GS n=b.ctx:=by unfold BS.GS;rw[Af ⟨h0,hf⟩]
      rw[f] at d;rw[show({b with mode:=7}:BS).Ps=true from hf] at fF;simp only[Ci,JB,i1,g.Ad,fF,hlc,d.Ad,IP,Us,(Ac:(0:Int)<=(n:Int)),zY];exact⟨_,rfl,rfl,j,BN.trans BN⟩
     |false=>
      have f:b.GS n=b.AL[n]:=by unfold BS.GS;rw[Ag (by simp[hf]),AP,Au hlt];rfl
      rw[f] at d;rw[show({b with mode:=7}:BS).Ps=false from hf] at fF;simp only[Ci,JB,i1,g.Ad,fF,hlc,d.Ad,IP,Us,(Ac:(0:Int)<=(n:Int)),zY];exact⟨_,rfl,rfl,j,BN.trans BN⟩
    .have f:b.GS n=b.AL[n]:=by unfold BS.GS;rw[Ag (by simp[h0]),AP,Au hlt];rfl
     rw[f] at d;have zY:¬(n:Int)=0:=Ac;simp only[Ci,JB,i1,g.Ad,d.Ad,IP,Us,(Ac:(0:Int)<=(n:Int)),zY];exact⟨_,rfl,rfl,j,BN.trans BN⟩
 obtain⟨r,h',hr,rfl,w',x'⟩:=Pb.ret;exact⟨h',hr,w',x'⟩
def dj{h0 u:Ah}{V:Aa}{L:List A7}{N:Nat}(j:N=h0.length)(g:KJ (h0++u) V L)(i:Up N V)(hb:L.length<=1000000000)(y:A7):
  ∃f d,FT (h0++u) 3 40 V (.sl 3 [y.row])=some (h0++f,d)/\KJ (h0++f) d (L++[y])/\Up N d:=by
 subst j;have zm:AK=140737488355328:=rfl;rcases g with⟨rfl,rfl⟩|⟨id,rfl,hc,hl⟩
 .refine⟨u++[.cells (([y]:List A7).map A7.row).flatten],.CW (h0++u).length 0 1 3,by rw[<-AQ];rfl,.inr ⟨(h0++u).length,rfl,Ax,Ax⟩,λid k e=>by injection e with e;rw[<-e,Ap];omega⟩
 .have HX:h0.length<=id:=i id _ rfl;have hg:=NX (b:=40) (Aw:=L.map A7.row) (r2:=[y.row]) (v:= .sl 3 [y.row]) (aCH L) AI hc .mk Ax (by rw[As];simp;omega);rw[As] at hg;have e:(h0++u).set id .Ds++[.cells (L.map A7.row++[y.row]).flatten]=h0++(u.set (id-h0.length) .Ds++[.cells ((L++[y]).map A7.row).flatten]):=by rw[BL _ _ HX,AQ,BP];rfl
  rw[e] at hg;have lK:(h0++(u.set (id-h0.length) Ej.Ds++[.cells ((L++[y]).map A7.row).flatten]))=(h0++u.set (id-h0.length) Ej.Ds)++[.cells ((L++[y]).map A7.row).flatten]:=by rw[AQ]
  have rY:(h0++u.set (id-h0.length) Ej.Ds).length=(h0++u).length:=Ax;refine⟨_,_,hg,.inr ⟨(h0++u).length,Ax,?_,?_⟩,λid k e=>by injection e with e;rw[<-e,Ap];omega⟩;.rw[lK,<-rY,Bn (Ab _),DB];rfl
  .rw[lK];simp only[Ap,BY,AJ,Br];omega
def aGL(y c:A7)(h:Ah):Ca cx 125 [.agg c.row,.BW y.row] h (.bool (decide (keyOf ⟨0,y.name,y.value⟩=keyOf c))) h:=by
 rw[Ae,uA,aA9,A7.row,A7.row];simp only[Ci];refine⟨λh1=>?_,λh1=>?_⟩;.congr 2;rw[Dn];simp[keyOf,h1];exact gw
 .rw[Ai (λe=>h1 (by simp[keyOf] at e;exact e.1.symm))]
def A7.dk{y:A7}:(⟨0,y.name,y.value⟩:A7).row=[I 0,.str y.name,.str y.value]:=rfl
def TI(k:Int×Ak):∀{l out:List A7},(Gu out l).any (λz=>decide (k=keyOf z))=(out++l).any λz=>decide (k=keyOf z)
 |[],out=>by simp[Gu]
 |y::l,out=>by
  rw[Gu];split
  .rename_i h;rw[TI k,List.any_append,List.any_append,Rt];by_cases hk:k=keyOf y;.subst hk;rw[h];rfl
   .simp[hk]
  .rw[TI k,AQ];rfl
def t_(k:Int×Ak)(l:List A7):(C7 l).any (λz=>decide (k=keyOf z))=l.any λz=>decide (k=keyOf z):=TI k
def TJ{l:List A7}{y:A7}:C7 (l++[y])=if(C7 l).any (λz=>decide (keyOf y=keyOf z)) then C7 l else C7 l++[y]:=Xy
def aGM(w:BX h bi a o c t G b)(ok:E6 b)(rm:Cd b (m+1000))(hr:XB nm av r)(hv:A8 l av)(hl:EM l)(x:Int):
  ∃h' G',Ca cx 51 [Pt bi 0,.agg r,I x] h (.tuple []) h'/\BX h' bi a o c t G' (b.GM l x)/\Ew h (BM bi G) h' (BM bi G'):=by
 obtain⟨K1,V1,d,B,_,_⟩:=Va w ok rm x;have w1:=w.JL (u:=d);obtain⟨Y,X,W,U,T,S,Q,P,fC,sB,rfl⟩:=hr;have v:Ew h (BM bi G) (h++d) (BM bi G):=w.DZ;by_cases hk:(b.a.nd x).kind=4;rotate_left;.refine⟨h++d,G,?_,by unfold BS.GM;rw[Ag hk];exact w1,v⟩;rw[Ae,oV,t51];simp only[abS,↓reduceIte,(HV w).Ad,B.Ad,CA,hk]
 obtain⟨K2,Z,A,r2,_,f,g⟩:=Va w1 ok rm x;have w2:=w1.JL (u:=A);have x2:Ew h (BM bi G) (h++d++A) (BM bi G):=v.trans w1.DZ;have hx:b.a.has x:=by
  by_cases hp:b.a.has x;.exact hp
  .rw[OB hp] at hk;simp at hk
 have aJ:=rm.at_ x;have rI:=hl.1;have Pb:Ev cx 51 [Pt bi 0,.agg [Y,.str nm,X,W,U,T,S,Q,av,P,fC,sB],I x] h λr h'=>r= .tuple []/\∃G',BX h' bi a o c t G' (b.GM l x)/\Ew h (BM bi G) h' (BM bi G'):=by
  unfold Ev;rw[oV,t51];have hvl:=Bz.Ha hv;simp only[abS,↓reduceIte,(HV w).Ad,B.Ad,r2.Ad,CA,hk,hvl];refine B1 (λs:Aa×Nat=>[s.1,I (s.2:Int)]) (λs h1=>∃u L,h1=h++d++u/\s.2<=l.length/\KJ h1 s.1 L/\Up (h++d).length s.1/\C7 L=C7 ((b.a.nd x).Av++BS.plain (l.take s.2))/\(∀y∈L,BS.Lu y.A9)/\L.length<=(b.a.nd x).Av.length+s.2) (λs=>l.length-s.2) (Z,0) rfl ⟨A,(b.a.nd x).Av,rfl,Bd _,f,g,?_,?_,Ax⟩ ?_;.simp[BS.plain]
  .exact λy hy=>(ok.ok.Tu x hx).xi y hy
  rintro⟨V,n⟩ h1 ⟨u,L,rfl,hn,f,g,j,hs,Ek⟩;simp only at hn f g j Ek;rcases Bk n l.length with hlt|Hh
  .have E:=Bz.Dh (k:= .i64) hv hlt;rw[A7.row] at E;have i:=ĸ f.in_ Ac (F:= .func (.func 125) [] [.BW l[n].row]) (q:=λc=>decide (keyOf ⟨0,l[n].name,l[n].value⟩=keyOf c)) ⟨_,_,rfl,AI,λc=>aGL l[n] c _⟩;rw[A7.row] at i;obtain⟨O,V',g1,g2,g3⟩:=dj (N:=(h++d).length) rfl f g Ac ⟨0,l[n].name,l[n].value⟩;rw[A7.dk] at g1;have em:Ay (.Cl 3) [.agg [I 0,.str l[n].name,.str l[n].value]]=some (.sl 3 [[I 0,.str l[n].name,.str l[n].value]]):=rfl;have H:C7 ((b.a.nd x).Av++BS.plain (l.take (n+1)))=C7 (L++[⟨0,l[n].name,l[n].value⟩]):=by rw[AS hlt,BS.plain,BP,<-AQ,aM5,TJ,TJ,j];rfl
   have D:C7 (L++[⟨0,l[n].name,l[n].value⟩])=if L.any (λz=>decide (keyOf ⟨0,l[n].name,l[n].value⟩=keyOf z)) then C7 L else C7 L++[⟨0,l[n].name,l[n].value⟩]:=by rw[TJ,t_]
   simp only[abS,Nat.reduceLeDiff,↓reduceIte,Bv,(Ac:(n:Int)<(l.length:Int)),E,i.Ad,em,g1,CR (Ac:n<9223372036854775807)];rw[C9];refine⟨λh2=>?_,λh2=>?_⟩
   .refine By.next (V',n+1) rfl ⟨O,_,rfl,hlt,g2,g3,H.symm,?_,Ed⟩ Hb;intro y hy;rcases Aq.1 hy with hy|hy
    .exact hs y hy
    .simp at hy;subst hy;exact⟨Hb,Hb⟩
   .have h2:(L.any λz=>decide (keyOf ⟨0,l[n].name,l[n].value⟩=keyOf z))=true:=by simpa using h2
    rw[Af h2] at D;exact By.next (V,n+1) rfl ⟨u,L,rfl,hlt,f,g,by rw[H,D],hs,Hb⟩ Hb
  .have Qj:n=l.length:=by omega
   subst Qj;rw[BZ] at j;simp only[abS,↓reduceIte,(Ac:¬(l.length:Int)<(l.length:Int)),(w1.JL (u:=u)).l0];obtain⟨C,G3,i,M,J⟩:=(w1.JL (u:=u)).step (A':=b.a.L0 x L) (R:=λC=>Ca cx 126 [Pt a 0,I x,V] (h++d++u) (I 0) C) λn m ps K=>by obtain⟨h',Mj,f1,f2,f3⟩:=aF4 K rm.UY hx hk f.in_ Ac hs;exact⟨h',n,m,Mj,f1,f2,f3⟩
   have e:b.GM l x={b with a:=b.a.L0 x L}:=by unfold BS.GM;rw[Af hk];unfold Ar.L0;rw[j]
   simp only[Ci,i.Ad];refine⟨_,rfl,rfl,G3,?_,?_⟩;.rw[e];exact M
   .exact(v.trans w1.DZ).trans J
 obtain⟨r,h',hr,rfl,G',w',x'⟩:=Pb.ret;exact⟨h',G',hr,w',x'⟩
end
section
variable{h h':Ah}{bi a:Nat}{o c t:Aa}{G G' F:Nat->Prop}{b b':BS}{x:Int}{m:Nat}
variable{nm:Ak}{av:Aa}{l:List A7}{r:List Aa}{sp p:Int}
def Cd.sub(rm:Cd b m)(ha:b'.a=b.a)(ho:b'.AL.Sublist b.AL)(hc:b'.AY.Sublist b.AY)(ht:b'.tm.length<=b.tm.length):Cd b' m:=
 ⟨by rw[ha];exact rm.n,by rw[ha];exact rm.at_,by rw[ha];exact rm.data,by have:=rm.AL;have:=ho.length_le;omega,by have:=rm.AY;have:=hc.length_le;omega,by have:=rm.tm;omega,λe he=>rm.C5 e (hc.subset he),λi hi=>rm.ZG i (ho.subset hi)⟩
def ua{v:Aa}{l:List Int}(hv:Rj l v)(hb:l.length<=1000000000)(h:Ah):∃u,Ca cx 73 [v] h u h/\Sw l u:=by
 have hm:AK=140737488355328:=rfl;have e0:Ay (.EC 1) []=some (.EC 1):=rfl;rcases hv with hv|⟨rfl,rfl⟩
 .have Gc:Bz 1 (l.map Cu) v:=hv;rcases Gc with rfl|⟨rfl,h0⟩
  .cases l with
   |nil=>refine⟨.EC 1,?_,.inr ⟨rfl,rfl⟩,nofun⟩;rw[Ae,Xp,t73];simp only[Ci,Dc,show Ay (.Ff false .sl) [.sl 1 [],.slnil]=some (.bool false) from rfl,e0,show Ay (.append 1 8) [.EC 1,.sl 1 []]=some (.EC 1) from rfl]
   |cons x l=>
    have PV:((x::l).map Cu).length*8<=AK:=by rw[As];omega
    have d:Ay (.append 1 8) [.EC 1,.sl 1 ((x::l).map Cu)]=some (.sl 1 ((x::l).map Cu)):=by simp only[A0] at PV⊢;simp only[Ay,Ht,BD,Dl];rw[Af ⟨trivial,PV⟩]
    refine⟨_,?_,.inl .mk,λe=>by injection e with _ e;simp at e⟩;rw[Ae,Xp,t73];simp only[Ci,show Ay (.Ff false .sl) [.sl 1 ((x::l).map Cu),.slnil]=some (.bool false) from rfl,e0,d]
  .refine⟨.slnil,?_,.inl (.inr ⟨rfl,h0⟩),nofun⟩;rw[Ae,Xp,t73];simp only[Ci,show Ay (.Ff false .sl) [.slnil,.slnil]=some (.bool true) from rfl]
 .refine⟨.EC 1,?_,.inr ⟨rfl,rfl⟩,nofun⟩;rw[Ae,Xp,t73];simp only[Ci,show Ay (.Ff false .sl) [.EC 1,.slnil]=some (.bool false) from rfl,e0,show Ay (.append 1 8) [.EC 1,.EC 1]=some (.EC 1) from rfl]
def BX.ub{u:Aa}{l:List Int}(w:BX h bi a o c t G b)(hu:Sw l u):BX (Am.put h bi 6 u) bi a o c u G {b with tm:=l}:=w.put rfl rfl w.o hu
def xZ:Ay (.Cl 1) [S aTv]=some (.sl 1 ([Bb].map Cc)):=Es (ws:=[Bb]) rfl AI
def aGN(w:BX h bi a o c t G b)(hc:Dj b.AY c)(rm:Cd b m):
  ∃h' o' c' t',Ca cx 52 [Pt bi 0] h (.tuple []) h'/\BX h' bi a o' c' t' G b.De/\Dj b.De.AY c'/\Ew h (BM bi G) h' (BM bi G):=by
 have ho:=rm.AL;have Vq:=rm.AY;have P:=rm.tm;have A:=f144 w.sA Ac Bb;by_cases JC:AX (Bf [Bb]) b.AL<0;.refine⟨h,o,c,t,?_,by unfold BS.De;rw[Af JC];exact w,by unfold BS.De;rw[Af JC];exact hc,.refl⟩;rw[Ae,cA,t52];simp only[abS,(HV w).Ad,A.Ad,JC]
 obtain⟨y,r2,aK⟩:=aKT w.sO Ac;have w1:=w.Mk aK;have l1:(DV DQ Db b.AL).length<=b.AL.length:=bR;obtain⟨f,J,Ql⟩:=f66 w1.sO Hb (CO (ws:=[Bb])) AI;have E:=w1.Mk Ql;obtain⟨fs,Jn,hcs⟩:=hc;have Im:fs.length=b.AY.length:=by rw[<-Jn,As]
 obtain⟨d,H,C⟩:=f65 (show Tr _ bi 3 fs from⟨c,E.lO,hcs⟩) Ac;have j:=E.PD (u:=d) (l:=FD b.AY);have Zg:Dj (FD b.AY) d:=⟨_,by rw[dN,Jn],C⟩;have lt:=w.t.1.len;have l6:=j.l6;have e:b.De=BS.IY {b with AL:=DV Db (Bf [Bb]) (DV DQ Db b.AL),AY:=FD b.AY,tm:=b.tm.dropLast}:=by unfold BS.De;rw[Ag JC]
 have sO:(DV Db (Bf [Bb]) (DV DQ Db b.AL)).Sublist b.AL:=(Ct (p:=Db) (q:=Bf [Bb]) (l:=DV DQ Db b.AL)).trans Ct;have D:Ew h (BM bi G) (put (put (put h bi 2 y) bi 2 f) bi 3 d) (BM bi G):=(BN.trans BN).trans BN;by_cases h0:b.tm=[]
 .have v:BX (put (put (put h bi 2 y) bi 2 f) bi 3 d) bi a f d t G {b with AL:=DV Db (Bf [Bb]) (DV DQ Db b.AL),AY:=FD b.AY,tm:=b.tm.dropLast}:=by
   have:b.tm.dropLast=b.tm:=by rw[h0];rfl
   rw[this];exact j
  obtain⟨R,z,s,L⟩:=tz v (rm.sub (b':={b with AL:=DV Db (Bf [Bb]) (DV DQ Db b.AL),AY:=FD b.AY,tm:=b.tm.dropLast}) rfl sO (Ch _ _) Ax);refine⟨R,f,d,t,?_,by rw[e];exact s,by rw[e];exact Zg,D.trans L⟩;have B:Ay (.len false) [t]=some (I 0):=by rw[lt,h0];rfl
  rw[Ae,cA,t52];simp only[abS,(HV w).Ad,A.Ad,JC,r2.Ad,xZ,J.Ad,H.Ad,l6,B,z.Ad,Us]
 .have hpos:=Ef.2 h0;obtain⟨T,S,i⟩:=Bz.Sb (w.t.1.ne h0) (k:= .i64) (n:=b.tm.length-1) Ac;rw[<-Vc] at i;obtain⟨N,z,g⟩:=ua (.inl i) Ed (put (put (put h bi 2 y) bi 2 f) bi 3 d);have s:=j.ub g;obtain⟨Q,O,M,K⟩:=tz s (rm.sub (b':={b with AL:=DV Db (Bf [Bb]) (DV DQ Db b.AL),AY:=FD b.AY,tm:=b.tm.dropLast}) rfl sO (Ch _ _) Ax);refine⟨Q,f,d,N,?_,by rw[e];exact M,by rw[e];exact Zg,(D.trans BN).trans K⟩;rw[Ae,cA,t52];simp only[abS,(HV w).Ad,A.Ad,JC,r2.Ad,xZ,J.Ad,H.Ad,l6,lt,(Ac:(0:Int)<(b.tm.length:Int)),MN hpos (Ac:b.tm.length<9223372036854775807),S,z.Ad,j.st (k:=6) (v0:=t) rfl g.1.cells,O.Ad,Us]
def aGR(w:BX h bi a o c t G b):∃h',Ca cx 53 [Pt bi 0] h (.tuple []) h'/\BX h' bi a o c t G {b with stop:=true}/\Ew h (BM bi G) h' (BM bi G):=by refine⟨_,?_,w.put (k:=19) (v:= .bool true) rfl rfl w.o w.t,BN⟩;rw[Ae,pq,t53];simp only[Ci,(HV w).Ad,w.st (k:=19) (v:=tt) rfl rfl]
def ã(w:BX h bi a o c t G b)(rm:Cd b m):∃h' o',Ca cx 56 [Pt bi 2] h (.agg b.oI.row) h'/\BX h' bi a o' c t G b.IQ/\Ew h (BM bi G) h' (BM bi G):=by
 have ho:=rm.AL;have ld:Bi h none (Pt bi 2)=some o:=w.ld 2;have lo:=Bz.Ha w.o;unfold BS.IQ BS.oI;by_cases h2:b.AL.length<2;.refine⟨h,o,?_,by rw[Af h2];exact w,.refl⟩;rw[Af h2,Ae,cB,t56];simp only[abS,↓reduceIte,Bv,(TG w.sA).Ad,(Ac:(b.AL.length:Int)<2)];rfl
 .obtain⟨u,e,hu⟩:=Bz.Sb w.o (k:= .i64) (n:=b.AL.length-1) Ac;refine⟨_,u,?_,by rw[Ag h2];exact w.Mk hu,BN⟩;rw[Ag h2,Ae,cB,t56];simp only[abS,↓reduceIte,Bv,JB,(TG w.sA).Ad,(Ac:¬(b.AL.length:Int)<2),(f39 w.sA Ac).Ad,ld,lo,MN (Ac:0<b.AL.length) (Ac:b.AL.length<9223372036854775807),e,w.st (k:=2) (v0:=o) rfl (Bz.cells hu)]
end
def Sy{U:Type}(enc:U->List Aa)(DI:U->Ah->Prop)(Z:U->Nat)(i:Nat)(ID:U->Ah->Prop)(s:U):Kj:=
 λx vs h1=>(x= .normal/\∃s',vs=enc s'/\DI s' h1/\Z s'<Z s)\/(x= .exit i/\∃s',vs=enc s'/\ID s' h1)
def Sy.next{U:Type}{enc:U->List Aa}{DI ID:U->Ah->Prop}{Z:U->Nat}{i:Nat}{s:U}{vs:List Aa}{h:Ah}(s':U)(e:vs=enc s')(hi:DI s' h)(hl:Z s'<Z s):Sy enc DI Z i ID s .normal vs h:= .inl ⟨rfl,s',e,hi,hl⟩
def Sy.ID{U:Type}{enc:U->List Aa}{DI ID:U->Ah->Prop}{Z:U->Nat}{i:Nat}{s:U}{vs:List Aa}{h:Ah}(s':U)(e:vs=enc s')(hi:ID s' h):Sy enc DI Z i ID s (.exit i) vs h:= .inr ⟨rfl,s',e,hi⟩
def Ex{C:FB}{Q:Kj}{h:Ah}{U:Type}{key i:Nat}{init:List Aa}{body:List Aa->IT}{k:FO->List Aa->IT}(enc:U->List Aa)(DI:U->Ah->Prop)(Z:U->Nat)(ID:U->Ah->Prop)(s0:U)(h0:init=enc s0)(hi:DI s0 h)
  (round:∀s h,DI s h->W C (body (enc s)) (Sy enc DI Z i ID s) h) (hk:∀s h,ID s h->W C (k (.exit i) (enc s)) Q h):W C (.loop key init body k) Q h:=by
 refine B1 enc DI Z s0 h0 hi λs h hs=>W.mono (round s h hs) ?_;rintro x vs h1 (hn|⟨rfl,s',rfl,hf⟩);.exact .inl hn
 .exact .inr ⟨Ax,hk s' h1 hf⟩
def dm{h:Ah}{id z:Nat}{Aw:List (List Aa)}(hr:∀r∈Aw,r.length=z)(hc:h[id]?=some (.cells Aw.flatten)){i:Nat}(hi:i<Aw.length):Bi h (some z) (Pt id (i*z))=some (.agg Aw[i]):=by
 have hl:i*z+z<=Aw.flatten.length:=by rw[Gr hr];have:=DW z (Ac:i+1<=Aw.length);rwa [BE,Eh] at this
 simp only[Bi,hc,Mv];rw[Af hl,Iu hr,Az hi,CB,Dz (by rw[hr _ (A5 hi)];exact Ab _),Be (by rw[hr _ (A5 hi)];exact Ab _)]
section
variable{h h':Ah}{bi a:Nat}{o c t:Aa}{G G' F:Nat->Prop}{b b':BS}{x:Int}{m:Nat}
variable{nm:Ak}{av:Aa}{l:List A7}{r:List Aa}{sp p:Int}
def uc(e:C1)(h:Ah):∃r,Ca cx 115 [.agg e.row] h (.agg r) h/\XB e.c.name e.v r:=by have hv:e.v.cells=[e.v]:=Bz.cells e.ok;refine⟨_,?_,I 2,ff,S [],ff,S [],ff,ff,ff,S [],.int .i32 0,rfl⟩;rw[Ae,tT,aA2,C1.row];simp only[abS,Nat.reduceLeDiff,↓reduceIte,Bv,hv]
def ZM:∀{l:List Cp} {b:BS} {m:Nat},Cd b (m+4*l.length)->(∀e∈l,e.name.length<=1000/\EM e.Av)->Cd (BS.Lv l b).2 m
 |[],b,m,r,_=>by simpa[BS.Lv] using r
 |e::l,b,m,r,hl=>by have h1:=hl e Ax;rw[BS.Lv];exact ZM (JR (m:=m+4*l.length) (r.le Ed) h1.2 h1.1) λx hx=>hl x (by simp[hx])
def dQ:b.ON<=b.AY.length:=by unfold BS.ON;rcases DY (q:=b.settled) (l:=b.AY) with⟨h,_⟩|⟨n,h1,h2,_⟩<;>omega
structure dR(h:Ah)(bi a:Nat)(t:Aa)(G0:Nat->Prop)(b:BS)(fs:List C1)(id m k:Nat)(h1:Ah):Prop where
 le:k<=fs.length
 low:b.ON<=k
 ex:∃(o:Aa) (G:Nat->Prop) (b1:BS) (KK:List C1),BX h1 bi a o (.CW id 0 fs.length 3) t G b1/\E6 b1/\Cd b1 (m+4*(fs.length-k))/\h1[id]?=some (.cells (KK.map C1.row).flatten)/\KK.length=fs.length/\KK.drop k=fs.drop k/\
  BS.Bg b={(BS.Lv (b.AY.drop k) b1).2 with AY:=(KK.take k).map (·.c)++(BS.Lv (b.AY.drop k) b1).1}/\¬BM bi G id/\Ew h (BM bi G0) h1 (BM bi G)
def BX.dS(w:BX h bi a o c t G {b with AY:=b.AY}):BX h bi a o c t G b:=w
def XH{h1:Ah}{id:Nat}{v v':Aa}(ha:At h id 3 v)(hf:KO h v=some (h1,v'))(he:h1[id]?=h[id]?):Kh h 3 (Pt id 0)=some (Am.put h1 id 3 v'):=by obtain⟨cs,hc,e⟩:=ha;rw[hc] at he;unfold Kh;simp only[hc,BC,e,hf,Cj,he];rw[HO he]
def ä{v:Aa}{l:List C1}(hv:EJ l v):KO h v=some (h,v):=by rcases hv with rfl|⟨rfl,_⟩<;>rfl
def aGS{v:Aa}(hv:EJ [] v)(h:Ah):∃u,Ca cx 114 [v] h u h/\EJ [] u:=by
 have d:=iM (h:=h) (s:= .sl 3 []) (b:=48) (.inr rfl) hv;rcases hv with rfl|⟨rfl,h0⟩
 .refine⟨.sl 3 [],?_,.mk⟩;rw[Ae,Vr,qu];simp only[Dc] at d;simp only[Ci,Dc,show Ay (.Ff false .sl) [.sl 3 [],.slnil]=some (.bool false) from rfl,show Ay (.Cl 3) []=some (.sl 3 []) from rfl,d]
 .refine⟨.slnil,?_,.inr ⟨rfl,rfl⟩⟩;rw[Ae,Vr,qu];simp only[Ci,show Ay (.Ff false .sl) [.slnil,.slnil]=some (.bool true) from rfl]
def dR.init(w:BX h bi a o c t G b)(ok:E6 b)(rm:Cd b (m+4*b.AY.length)){fs:List C1}(Jn:fs.map (·.c)=b.AY):
  dR h bi a t G b fs h.length m b.ON (Am.put (h++[.cells (fs.map C1.row).flatten]) bi 3 (.CW h.length 0 fs.length 3)):=by
 have Im:b.AY.length=fs.length:=by rw[<-Jn,As]
 have hk:=dQ (b:=b);have hne:h.length≠bi:=Nat.ne_of_gt w.lt;refine⟨Ac,Ab _,o,G,b,fs,((w.JL (u:=[.cells (fs.map C1.row).flatten])).PD (l:=b.AY)).dS,ok,rm.le Ac,?_,rfl,rfl,?_,?_,w.DZ.trans BN⟩;.rw[CU hne];simp
 .unfold BS.Bg;simp only;rw[GO,Jn]
 .rintro(rfl|hg);.exact hne rfl
  .exact absurd (w.w.lt hg) (Dd _)
def dR.step{fs:List C1}{id k:Nat}{h1:Ah}(Jn:fs.map (·.c)=b.AY)(Rc:∀e∈b.AY,e.name.length<=1000/\EM e.Av)(hi:h.length<=id)(hlt:k<fs.length)(i:dR h bi a t G b fs id m k h1):
  ∃(r:List Aa) (h2:Ah) (n:Int),Bi h1 none (Pt bi 3)=some (.CW id 0 fs.length 3)/\Bi h1 (some 3) (Pt id (k*3))=some (.agg fs[k].row)/\Ca cx 115 [.agg fs[k].row] h1 (.agg r) h1/\Ca cx 39 [Pt bi 0,.agg r] h1 (I n) h2/\Bi h2 none (Pt bi 3)=some (.CW id 0 fs.length 3)/\
   CH h2 1 (Pt id (k*3)) (I n)=some (Am.put h2 id (k*3) (I n))/\dR h bi a t G b fs id m (k+1) (Am.put h2 id (k*3) (I n)):=by
 obtain⟨E,H,b1,KK,w1,ZI,f,Yk,fD,g,å,RN,q⟩:=i.ex;have dT:k<KK.length:=Ac;have Im:b.AY.length=fs.length:=by rw[<-Jn,As]
 have aGT:k<b.AY.length:=Ac;have s:KK[k]=fs[k]:=by have:=B5 (λl=>l[0]?) g;simp only[Cr,Bl] at this;rw[Au dT,Au hlt] at this;exact ED this
 have z:b.AY[k]=fs[k].c:=by simp only[<-Jn,EV]
 have Ů:=dm (Ts KK) Yk (i:=k) (by simpa using dT);rw[EV,s] at Ů;have Rc:=Rc fs[k].c (by rw[<-z];exact A5 aGT);obtain⟨r,B,hr⟩:=uc fs[k] h1;obtain⟨h2,C,A,r2,y,d⟩:=dh (m:=m+4*(fs.length-(k+1))) w1 ZI.ba (f.le Ac) hr fs[k].ok Rc.2 Rc.1;have yo:id<h1.length:=(Aj.1 Yk).1;have K9:h2[id]?=some (.cells (KK.map C1.row).flatten):=by rw[d.old id yo RN];exact Yk
 have eX:¬BM bi A id:=λhg=>by
  rcases d.BM id hg with hg|hg
  .exact RN hg
  .omega
 have w:At h2 id (k*3) (I fs[k].c.node):=⟨_,K9,by have:=PC (k:=0) (Ts KK) AI (i:=k) (r:=fs[k].row) (by rw[Cg,Au dT,s];rfl);rw[Bl] at this;rw[this];rfl⟩
 let u:C1:=⟨{fs[k].c with node:=b1.a.len+1},fs[k].v,fs[k].ok⟩
 have hrow:(KK.map C1.row).flatten.set (k*3) (I (b1.a.len+1))=((KK.set k u).map C1.row).flatten:=by have:=TH (Aw:=KK.map C1.row) (i:=k) (k:=0) (v:= I (b1.a.len+1)) (Ts KK) (by simpa using dT) AI;rw[Bl] at this;rw[GK,Ck,Af (by rw[Gr (Ts KK),As];omega)];rw[AQ] at this;rw[show u.row=((KK.map C1.row)[k]'(by simpa using dT)).set 0 (I (b1.a.len+1)) by rw[EV,s];rfl];exact this
 have D:id≠bi:=λe=>eX (.inl e);refine⟨r,h2,b1.a.len+1,w1.l3,Ů,B,r2,y.l3,w.store rfl,⟨hlt,by have:=i.low;omega,C,A,_,KK.set k u,y.DT λj hj=>CU λe=>eX (e▸hj),Rb ZI,JR (m:=m+4*(fs.length-(k+1))) (f.le Ac) Rc.2 Rc.1,?_,by rw[BY];exact fD,?_,?_,eX,⟨by rw[Ls];exact(q.trans d).len,λj hj hn=>(CU Ac).trans ((q.trans d).old j hj hn),(q.trans d).BM⟩⟩⟩;.rw[HO K9,AA (by have:=d.len;omega),hrow]
 .rw[aIW (SQ k)];have:=B5 (λl=>l.drop 1) g;simpa[Ez] using this
 .rw[å,Az aGT,z,BS.Lv];simp only
  congr 1
  rw[AS (by rw[BY];exact dT),List.getElem_set_self,BP,YM (Ab k),AQ];rfl
def aGU(w:BX h bi a o c t G b)(hc:Dj b.AY c)(ok:E6 b)(rm:Cd b (m+4*b.AY.length)):
  ∃h' o' c' G',Ca cx 47 [Pt bi 0] h (.tuple []) h'/\BX h' bi a o' c' t G' b.Bg/\Dj b.Bg.AY c'/\Ew h (BM bi G) h' (BM bi G'):=by
 have ho:=rm.AL;have Vq:=rm.AY;obtain⟨fs,Jn,hcs⟩:=hc;have Im:b.AY.length=fs.length:=by rw[<-Jn,As]
 have Pb:Ev cx 47 [Pt bi 0] h λr h'=>r= .tuple []/\∃o' c' G',BX h' bi a o' c' t G' b.Bg/\Dj b.Bg.AY c'/\Ew h (BM bi G) h' (BM bi G'):=by
  unfold Ev;have l3:=w.l3;have lc:=Bz.Ha hcs;rw[ph,t47];simp only[abS,(HV w).Ad,l3,lc];refine Ex (i:=0) (λn:Nat=>[I (n:Int)]) (λn h1=>n<=fs.length/\AX b.settled b.AY=AX b.settled (b.AY.take n)/\h1=h) (λn=>n) (λn h1=>n=b.ON/\h1=h) fs.length rfl ⟨Ab _,by rw[<-Im,BZ],rfl⟩ ?_ ?_
  .rintro n h1 ⟨hn,ha,rfl⟩;cases n with
   |zero=>simp only[abS,(AI:¬(0:Int)<((0:Nat):Int))];refine .ID 0 rfl ⟨?_,rfl⟩;unfold BS.ON;rw[ha];rfl
   |succ n=>
    have hlt:n<b.AY.length:=Ac;have dH:n<fs.length:=Ac;rw[NZ hlt] at ha;have i1:=MN (n:=n+1) (Ac:0<n+1) (Ac:n+1<9223372036854775807);rw[eV] at i1;have d:=Bz.Dh (k:= .i64) hcs dH;have en:fs[n].c.node=b.AY[n].node:=by simp only[<-Jn,EV]
    have f:=YC w.sA Ac b.AY[n].node;have g:b.settled b.AY[n]=true->n+1=b.ON:=by intro hs;rw[Af hs] at ha;unfold BS.ON;rw[ha];omega
    rw[C1.row,en] at d;simp only[abS,(Ac:(0:Int)<((n+1:Nat):Int)),l3,i1,d,f.Ad,CA];refine⟨λh1=>⟨λh2=>?_,λh2=>?_⟩,λh1=>?_⟩
    .have hs:b.settled b.AY[n]=false:=by unfold BS.settled;rw[Ai];omega
     rw[Ag (by rw[hs];decide)] at ha;exact .next n rfl ⟨Ac,ha,rfl⟩ Ac
    .exact .ID (n+1) rfl ⟨g (by unfold BS.settled;rw[Al];omega),rfl⟩
    .exact .ID (n+1) rfl ⟨g (by unfold BS.settled;rw[Al];omega),rfl⟩
  .rintro n h1 ⟨rfl,Q⟩;rw[Q];by_cases hne:fs=[]
   .subst hne;have ha:b.AY=[]:=Jn.symm;have g:b.ON=0:=by have:=dQ (b:=b);rw[ha] at this;exact Nat.le_zero.1 this
    have hb:b.Bg=b:=by unfold BS.Bg;rw[ha];simp only[List.drop_nil,BS.Lv,List.take_nil,BO];rw[<-ha]
    obtain⟨u,f,hu⟩:=aGS hcs h;have w1:=(w.PD (u:=u) (l:=b.AY)).dS;have d:=XH w1.lO (ä hu) rfl;have B:=Bz.Ha hu;have y:=w1.l3;rw[Br] at B;have hz:(b.ON:Int)=((0:Nat):Int):=by rw[g]
    simp only[abS,l3,f.Ad,w.st (k:=3) (v0:=c) rfl (Bz.cells hu)];refine Ex (i:=2) (λn:Nat=>[I (n:Int)]) (λn h1=>n=0/\h1=Am.put h bi 3 u) (λn=>n) (λn h1=>n=0/\h1=Am.put h bi 3 u) 0 (by rw[hz]) ⟨rfl,rfl⟩ ?_ ?_;.rintro n h1 ⟨rfl,rfl⟩;simp only[abS,y,B,(AI:¬((0:Nat):Int)<((0:Nat):Int))];exact .ID 0 rfl ⟨rfl,rfl⟩
    .rintro n h1 ⟨rfl,rfl⟩;simp only[Ci,d];refine⟨_,rfl,rfl,o,u,G,?_,⟨[],by rw[hb,ha];rfl,hu⟩,BN.trans BN⟩;rw[hb];exact(w1.PD (l:=b.AY)).dS
   .have i0:=dR.init (m:=m) w ok rm Jn;have f:=aCG (h:=h) hcs hne Ac;have w0:=w.JL (u:=[.cells (fs.map C1.row).flatten]);simp only[abS,l3,f.Ad,w0.st (k:=3) (v:= .CW h.length 0 fs.length 3) (v0:=c) rfl rfl];refine Ex (i:=2) (λn:Nat=>[I (n:Int)]) (λk h1=>dR h bi a t G b fs h.length m k h1) (λk=>fs.length-k) (λk h1=>k=fs.length/\dR h bi a t G b fs h.length m k h1) b.ON rfl i0 ?_ ?_
    .intro k h1 i;have Ek:=i.le;have C:Ay (.len false) [.CW h.length 0 fs.length 3]=some (I (fs.length:Int)):=rfl;rcases Bk k fs.length with hlt|Hh
     .obtain⟨r,h2,n,N,M,L,K,J,H,E⟩:=dR.step Jn rm.C5 (Ab _) hlt i;have d:Ay (.FH 3) [.CW h.length 0 fs.length 3,I (k:Int)]=some (Pt h.length (k*3)):=Fi hlt;simp only[abS,N,C,(Ac:(k:Int)<(fs.length:Int)),d,M,L.Ad,C8,K.Ad,J,H,CR (Ac:k<9223372036854775807)];exact .next (k+1) rfl E Ac
     .obtain⟨s,A,b1,KK,w1,_⟩:=i.ex;simp only[abS,w1.l3,C,(Ac:¬(k:Int)<(fs.length:Int))];exact .ID k rfl ⟨Ac,i⟩
    .rintro k h1 ⟨rfl,i⟩;obtain⟨s,A,b1,KK,w1,ZI,O,Yk,fD,P,å,RN,q⟩:=i.ex;have hf:=Nh (Ts KK) Yk;rw[As,fD] at hf;have z:h.length≠bi:=λe=>RN (.inl e);have d:=XH w1.lO hf (by rw[Ao z]);have D:BX (h1.set h.length .Ds) bi a s _ t A b1:=w1.DT λj hj=>Ao λe=>RN (by rw[e];exact hj);simp only[Ci,d];have hb:b.Bg={b1 with AY:=KK.map (·.c)}:=by rw[å,AT Ac,Be Ac];simp only[BS.Lv,Bq]
     refine⟨_,rfl,rfl,s,_,A,by rw[hb];exact D.PD,⟨KK,by rw[hb],.mk⟩,?_⟩;refine Ew.trans ⟨by rw[BY];exact q.len,λj hj hn=>?_,q.BM⟩ BN;rw[Ao Ac];exact q.old j hj hn
 obtain⟨r,h',hr,rfl,o',c',G',w',Ow,x'⟩:=Pb.ret;exact⟨h',o',c',G',hr,w',Ow,x'⟩
end
def æ{id l k:Nat}(hl:0<l)(hk:k<=l):Ay (.PQ 3 false false true) [.CW id 0 l 3,I (k:Int)]=some (.CW id 0 k 3):=by
 have d:Eg (k:Int) l=some k:=by unfold Eg;rw[Af Ac];rfl
 simp[Ay,Io,Dx,d];omega
def ç{id l k:Nat}(hk:k<=l):Ay (.PQ 3 false true false) [.CW id 0 l 3,I (k:Int)]=some (if k<l then .CW id (k*3) (l-k) 3 else .sl 3 []):=by
 have d:Eg (k:Int) l=some k:=by unfold Eg;rw[Af Ac];rfl
 simp[Ay,Io,Dx,d];split<;>rfl
def Jg{U:Type}{l:List U}{k:Nat}(hk:k<l.length):(BB l k).length=l.length-1:=by unfold BB;rw[Ap,AB,Bj];omega
def aGV{h:Ah}{id k:Nat}{Aw:List (List Aa)}(hr:∀r∈Aw,r.length=3)(hc:h[id]?=some (.cells Aw.flatten))(hk:k<Aw.length)(hb:Aw.length<=1000000000):
  ∃Gx,Ca cx 262 [.CW id 0 Aw.length 3,I (k:Int),I ((k+1:Nat):Int)] h (.CW id 0 (Aw.length-1) 3) (h.set id (.cells ((BB Aw k).flatten++Gx))):=by
 have HX:=(Aj.1 hc).1;have u:=Jg hk;have fF:=Gr hr;have s:∀r∈BB Aw k,r.length=3:=λr hm=>hr r (by
  unfold BB at hm;rcases Aq.1 hm with hm|hm
  .exact A4 hm
  .exact Bu hm)
 have rG:=Gr s;rw[u] at rG;have T8:(Aw.take k).flatten=Aw.flatten.take (k*3):=(Zt hr).symm;have Ŭ:(Aw.drop (k+1)).flatten=Aw.flatten.drop ((k+1)*3):=(Iu hr).symm;obtain⟨RS,w,hcl⟩:∃RS,FT h 3 48 (.CW id 0 k 3) (if k+1<Aw.length then .CW id ((k+1)*3) (Aw.length-(k+1)) 3 else .sl 3 [])=some (h.set id (.cells ((BB Aw k).flatten++RS)),.CW id 0 (Aw.length-1) 3)/\RS.length=3:=by
  have f:Gb h 3 (if k+1<Aw.length then .CW id ((k+1)*3) (Aw.length-(k+1)) 3 else .sl 3 [])=some (Aw.drop (k+1)):=by
   by_cases Y0:k+1<Aw.length;.rw[Af Y0];have j:=Zu hr (n:=Aw.length-(k+1)) (off:=k+1) Ac;rw[Be (by rw[Bj];exact Ab _)] at j;simp only[Gb,BD,hc,j];rw[Af (by rw[fF];omega)]
   .rw[Ag Y0,AT Ac];rfl
  by_cases aGf:k+1=Aw.length
  .refine⟨Aw.flatten.drop (k*3),?_,by rw[Bj,fF];omega⟩;have g:Aw.drop (k+1)=[]:=AT Ac;rw[g] at f;have v:(BB Aw k).flatten++Aw.flatten.drop (k*3)=Aw.flatten:=by unfold BB;rw[g,Bq,T8,Cx]
   have B:h.set id (.cells ((BB Aw k).flatten++Aw.flatten.drop (k*3)))=h:=by rw[v];obtain⟨lK,A⟩:=Aj.1 hc;rw[<-A,Hg]
   simp only[FT,f,BD];rw[B,(Ac:Aw.length-1=k)]
  .obtain⟨y,q,hd⟩:∃y q,Aw.drop (k+1)=y::q:=⟨_,_,Az (Ac:k+1<Aw.length)⟩;have jS:(y::q).length=Aw.length-(k+1):=by rw[<-hd,Bj]
   refine⟨Aw.flatten.drop ((Aw.length-1)*3),?_,by rw[Bj,fF];omega⟩;rw[hd] at f;simp only[FT,f,hc,BD];rw[jS,Af (by rw[fF];omega)];rw[<-hd,Ŭ,BC,BC,(Ac:k+(Aw.length-(k+1))=Aw.length-1)];unfold BB;rw[Kz,T8,Ŭ]
 generalize Ļ:h.set id (.cells ((BB Aw k).flatten++RS))=h2 at w;have K9:h2[id]?=some (.cells ((BB Aw k).flatten++RS)):=by rw[<-Ļ];exact AA HX
 have pG:((BB Aw k).flatten++RS).length=Aw.length*3:=by rw[Ap,rG,hcl];omega
 have g:DC (.yZ 3 true true) h2 [.CW id 0 (Aw.length-1) 3,I ((Aw.length-1:Nat):Int),I (Aw.length:Int)]=some (h2,.CW id ((Aw.length-1)*3) 1 3):=by
  simp only[DC,fJ,K9];have C:Eg (Aw.length:Int) ((((BB Aw k).flatten++RS).length-0)/3)=some Aw.length:=by unfold Eg;rw[Af (by rw[pG];omega)];rfl
  have j:Eg ((Aw.length-1:Nat):Int) Aw.length=some (Aw.length-1):=by unfold Eg;rw[Af Ac];rfl
  rw[Af ⟨trivial,trivial,Bd _⟩];simp only[Dx,C,j,Cj,Bt];rw[Af (by rw[pG];omega)];congr 3
  .omega
  .omega
 have z:DC (.clear 3 [I 0,S [],.slnil]) h2 [.CW id ((Aw.length-1)*3) 1 3]=some (h.set id (.cells ((BB Aw k).flatten++[I 0,S [],.slnil])),.bool true):=by
  simp only[DC,VH,K9];rw[Af ⟨trivial,rfl,by rw[pG];omega⟩];congr 2
  rw[<-Ļ,Md];congr 2
  rw[I3 rG,AT (by rw[pG];omega)];simp
 refine⟨[I 0,S [],.slnil],?_⟩;have d:∀i n,Ay (.len false) [.CW i 0 n 3]=some (I (n:Int)):=λ_ _=>rfl;have v:DC (.lR 3) h [.CW id 0 Aw.length 3,I (k:Int),I ((k+1:Nat):Int),I (Aw.length:Int)]=some (h,.bool true):=by simp only[DC,VI];simp;omega
 rw[Ae,xD,aCs];simp only[abS,d,v,(Ac:¬(k:Int)=((k+1:Nat):Int)),æ (id:=id) (Ac:0<Aw.length) (Ac:k<=Aw.length),ç (id:=id) (Ac:k+1<=Aw.length),w,g,z]
def SA{z:Nat}:∀{Aw:List (List Aa)} {cs Ti:List Aa},(∀r∈Aw,r.length=z)->Cs (Ti++(Aw.flatten++cs)) z Ti.length Aw.length=Aw
 |[],_,_,_=>rfl
 |x::Aw,cs,Ti,h=>by have hx:=h x Ax;have:=SA (Aw:=Aw) (cs:=cs) (Ti:=Ti++x) (λr hr=>h r (by simp[hr]));simp only[AQ,Ap,hx] at this;simp only[CB,AJ,Cs,AQ];rw[La rfl,I3 hx,this]
def pM{h:Ah}{id z:Nat}{Aw:List (List Aa)}{cs:List Aa}(hr:∀r∈Aw,r.length=z)(hc:h[id]?=some (.cells (Aw.flatten++cs))):KO h (.CW id 0 Aw.length z)=some (h.set id .Ds,.sl z Aw):=by unfold KO;simp only[hc,BC];have:=SA (cs:=cs) (Ti:=[]) hr;simp only[BO,Br] at this;rw[Af (by rw[Ap,Gr hr];omega),this]
def Ft(e:C1)(at_ mk:Int)(anc far:Item)(last:Int):List Aa:=
 [I e.c.node,.str e.c.name,e.v,I at_,I mk,I anc.node,I anc.A9,.str anc.name,.bool anc.Oz,I far.node,I far.A9,.str far.name,.bool far.Oz,I last]
def Ml(ai bi:Nat)(G:Nat->Prop):Nat->Prop:=λi=>i=ai\/BM bi G i
section
variable{h h':Ah}{bi a ai:Nat}{o c t:Aa}{G G' F:Nat->Prop}{b b':BS}{x:Int}{m:Nat}
variable{nm:Ak}{av:Aa}{l:List A7}{r:List Aa}{sp p:Int}{e:C1}{at_ mk last:Int}{anc far:Item}
def Ey(x:Ew h (BM bi G) h' (BM bi G'))(ai:Nat):Ew h (Ml ai bi G) h' (Ml ai bi G'):=
 ⟨x.len,λi hi hn=>x.old i hi λhg=>hn (.inr hg),λi hi=>by
  rcases hi with hi|hi
  .exact .inl (.inl hi)
  .rcases x.BM i hi with h|h
   .exact .inl (.inr h)
   .exact .inr h⟩
def PE{k:Nat}{v:Aa}:Ew h (Am.Ml ai bi G) (put h ai k v) (Am.Ml ai bi G):=⟨by rw[Ls];exact Ab _,λi _ hn=>CU λe=>hn (.inl e),λ_ h=> .inl h⟩
def Ju{id k:Nat}{v:Aa}{cs:List Aa}(hc:h[id]?=some (.cells cs)):(put h id k v)[id]?=some (.cells (cs.set k v)):=by rw[HO hc,AA (Aj.1 hc).1]
def down(k:Nat)(x:Int):Int:=if(k:Int)<x then x-1 else x
def yA(w:BX h bi a o c t G b)(hc:Dj b.AY c)(rm:Cd b m)(ha:h[ai]?=some (.cells (Ft e at_ mk anc far last)))(hn:¬BM bi G ai){k:Nat}(hk:k<b.AY.length)(h1:0<=at_/\at_<=1000000000)(h2:0<=mk/\mk<=1000000000):
  ∃h' c',Ca cx 210 [Pt ai 0,Pt bi 0,I (k:Int)] h (.tuple []) h'/\BX h' bi a o c' t G {b with AY:=BB b.AY k}/\Dj (BB b.AY k) c'/\h'[ai]?=some (.cells (Ft e (down k at_) (down k mk) anc far last))/\Ew h (Ml ai bi G) h' (Ml ai bi G):=by
 obtain⟨fs,Jn,hcs⟩:=hc;have Vq:=rm.AY;have Im:b.AY.length=fs.length:=by rw[<-Jn,As]
 have hne:fs≠[]:=by intro e;rw[Im,e] at hk;exact absurd hk (Nat.not_lt_zero _)
 have gh:ai≠bi:=λe=>hn (.inl e);have z:ai<h.length:=(Aj.1 ha).1;have C:=aCG (h:=h) hcs hne Ac;have hX:(h++[Ej.cells (fs.map C1.row).flatten])[h.length]?=some (.cells (fs.map C1.row).flatten):=Ax;obtain⟨Gx,r2⟩:=aGV (Ts fs) hX (k:=k) Ed Ed;rw[As] at r2;have e2:(h++[Ej.cells (fs.map C1.row).flatten]).set h.length (.cells ((BB (fs.map C1.row) k).flatten++Gx))=h++[.cells ((BB (fs.map C1.row) k).flatten++Gx)]:=by rw[BL _ _ (Ab _),DB];rfl
 rw[e2] at r2;generalize A:h++[Ej.cells ((BB (fs.map C1.row) k).flatten++Gx)]=H at r2;have w1:BX H bi a o c t G b:=by rw[<-A];exact w.JL
 have ma:H[ai]?=some (.cells (Ft e at_ mk anc far last)):=by rw[<-A,An z];exact ha
 have Q:H[h.length]?=some (.cells ((BB (fs.map C1.row) k).flatten++Gx)):=by rw[<-A];simp
 have hL:H.length=h.length+1:=by rw[<-A];simp
 have Z:Ew h (Ml ai bi G) H (Ml ai bi G):=by rw[<-A];exact Ey w.DZ ai
 have s:bi≠h.length:=OR w.lt;have aJ:ai≠h.length:=OR z;have B:=w1.st (k:=3) (v:= .CW h.length 0 (fs.length-1) 3) (v0:=c) rfl rfl;have w2:=w1.PD (u:= .CW h.length 0 (fs.length-1) 3) (l:=b.AY);have RT:(put H bi 3 (.CW h.length 0 (fs.length-1) 3))[ai]?=some (.cells (Ft e at_ mk anc far last)):=by rw[CU gh];exact ma
 have P:(put H bi 3 (.CW h.length 0 (fs.length-1) 3))[h.length]?=some (.cells ((BB (fs.map C1.row) k).flatten++Gx)):=by rw[CU (Dr s)];exact Q
 have Y:Ew h (Ml ai bi G) (put H bi 3 (.CW h.length 0 (fs.length-1) 3)) (Ml ai bi G):=Z.trans (Ey BN ai);generalize R:put H bi 3 (.CW h.length 0 (fs.length-1) 3)=f at*;have hL2:f.length=h.length+1:=by rw[<-R,Ls,hL]
 have t3:At f ai 3 (I at_):=⟨_,RT,rfl⟩;have mf:=Ju (k:=3) (v:= I (down k at_)) RT;have E:put f ai 3 (I (down k at_))=if(k:Int)<at_ then put f ai 3 (I (at_-1)) else f:=by
  unfold down;split;.rfl
  .exact t3.same
 have w3:BX (put f ai 3 (I (down k at_))) bi a o _ t G _:=w2.DT λj hj=>CU λe=>hn (e▸hj);have O:(put f ai 3 (I (down k at_)))[h.length]?=_:=(CU (Dr aJ)).trans P;have X:=Y.trans (PE (k:=3) (v:= I (down k at_)));generalize hH3:put f ai 3 (I (down k at_))=d at*;have t4:At d ai 4 (I mk):=⟨_,mf,rfl⟩;have M:=Ju (k:=4) (v:= I (down k mk)) mf;have q:put d ai 4 (I (down k mk))=if(k:Int)<mk then put d ai 4 (I (mk-1)) else d:=by
  unfold down;split;.rfl
  .exact t4.same
 have T:BX (put d ai 4 (I (down k mk))) bi a o _ t G _:=w3.DT λj hj=>CU λe=>hn (e▸hj);have N:(put d ai 4 (I (down k mk)))[h.length]?=_:=(CU (Dr aJ)).trans O;have J:=X.trans (PE (k:=4) (v:= I (down k mk)));generalize hH4:put d ai 4 (I (down k mk))=S at*;have L:∀r∈BB (fs.map C1.row) k,r.length=3:=λr hm=>Ts fs r (by
  unfold BB at hm;rcases Aq.1 hm with hm|hm
  .exact A4 hm
  .exact Bu hm)
 have f4:=pM L N;rw[Jg Ed,As] at f4;have D:=XH T.lO f4 (by rw[Ao (Dr s)]);have w5:BX (S.set h.length .Ds) bi a o _ t G {b with AY:=b.AY}:=T.DT λj hj=>Ao λe=>by
  subst e;rcases hj with hj|hj
  .exact s hj.symm
  .exact absurd (w.w.lt hj) (Dd _)
 have ed:BB (fs.map C1.row) k=(BB fs k).map C1.row:=by unfold BB;rw[BP,GO,K6]
 have ec:(BB fs k).map (·.c)=BB b.AY k:=by unfold BB;rw[BP,GO,K6,Jn]
 refine⟨_,.sl 3 (BB (fs.map C1.row) k),?_,w5.PD (l:=BB b.AY k),⟨BB fs k,ec,by rw[ed];exact .mk⟩,?_,?_⟩
 .have i:Bi f none (Pt ai 3)=some (I at_):=t3.load;have g:Bi d none (Pt ai 4)=some (I mk):=t4.load;have inc:=CR (Ac:k<9223372036854775807);have W:=DJ (Ac: -9223372036854775808<=at_-1) (Ac:at_-1<9223372036854775808);have V:=DJ (Ac: -9223372036854775808<=mk-1) (Ac:mk-1<9223372036854775808);rw[Ae,vU,aBT];by_cases y:(k:Int)<at_
  .rw[Af y] at E;have U:CH f 1 (Pt ai 3) (I (at_-1))=some d:=by rw[E];exact t3.store rfl
   by_cases n:(k:Int)<mk
   .rw[Af n] at q;have K:CH d 1 (Pt ai 4) (I (mk-1))=some S:=by rw[q];exact t4.store rfl
    simp only[abS,w.l3,C.Ad,inc,r2.Ad,B,i,y,W,U,g,n,V,K,D]
   .rw[Ag n] at q;subst q;simp only[abS,w.l3,C.Ad,inc,r2.Ad,B,i,y,W,U,g,n,D]
  .rw[Ag y] at E;subst E;by_cases n:(k:Int)<mk
   .rw[Af n] at q;have K:CH d 1 (Pt ai 4) (I (mk-1))=some S:=by rw[q];exact t4.store rfl
    simp only[abS,w.l3,C.Ad,inc,r2.Ad,B,i,y,g,n,V,K,D]
   .rw[Ag n] at q;subst q;simp only[abS,w.l3,C.Ad,inc,r2.Ad,B,i,y,g,n,D]
 .rw[CU gh,Ao (Dr aJ),M];rfl
 .refine Ew.trans ⟨by rw[BY];exact J.len,λj hj hn=>?_,J.BM⟩ (Ey BN ai);rw[Ao Ac];exact J.old j hj hn
end
section
variable{U:Type}{q:U->Bool}{l:List U}
def L4{p:Nat}(hp:p<l.length)(h1:q l[p]=true)(h2:∀j (hj:j<l.length),p<j->q l[j]=false):AX q l=(p:Int):=by
 rcases DY (q:=q) (l:=l) with⟨e,h⟩|⟨n,hn,e,d,f⟩
 .rw[h _ (A5 hp)] at h1;exact absurd h1 AI
 .rcases aOT n p with h|h|h
  .have:=f p hp h;rw[this] at h1;exact absurd h1 AI
  .rw[e,h]
  .have:=h2 n hn h;rw[this] at d;exact absurd d AI
def K0{p:Nat}(e:AX q l=(p:Int)):∃hp:p<l.length,q l[p]=true/\∀j (hj:j<l.length),p<j->q l[j]=false:=by
 rcases DY (q:=q) (l:=l) with⟨g,h⟩|⟨n,hn,g,f,d⟩
 .omega
 .have:n=p:=by omega
  subst this;exact⟨hn,f,λj hj h=>d j hj h⟩
def jW{k j:Nat}(hk:k<l.length):(BB l k)[j]?=if j<k then l[j]? else l[j+1]?:=by
 unfold BB;by_cases h:j<k;.rw[Af h,An (by rw[AB];omega),Cn,Af h]
 .rw[Ag h,Bn (by rw[AB];omega),Cr];congr 1
  rw[AB];omega
def Od{k j:Nat}(hk:k<l.length)(hj:j<(BB l k).length):(BB l k)[j]=if h:j<k then l[j]'(by omega) else l[j+1]'(by rw[Jg hk] at hj;omega):=by
 have hl:=Jg hk;have:=jW (j:=j) hk;rw[Au hj] at this;by_cases h:j<k;.rw[lD h];rw[Af h,Au Ac] at this;exact ED this
 .rw[dif_neg h];rw[Ag h,Au Ac] at this;exact ED this
def dU{p k:Nat}(e:AX q l=(p:Int))(hk:k<l.length)(hne:k≠p):AX q (BB l k)=down k p:=by
 obtain⟨hp,h1,h2⟩:=K0 e;have hl:=Jg hk;unfold down;by_cases d:k<p
 .rw[Af Ac,(Ac:(p:Int)-1=((p-1:Nat):Int))];refine L4 Ac ?_ ?_;.rw[Od hk,dif_neg Ac];have:p-1+1=p:=Ac;simp only[this,h1]
  .intro j hj h;rw[Od hk,dif_neg Ac];exact h2 _ _ Ac
 .rw[Ag Ac];refine L4 Ac ?_ ?_;.rw[Od hk,lD Ac];exact h1
  .intro j hj h;rw[Od hk];split;.exact h2 _ _ h
   .exact h2 _ _ Ac
def jX{p k:Nat}{x:U}(e:AX q l=(p:Int))(hne:k≠p)(hx:q x=false):AX q (l.set k x)=(p:Int):=by
 obtain⟨hp,h1,h2⟩:=K0 e;refine L4 (by rw[BY];exact hp) ?_ ?_;.rw[List.getElem_set_ne hne];exact h1
 .intro j hj h;rw[List.getElem_set];split;.exact hx
  .rw[BY] at hj;exact h2 j hj h
end
def dV{l:List Item}(hn:(l.map Item.node).Nodup){i:Nat}(hi:i<l.length):AX (BU l[i].node) l=(i:Int):=by
 refine L4 hi (by simp[BU]) λj hj h=>?_;by_cases he:l[i].node=l[j].node
 .have h2:(l.map Item.node)[i]'(by simpa using hi)=(l.map Item.node)[j]'(by simpa using hj):=by simpa using he
  exact absurd h2 (xo.1 hn i j (by simpa using hi) (by simpa using hj) h)
 .unfold BU;simpa using λe=>he e.symm
def JT{n:Int}{l:List Cp}(h:0<=FC n l):∃p:Nat,∃hp:p<l.length,FC n l=(p:Int)/\n≠0/\l[p].node=n/\AX (Xe n) l=(p:Int):=by
 unfold FC at h⊢;split at h;.omega
 .rename_i h0;rw[Ag h0];obtain⟨p,hp⟩:∃p:Nat,AX (Xe n) l=(p:Int):=⟨_,(HY h).symm⟩;obtain⟨h1,h2,_⟩:=K0 hp;exact⟨p,h1,hp,h0,by simpa[Xe] using h2,hp⟩
def dr{n:Int}{l:List Cp}{k:Nat}(h:0<=FC n l)(hk:k<l.length)(hne:l[k].node≠n):FC n (BB l k)=down k (FC n l):=by obtain⟨p,hp,e,h0,h1,h2⟩:=JT h;rw[e,<-dU h2 hk (by rintro rfl;exact hne h1)];unfold FC;rw[Ag h0]
def ud{n:Int}{l:List Cp}{k:Nat}{x:Cp}(h:0<=FC n l)(hk:k<l.length)(hne:l[k].node≠n)(hx:x.node≠n):FC n (l.set k x)=FC n l:=by obtain⟨p,hp,e,h0,h1,h2⟩:=JT h;rw[e,<-jX (x:=x) (k:=k) h2 (by rintro rfl;exact hne h1) (by simp[Xe];exact hx)];unfold FC;rw[Ag h0]
def du{n:Int}{l:List Cp}(hn:((l.map Cp.node).filter λn=>decide (n≠0)).Nodup)(h:0<=FC n l):FC n (BB l (FC n l).toNat)<0:=by
 obtain⟨p,hp,e,h0,h1,h2⟩:=JT h;rw[e,BH];refine Int.not_le.1 λg=>?_;obtain⟨p2,f,i,_,d,_⟩:=JT g;have:l=l.take p++l[p]::l.drop (p+1):=by rw[<-Az hp,Cx]
 rw[this,BP,A0,EN,GR,Af (by simpa[h1] using h0),BQ,B6] at hn;have hm:=A5 f;generalize(BB l p)[p2]=y at hm d;unfold BB at hm;rcases Aq.1 hm with hm|hm
 .exact hn.2.2 y.node (Dk.2 ⟨OK hm,by simpa[d] using h0⟩) l[p].node Ax (by rw[d,h1])
 .exact hn.2.1.1 (Dk.2 ⟨by rw[h1,<-d];exact OK hm,by simpa[h1] using h0⟩)
section
variable{h h':Ah}{bi a ai:Nat}{o c t:Aa}{G G' F:Nat->Prop}{b b':BS}{x:Int}{m:Nat}
variable{nm:Ak}{av:Aa}{l:List A7}{r:List Aa}{sp p:Int}{e:C1}{at_ mk last:Int}{anc far:Item}
def XI{blk anc:Int}{far i:Nat}{l:Int}{mk m:Nat}(r:Cd b (m+4)):Cd (BS.Ig blk anc far i b l mk).1 m:=by
 unfold BS.Ig;simp only
 split;.exact(r.le Ac).sub rfl C0 (AD _) (Ab _)
 .split;.exact(r.le Ac).sub rfl C0 C0 (Ab _)
  .rename_i he _;obtain⟨p,hp,f,_,_,_⟩:=JT (TX.1 he);rw[f,BH,AP,Au hp,FF];have Rc:=r.C5 _ (A5 hp);have d:=Lw (m:=m+1) (nm:=b.AY[p].name) (l:=b.AY[p].Av) (sp:=1) (p:=anc) (r.le Ac) Rc.2;have r2:=(d.le (m':=m) Ac).IH (Ks (p:=(b.JP b.AY[p].name b.AY[p].Av 1).node) (x:=l) (bf:=0));refine⟨r2.n,r2.at_,r2.data,by simp only[BY];exact r2.AL,by simp only[BY];exact r2.AY,r2.tm,λe he=>?_,λi hi=>?_⟩
   .rcases DA he with he|rfl
    .exact r2.C5 e he
    .exact Rc
   .rcases DA hi with hi|rfl
    .exact r2.ZG i hi
    .exact Pv Rc.1
end
def TK{A:Ar}{x p bf:Int}(h:(A.nd p).kind=4):A.HU x p bf=A.If p x bf:=by unfold Ar.HU;rw[Ag (by rw[h];intro h;exact absurd h.1 AI)]
section
variable{h h':Ah}{bi a ai:Nat}{o c t:Aa}{G G' F:Nat->Prop}{b b':BS}{x:Int}{m:Nat}
variable{nm:Ak}{av:Aa}{l:List A7}{r:List Aa}{sp p:Int}{e:C1}{at_ mk last:Int}{anc far:Item}
def Dj.at(hc:Dj b.AY c)(w:BX h bi a o c t G b)(rm:Cd b m)(n:Int):Ca cx 121 [Pt bi 3,I n] h (I (FC n b.AY)) h:=by obtain⟨fs,Jn,hv⟩:=hc;have ha:=rm.AY;have:=f41 w.lO hv (by rw[<-Jn,As] at ha;omega) n;rwa [XC,Jn] at this
structure jY(h:Ah)(bi a ai:Nat)(t:Aa)(G0:Nat->Prop)(fe:C1)(anc far:Item)(k N m:Nat)(s0:BS×Int×Nat)(n:Nat)(h1:Ah)(o c:Aa)(G:Nat->Prop)(s:BS×Int×Nat):Prop where
 le:n<=N
 w:BX h1 bi a o c t G s.1
 hc:Dj s.1.AY c
 ok:E6 s.1
 rm:Cd s.1 (m+4*n)
 last:s.1.a.has s.2.1
 st:h1[ai]?=some (.cells (Ft fe (FC fe.c.node s.1.AY) (s.2.2:Int) anc far s.2.1))
 hn:¬BM bi G ai
 x:Ew h (Ml ai bi G0) h1 (Ml ai bi G)
 f_:0<=FC fe.c.node s.1.AY
 mkb:s.2.2<=1000000000
 AL:s.1.AL.take (k+n+1)=s0.1.AL.take (k+n+1)
 len:k+n+1<=s.1.AL.length
 eq:BS.Pu far.node anc.node (k+1+N) k N s0=BS.Pu far.node anc.node (k+1+N) k n s
 fe:s.1.a.has fe.c.node
def dv{blk anc:Int}{far i:Nat}{l:Int}{mk:Nat}(hi:i<b.AL.length):(BS.Ig blk anc far i b l mk).1.AL.take i=b.AL.take i/\i<=(BS.Ig blk anc far i b l mk).1.AL.length:=by
 have h1:(BB b.AL i).take i=b.AL.take i/\i<=(BB b.AL i).length:=by refine⟨?_,by rw[Jg hi];omega⟩;unfold BB;rw[Dz (by rw[AB];omega),F6,Nat.min_self]
 unfold BS.Ig;simp only
 split;.exact h1
 .split;.exact h1
  .have Qu:∀nm l p,(b.Fz nm l 1 p).AL=b.AL:=λnm l p=>by unfold BS.Fz;rw[Af Mh]
   simp only[Qu];exact⟨YM (Ab i),by rw[BY];omega⟩
def jY.step{h1 h2:Ah}{C D A z:Aa}{B u:Nat->Prop}{fe:C1}{k N n:Nat}{s0 s s':BS×Int×Nat}(i:jY h bi a ai t G fe anc far k N m s0 (n+1) h1 C D B s)(e:s'=BS.Ig far.node anc.node (k+1+N) (k+(n+1)) s.1 s.2.1 s.2.2)
  (w:BX h2 bi a A z t u s'.1) (hc:Dj s'.1.AY z) (st:h2[ai]?=some (.cells (Ft fe (FC fe.c.node s'.1.AY) (s'.2.2:Int) anc far s'.2.1))) (hn:¬BM bi u ai) (x:Ew h1 (Ml ai bi B) h2 (Ml ai bi u)) (f_:0<=FC fe.c.node s'.1.AY) (mk:s'.2.2<=1000000000):
  jY h bi a ai t G fe anc far k N m s0 n h2 A z u s':=by
 obtain⟨g,last',j⟩:=jH (blk:=far.node) (anc:=anc.node) (far:=k+1+N) (i:=k+(n+1)) (m:=s.2.2) i.ok i.last;have hl:=i.len;obtain⟨f,v⟩:=dv (blk:=far.node) (anc:=anc.node) (far:=k+1+N) (i:=k+(n+1)) (l:=s.2.1) (mk:=s.2.2) (b:=s.1) Ac;have d:=XI (blk:=far.node) (anc:=anc.node) (far:=k+1+N) (i:=k+(n+1)) (l:=s.2.1) (mk:=s.2.2) (m:=m+4*n) (i.rm.le Ac);have Qu:=i.AL;have y:BS.Pu far.node anc.node (k+1+N) k (n+1) s=BS.Pu far.node anc.node (k+1+N) k n (BS.Ig far.node anc.node (k+1+N) (k+(n+1)) s.1 s.2.1 s.2.2):=rfl;have q:=i.eq.trans y;rw[<-e] at g last' j f v d q;refine⟨by have:=i.le;omega,w,hc,g,d,last',st,hn,i.x.trans x,f_,mk,?_,Ac,q,j.has _ i.fe⟩;have:=B5 (λl=>l.take (k+(n+1))) Qu;simp only[F6] at this;rw[(Ac:k+n+1=k+(n+1)),f];rwa [CG Ac] at this
def aGX{fe:C1}{k N:Nat}{s0:BS×Int×Nat}(i0:jY h bi a ai t G fe anc far k N m s0 N h o c G s0)(xb:1<=k)(Y0:AX (BU fe.c.node) s0.1.AL=(k:Int))(hN:k+1+N<s0.1.AL.length):
  ∃h' o' c' G' s',Ca cx 213 [Pt bi 0,Pt ai 0,I (k:Int),I ((k+1+N:Nat):Int)] h (.tuple []) h'/\s'=BS.Pu far.node anc.node (k+1+N) k N s0/\jY h bi a ai t G fe anc far k N m s0 0 h' o' c' G' s':=by
 have ho:=i0.rm.AL;have Pb:Ev cx 213 [Pt bi 0,Pt ai 0,I (k:Int),I ((k+1+N:Nat):Int)] h λr h'=>r= .tuple []/\∃o' c' G' s',s'=BS.Pu far.node anc.node (k+1+N) k N s0/\jY h bi a ai t G fe anc far k N m s0 0 h' o' c' G' s':=by
  unfold Ev;rw[vX,aBW];have i1:=DJ (a:=((k+1+N:Nat):Int)) (b:=1) Ac Ac;rw[(Ac:((k+1+N:Nat):Int)-1=((k+N:Nat):Int))] at i1;simp only[Ci,i1];refine B1 (λn:Nat=>[I ((N-n:Nat):Int),I ((k+n:Nat):Int)]) (λn h1=>∃o c G1 s,jY h bi a ai t G fe anc far k N m s0 n h1 o c G1 s) (λn=>n) N (by rw[DB];rfl) ⟨o,c,_,s0,i0⟩ ?_;rintro n h1 ⟨o1,c1,G1,s,i⟩;cases n with
  |zero=>simp only[abS,↓reduceIte,(Ac:¬(k:Int)<(k:Int))];exact⟨_,rfl,rfl,o1,c1,G1,s,i.eq.symm,i⟩
  |succ n=>
   have hnN:=i.le;have hlen:=i.len;have sE:k+(n+1)<s.1.AL.length:=Ac;have hwo:=i.rm.AL;have hwa:=i.rm.AY;have gh:ai≠bi:=λe=>i.hn (.inl e);have hai:ai<h1.length:=(Aj.1 i.st).1;have K:=U5 i.w.sA ((k+(n+1):Nat):Int);rw[HI sE] at K;have U:=dV i.ok.xj sE;have hxf:s.1.AL[k+(n+1)].node≠fe.c.node:=by have h2:=B5 (λl=>l[k+(n+1)]?) i.AL;simp only[Cn] at h2;rw[Af Ac,Af Ac,Au sE,Au Ac] at h2;obtain⟨_,_,L⟩:=K0 Y0;have g:=L (k+(n+1)) Ac Ac;rw[ED h2];intro h5;unfold BU at g;rw[h5] at g;simp at g
   have ue:s.1.AL.getD (k+(n+1)) Item.zero=s.1.AL[k+(n+1)]:=by rw[AP,Au sE];rfl
   generalize s.1.AL[k+(n+1)]=x at*;have r2:=i.hc.at i.w i.rm x.node;obtain⟨q,hq,Þ,hq0,hq2,hq3⟩:=JT i.f_;have inc:Ay (.int .add) [I ((N-(n+1):Nat):Int),I 1]=some (I ((N-n:Nat):Int)):=by have:=CR (n:=N-(n+1)) Ac;rwa [(Ac:N-(n+1)+1=N-n)] at this
   have dec:Ay (.int .sub) [I ((k+(n+1):Nat):Int),I 1]=some (I ((k+n:Nat):Int)):=by have:=MN (n:=k+(n+1)) Ac Ac;rwa [(Ac:k+(n+1)-1=k+n)] at this
   have y:(k:Int)<((k+(n+1):Nat):Int):=Ac;have W:∀l:List Item,l=s.1.AL->Di x.node l=BB l (k+(n+1)):=by intro l e;subst e;unfold Di;rw[U,Ag Ac,BH]
   by_cases he:FC x.node s.1.AY<0
   .obtain⟨u,C,hu⟩:=sg i.w.sO Ac x.node;rw[W _ rfl] at hu;have z:=i.w.Mk hu;have es:({s.1 with AL:=BB s.1.AL (k+(n+1))},s.2.1,s.2.2)=BS.Ig far.node anc.node (k+1+N) (k+(n+1)) s.1 s.2.1 s.2.2:=by unfold BS.Ig;simp only[ue];rw[Af he]
    have D:=i.step es z i.hc ((CU gh).trans i.st) i.hn (Ey BN ai) i.f_ i.mkb;by_cases Zg:(3:Int)<((N-n:Nat):Int);.simp only[abS,↓reduceIte,JB,y,K.Ad,inc,r2.Ad,Zg,he,(Ac:¬(0:Int)<=FC x.node s.1.AY),C.Ad,dec];exact By.next n rfl ⟨_,_,_,_,D⟩ Ac
    .simp only[abS,↓reduceIte,JB,y,K.Ad,inc,r2.Ad,Zg,he,C.Ad,dec];exact By.next n rfl ⟨_,_,_,_,D⟩ Ac
   .obtain⟨p,hp,ep,hx0,gm,hp3⟩:=JT (TX.1 he);have Hh:(0:Int)<=(p:Int):=Ac;rw[ep] at r2;have X:s.1.AY[p].node≠fe.c.node:=by rw[gm];exact hxf
    have E:(FC x.node s.1.AY).toNat=p:=by rw[ep,BH]
    by_cases Zg:(3:Int)<((N-n:Nat):Int)
    .obtain⟨h2,c2,C,z,K9,uf,H⟩:=yA i.w i.hc i.rm i.st i.hn hp ⟨i.f_,Ac⟩ ⟨Ac,by have:=i.mkb;omega⟩;have pJ:Cd {s.1 with AY:=BB s.1.AY p} (m+4*(n+1)):=i.rm.sub rfl (AD _) C0 (Ab _);have r4:=Dj.at (b:={s.1 with AY:=BB s.1.AY p}) K9 z pJ x.node;have rO:FC x.node (BB s.1.AY p)<0:=by have:=du (n:=x.node) i.ok.gj (TX.1 he);rwa [E] at this
     obtain⟨u,r5,hu⟩:=sg z.sO Hb x.node;rw[W _ rfl] at hu;have M:=z.Mk hu;have ug:(((if p<s.2.2 then s.2.2 -1 else s.2.2:Nat)):Int)=down p (s.2.2:Int):=by unfold down;split<;>split<;>omega
     have es:({s.1 with AY:=BB s.1.AY p,AL:=BB s.1.AL (k+(n+1))},s.2.1,if p<s.2.2 then s.2.2 -1 else s.2.2)=BS.Ig far.node anc.node (k+1+N) (k+(n+1)) s.1 s.2.1 s.2.2:=by unfold BS.Ig;simp only[ue];rw[Ag he,Af (Ac:k+(n+1)+3<k+1+N),E]
     have aGZ:=dr i.f_ hp X;have hd0:0<=down p (FC fe.c.node s.1.AY):=by unfold down;split<;>omega
     have D:=i.step es M K9 (by rw[CU gh,uf];simp only;rw[aGZ,ug]) i.hn (H.trans (Ey BN ai)) (by simp only;rw[aGZ];exact hd0) (by have:=i.mkb;simp only;split<;>omega);simp only[abS,↓reduceIte,JB,y,K.Ad,inc,r2.Ad,Zg,Hh,C.Ad,r4.Ad,rO,r5.Ad,dec];exact By.next n rfl ⟨_,_,_,_,D⟩ Ac
    .obtain⟨fs,Jn,hv⟩:=i.hc;have Im:s.1.AY.length=fs.length:=by rw[<-Jn,As]
     have aLu:p<fs.length:=Ac;have efp:fs[p].c=s.1.AY[p]:=by simp only[<-Jn,EV]
     have l3:=i.w.l3;have e1:=Bz.Dh (k:= .i64) hv aLu;have l5:Bi h1 none (Pt ai 5)=some (I anc.node):=At.load ⟨_,i.st,rfl⟩;obtain⟨r,C,hr⟩:=uc fs[p] h1;have Rc:=i.rm.C5 _ (A5 hp);rw[<-efp] at Rc;obtain⟨h2,G2,r4,z,H⟩:=th (m:=m+4*n) i.w i.ok.ba (i.rm.le Ac) hr fs[p].ok Rc.2 Rc.1 anc.node 1;obtain⟨ok2,f,le2⟩:=Uv (nm:=fs[p].c.name) (at_:=fs[p].c.Av) (p:=anc.node) i.ok Mh;have pJ:=Lw (m:=m+4*n+1) (nm:=fs[p].c.name) (l:=fs[p].c.Av) (sp:=1) (p:=anc.node) (i.rm.le Ac) Rc.2;have Qu:(s.1.Fz fs[p].c.name fs[p].c.Av 1 anc.node).AL=s.1.AL:=by unfold BS.Fz;rw[Af Mh]
     have Vq:(s.1.Fz fs[p].c.name fs[p].c.Av 1 anc.node).AY=s.1.AY:=by unfold BS.Fz;rw[Af Mh]
     have Z:BS.Ig far.node anc.node (k+1+N) (k+(n+1)) s.1 s.2.1 s.2.2=({s.1.Fz fs[p].c.name fs[p].c.Av 1 anc.node with a:=(s.1.Fz fs[p].c.name fs[p].c.Av 1 anc.node).a.If (s.1.JP fs[p].c.name fs[p].c.Av 1).node s.2.1 0,AL:=(s.1.Fz fs[p].c.name fs[p].c.Av 1 anc.node).AL.set (k+(n+1)) (s.1.JP fs[p].c.name fs[p].c.Av 1),AY:=(s.1.Fz fs[p].c.name fs[p].c.Av 1 anc.node).AY.set p {fs[p].c with node:=(s.1.JP fs[p].c.name fs[p].c.Av 1).node}},(s.1.JP fs[p].c.name fs[p].c.Av 1).node,if s.2.1=far.node then p+1 else s.2.2):=by unfold BS.Ig;simp only[ue];rw[Ag he,Ag Ac,E,AP,Au hp,FF,<-efp]
     have jh:=Qa i.ok f;have hna:=TA i.ok f;have hnf:(s.1.JP fs[p].c.name fs[p].c.Av 1).node≠fe.c.node:=λe2=>f.new (by rw[e2];exact i.fe);have aLw:=le2.has _ i.last;have aLx:(s.1.JP fs[p].c.name fs[p].c.Av 1).name.length<=1000:=Pv Rc.1;generalize s.1.JP fs[p].c.name fs[p].c.Av 1=d at*;generalize s.1.Fz fs[p].c.name fs[p].c.Av 1 anc.node=b2 at*;have eX:¬BM bi G2 ai:=λhg=>by
      rcases H.BM ai hg with hg|hg
      .exact i.hn hg
      .omega
     have uf:h2[ai]?=_:=(H.old ai hai i.hn).trans i.st;obtain⟨J,O,r5,aK⟩:=aKX z.sO (by have:=pJ.AL;omega) x.node d;have è:Pr x.node d b2.AL=b2.AL.set (k+(n+1)) d:=by unfold Pr;rw[Qu,U,Ag Ac,BH]
     rw[è] at aK;have M:=(z.Mk aK).JL (u:=O);have x3:Ew h1 (Ml ai bi G1) (put h2 bi 2 J++O) (Ml ai bi G2):=(Ey H ai).trans (Ey (BN.trans (z.Mk aK).DZ) ai);have ai2:ai<h2.length:=by have:=H.len;omega
     have st3:(put h2 bi 2 J++O)[ai]?=_:=(An (by rw[Ls];exact ai2)).trans ((CU gh).trans uf);have ai3:ai<(put h2 bi 2 J++O).length:=by rw[Ap,Ls];omega
     generalize put h2 bi 2 J++O=L at*;have aLy:=(Rc.2).1;obtain⟨B,t2,e2,he2,r6,Ql⟩:=aK5 (h:=L) (id:=bi) (o:=3) (l:=fs) ⟨c1,M.lO,hv⟩ Ac x.node (e:=⟨{fs[p].c with node:=d.node},fs[p].v,fs[p].ok⟩) (by unfold gi;simp only;omega);have hei:Ko x.node fs=(p:Int):=by rw[XC,Jn,ep]
     rw[hei,Ag Ac,BH] at Ql;have w4:=(M.PD (u:=B) (l:=b2.AY.set p {fs[p].c with node:=d.node})).JL (u:=t2);have hc4:Dj (b2.AY.set p {fs[p].c with node:=d.node}) B:=⟨_,by rw[GK,Jn,he2,Vq],Ql⟩;have x4:=x3.trans (Ey ((BN (k:=3) (v:=B)).trans (BX.DZ (u:=t2) (M.PD (u:=B) (l:=b2.AY.set p {fs[p].c with node:=d.node})))) ai);have A:(put L bi 3 B++t2)[ai]?=_:=(An (by rw[Ls];exact ai3)).trans ((CU gh).trans st3);generalize put L bi 3 B++t2=g at*;have ok3:=ok2.ob (i:=d) (k:=k+(n+1)) ⟨f.has,f.kind,f.A9,f.name⟩ (by rw[Qu];exact jh);have ī:=ok3.oh (e:={fs[p].c with node:=d.node}) (k:=p) ⟨f.has,f.kind⟩ (by simp only[Vq];exact hna);have rm4:Cd {b2 with AL:=b2.AL.set (k+(n+1)) d,AY:=b2.AY.set p {fs[p].c with node:=d.node}} (m+4*n+1):=by
      refine⟨pJ.n,pJ.at_,pJ.data,by simp only[BY];exact pJ.AL,by simp only[BY];exact pJ.AY,pJ.tm,λe he=>?_,λi hi=>?_⟩
      .rcases DA he with he|rfl
       .exact pJ.C5 e he
       .exact Rc
      .rcases DA hi with hi|rfl
       .exact pJ.ZG i hi
       .exact aLx
     have S:Bi g none (Pt ai 13)=some (I s.2.1):=At.load ⟨_,A,rfl⟩;have l9:Bi g none (Pt ai 9)=some (I far.node):=At.load ⟨_,A,rfl⟩;have t4:At g ai 4 (I (s.2.2:Int)):=⟨_,A,rfl⟩;obtain⟨dW,dw⟩:∃dW:Nat,dW=if s.2.1=far.node then p+1 else s.2.2:=⟨_,rfl⟩
     have e5:put g ai 4 (I (dW:Int))=if s.2.1=far.node then put g ai 4 (I ((p+1:Nat):Int)) else g:=by
      rw[dw];split;.rfl
      .exact t4.same
     have Q:=Ju (k:=4) (v:= I (dW:Int)) A;have w5:BX (put g ai 4 (I (dW:Int))) bi a J B t G2 {b2 with AL:=b2.AL.set (k+(n+1)) d,AY:=b2.AY.set p {fs[p].c with node:=d.node}}:=w4.DT λj hj=>CU λe=>eX (e▸hj);have x5:=x4.trans (PE (k:=4) (v:= I (dW:Int)));have ai5:ai<(put g ai 4 (I (dW:Int))).length:=by have:=x5.len;omega
     have t5:Bi (put g ai 4 (I (dW:Int))) none (Pt ai 13)=some (I s.2.1):=At.load ⟨_,Q,rfl⟩;generalize hh5:put g ai 4 (I (dW:Int))=h5 at*;obtain⟨h6,G6,r7,w6,x6⟩:=jU (x:=s.2.1) (p:=d.node) (bf:=0) w5 ī.ba rm4;rw[TK (by exact f.kind)] at w6;have Y:¬BM bi G6 ai:=λhg=>by
      rcases x6.BM ai hg with hg|hg
      .exact eX hg
      .omega
     have P:h6[ai]?=_:=(x6.old ai ai5 eX).trans Q;have t6:At h6 ai 13 (I s.2.1):=⟨_,P,rfl⟩;have st7:=Ju (k:=13) (v:= I d.node) P;have w7:BX (put h6 ai 13 (I d.node)) bi a J B t G6 _:=w6.DT λj hj=>CU λe=>Y (e▸hj);have x7:=(x5.trans (Ey x6 ai)).trans (PE (k:=13) (v:= I d.node));have dx:FC fe.c.node (b2.AY.set p {fs[p].c with node:=d.node})=FC fe.c.node s.1.AY:=by rw[Vq];exact ud i.f_ hp X hnf
     rw[<-dw] at Z;have D:=i.step Z.symm w7 hc4 (by simp only;rw[st7,dx];rfl) Y x7 (by simp only;rw[dx];exact i.f_) (by simp only;rw[dw];have:=i.mkb;split<;>omega);have V:fs[p].v.cells=[fs[p].v]:=Bz.cells fs[p].ok;have T:=CR (Ac:p<9223372036854775807);have R:Ca cx 265 [Pt bi 3,I x.node,.agg [I d.node,.str fs[p].c.name,fs[p].v]] L (.bool (decide (0<=Ko x.node fs))) g:=r6;rw[C1.row] at e1 C;by_cases fF:s.2.1=far.node
     .rw[Af fF] at e5;have s5:CH g 1 (Pt ai 4) (I ((p+1:Nat):Int))=some h5:=by rw[e5];exact t4.store rfl
      simp only[abS,Nat.reduceLeDiff,↓reduceIte,Bv,JB,y,K.Ad,inc,r2.Ad,Zg,Hh,(Ac:¬(p:Int)<0),l3,e1,l5,C.Ad,C8,r4.Ad,r5.Ad,V,R.Ad,S,l9,A6 fF,T,s5,t5,r7.Ad,t6.store (u:= I d.node) rfl,dec];exact By.next n rfl ⟨_,_,_,_,D⟩ Ac
     .rw[Ag fF] at e5;subst e5;simp only[abS,Nat.reduceLeDiff,↓reduceIte,Bv,JB,y,K.Ad,inc,r2.Ad,Zg,Hh,(Ac:¬(p:Int)<0),l3,e1,l5,C.Ad,C8,r4.Ad,r5.Ad,V,R.Ad,S,l9,fF,r7.Ad,t6.store (u:= I d.node) rfl,dec];exact By.next n rfl ⟨_,_,_,_,D⟩ Ac
 obtain⟨r,h',hr,rfl,o',c',G',s',e',i'⟩:=Pb.ret;exact⟨h',o',c',G',s',hr,e',i'⟩
end
end Go.Am
end
