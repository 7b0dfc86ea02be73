/- Lemmas -/
import Derived.Test.YtmfdhadocnndiaaGreatDoorS24
set_option linter.all false
set_option maxHeartbeats 0
set_option maxRecDepth 100000
section
namespace Go.Am
open Go
section
variable{h h':Ah}{a n:Nat}{m:Option Nat}{ps:List PN}{A:Ar}{x:Int}{F:Nat->Prop}
def ZT{p:PN}(w:PA h a n m ps A)(hx:A.has x){i:Nat}(hi:i∈Fa a n m (ps.set (x.toNat-1) p)):i∈Fa a n m ps\/Gt p.kv=some i:=by
 obtain⟨c,b⟩:=Uj w hx p;unfold Fa at hi⊢;rw[b,D1] at hi;simp only[Az,An,BU] at hi⊢;rcases hi with h1|h1|h1|⟨q,h1,h2⟩|⟨q,h1,h2⟩
 .exact .inl (.inl h1)
 .exact .inl (.inr (.inl h1))
 .exact .inl (.inr (.inr (.inl h1)))
 .exact .inl (.inr (.inr (.inr ⟨q,AS h1,h2⟩)))
 .rcases h1 with rfl|h1
  .exact .inr h2
  .exact .inl (.inr (.inr (.inr ⟨q,Bc h1,h2⟩)))
def xD{kv:Aa}{l:List Int}{k:Nat}(hk:IL h kv l)(Vw:k<=l.length)(hb:l.length<=1000000000)(y:Int):
  ∃h1,D2 .mE h [kv,I (k:Int),.sl 1 [[I y]]]=some (h1,.CI h.length 0 (l.length+1) 1)/\h1[h.length]?=some (.cells ((l.take k++y::l.drop k).map (Aa.int .i64)))/\(∀i,i<h.length->Gt kv≠some i->h1[i]?=h[i]?)/\h1.length=h.length+1:=by
 rcases hk with⟨rfl,rfl⟩|⟨id,cs,rfl,hc⟩
 .have:k=0:=by simpa using Vw
  subst this;exact⟨h++[.cells [I y]],rfl,Av,λi hi _=>Al hi,Av⟩
 .have Hn:=(Ai.1 hc).1;refine⟨h.set id .DD++[.cells ((l.take k++y::l.drop k).map (Aa.int .i64))],?_,by rw[BD Av];simp,λi hi hn=>?_,Av⟩
  .simp only[D2,NJ,hc];rw[Ad (by have:AN=140737488355328:=rfl;simp;omega)];simp only[Bz];have c:(l.map (Aa.int .i64)++cs).take k=(l.take k).map (Aa.int .i64):=by rw[Da (by simpa using Vw),HW]
   have b:(l.map (Aa.int .i64)++cs).take l.length=l.map (Aa.int .i64):=HR Av;rw[c,b];simp
  .rw[Al (by simpa using hi),Ao];intro e;exact hn (by rw[e];rfl)
def N1{p b:Int}(hf:¬r_ A p x b):A.HP p x b=A:=by unfold Ar.HP;rw[Ac hf]
def xE{l:List Int}{b y:Int}{k:Nat}(hb:b=0->k=l.length)(h2:b≠0->l.takeWhile (λy=>decide (y≠b))=l.take k/\l.dropWhile (λy=>decide (y≠b))=l.drop k):K5 l b y=l.take k++y::l.drop k:=by
 unfold K5;by_cases h0:b=0;.rw[Ad h0,hb h0];simp
 .rw[Ac h0,(h2 h0).1,(h2 h0).2]
open Classical in
def Ŀ{e p b:Int}(w:PA h a n m ps A)(d:Lv A)(ok:DS A e):
  ∃V h' N8,Co cx 123 [Pt a 0,I p,I x,I b] h (I V) h'/\PA h' a n m N8 (A.HP p x b)/\Fv h (λi=>i∈Fa a n m ps) h' (λi=>i∈Fa a n m N8):=by
 by_cases qN:A.has p/\A.has x;rotate_left;.refine⟨3,h,ps,?_,by rw[N1 (λf=>qN ⟨f.hp,f.hn⟩)];exact w,.refl⟩;rw[Aj,K9,XL];simp only[abS,EO,(JU (x:=p) (y:=x) w).Ag,Ac qN,Ct,(Br:¬(3:Int)=0)]
 obtain⟨hp,hx⟩:=qN;by_cases hb:b≠0/\¬A.has b;.refine⟨3,h,ps,?_,by rw[N1 (λf=>hb.2 (f.hb hb.1).1)];exact w,.refl⟩;rw[Aj,K9,XL];simp only[abS,EO,(JU (x:=p) (y:=x) w).Ag,Ad (And.intro hp hx),Ct,BM,hb.1,(Se (x:=b) w).Ag,A4 hb.2,Ep]
 have Qm:b=0\/(b≠0/\A.has b):=by
  by_cases h0:b=0;.exact .inl h0
  .refine .inr ⟨h0,?_⟩;by_cases h1:A.has b;.exact h1
   .exact absurd ⟨h0,h1⟩ hb
 by_cases kp:MN (A.nd p).kind;rotate_left
 .refine⟨4,h,ps,?_,by rw[N1 (λf=>kp f.kp)];exact w,.refl⟩;unfold MN at kp;have c:¬(A.nd p).kind=1:=λe=>kp (.inl e);have q:¬(A.nd p).kind=2:=λe=>kp (.inr (.inl e));have C:¬(A.nd p).kind=4:=λe=>kp (.inr (.inr e));rw[Aj,K9,XL];rcases Qm with h0|⟨h0,MR⟩
  .simp only[abS,EO,(JU (x:=p) (y:=x) w).Ag,Ad (And.intro hp hx),Ct,BM,(Hv w d hp).Ag,(Hv w d hx).Ag,w.f0 hp,w.f0 hx,c,Ep,h0,q,C]
  .simp only[abS,EO,(JU (x:=p) (y:=x) w).Ag,Ad (And.intro hp hx),Ct,BM,(Hv w d hp).Ag,(Hv w d hx).Ag,w.f0 hp,w.f0 hx,c,Ep,h0,(Se (x:=b) w).Ag,AW MR,q,C]
 by_cases kn:(A.nd x).kind=1\/(A.nd x).kind=2
 .refine⟨4,h,ps,?_,by rw[N1 (λf=>by have:=f.kn;omega)];exact w,.refl⟩;rw[Aj,K9,XL];rcases kp with c|c|c<;>rcases kn with q|q<;>rcases Qm with h0|⟨h0,MR⟩
  all_goals first|(simp only[abS,EO,(JU (x:=p) (y:=x) w).Ag,Ad (And.intro hp hx),Ct,BM,(Hv w d hp).Ag,(Hv w d hx).Ag,w.f0 hp,w.f0 hx,c,(Br:¬(2:Int)=1),(Br:¬(4:Int)=1),(Br:¬(4:Int)=2),Ep,h0,q];done)|simp only[abS,EO,(JU (x:=p) (y:=x) w).Ag,Ad (And.intro hp hx),Ct,BM,(Hv w d hp).Ag,(Hv w d hx).Ag,w.f0 hp,w.f0 hx,c,(Br:¬(2:Int)=1),(Br:¬(4:Int)=1),(Br:¬(4:Int)=2),Ep,h0,(Se (x:=b) w).Ag,AW MR,q]
 have xw:¬(A.nd x).kind=1:=λe=>kn (.inl e);have la:¬(A.nd x).kind=2:=λe=>kn (.inr e);have l:=ĸ w ok hx hp;by_cases re:Reach A x p
 .refine⟨4,h,ps,?_,by rw[N1 (λf=>f.re re)];exact w,.refl⟩;rw[AW re] at l;rw[Aj,K9,XL];rcases kp with c|c|c<;>rcases Qm with h0|⟨h0,MR⟩
  all_goals first|(simp only[abS,EO,(JU (x:=p) (y:=x) w).Ag,Ad (And.intro hp hx),Ct,BM,(Hv w d hp).Ag,(Hv w d hx).Ag,w.f0 hp,w.f0 hx,c,(Br:¬(2:Int)=1),(Br:¬(4:Int)=1),(Br:¬(4:Int)=2),Ep,h0,xw,la,l.Ag];done)|simp only[abS,EO,(JU (x:=p) (y:=x) w).Ag,Ad (And.intro hp hx),Ct,BM,(Hv w d hp).Ag,(Hv w d hx).Ag,w.f0 hp,w.f0 hx,c,(Br:¬(2:Int)=1),(Br:¬(4:Int)=1),(Br:¬(4:Int)=2),Ep,h0,(Se (x:=b) w).Ag,AW MR,xw,la,l.Ag]
 rw[A4 re] at l;by_cases g:b≠0/\(b=x\/(A.nd b).DA≠p)
 .refine⟨5,h,ps,?_,by rw[N1 (λf=>by have:=f.hb g.1;rcases g.2 with h|h;exact this.2.1 h;exact h this.2.2)];exact w,.refl⟩;obtain⟨h0,g⟩:=g;have MR:=(Qm.resolve_left h0).2;rw[Aj,K9,XL];by_cases lf:b=x;.have aJx:=lf;rcases kp with c|c|c<;>simp only[abS,EO,(JU (x:=p) (y:=x) w).Ag,Ad (And.intro hp hx),Ct,BM,(Hv w d hp).Ag,(Hv w d hx).Ag,w.f0 hp,w.f0 hx,c,(Br:¬(2:Int)=1),(Br:¬(4:Int)=1),(Br:¬(4:Int)=2),Ep,xw,la,l.Ag,lf,show¬x=0 from lf▸h0,AW hx,(Se (x:=x) w).Ag]
  .have g:=g.resolve_left lf;rcases kp with c|c|c<;>simp only[abS,EO,(JU (x:=p) (y:=x) w).Ag,Ad (And.intro hp hx),Ct,BM,(Hv w d hp).Ag,(Hv w d hx).Ag,w.f0 hp,w.f0 hx,c,(Br:¬(2:Int)=1),(Br:¬(4:Int)=1),(Br:¬(4:Int)=2),Ep,h0,(Se (x:=b) w).Ag,AW MR,xw,la,l.Ag,lf,(Hv w d MR).Ag,w.f1 MR,g]
 have fits:r_ A p x b:=⟨hp,hx,λh0=>⟨(Qm.resolve_left h0).2,λe=>g ⟨h0,.inl e⟩,by
  by_cases h1:(A.nd b).DA=p;.exact h1
  .exact absurd ⟨h0,.inr h1⟩ g⟩,kp,⟨xw,la⟩,re⟩
 have U:A.HP p x b=(A.cut x).MZ p x b:=by unfold Ar.HP;rw[Ad fits]
 obtain⟨h1,pH,L,w1,P⟩:=ļ w d ok hx;have qO:=uC ok hx la;have kq:=d.cut (x:=x);have fF:(A.cut x).has p:=Mt.2 hp;have QG:(A.cut x).has x:=Mt.2 hx;have E:x≠p:=by rintro rfl;exact re .refl
 have aR:=kq.AX qO p;obtain⟨k,Vw,u,zQ⟩:∃k,k<=((A.cut x).nd p).AX.length/\(b=0->k=((A.cut x).nd p).AX.length)/\(b≠0->BV (λy=>decide (b=y)) 0 ((A.cut x).nd p).AX=(k:Int)/\((A.cut x).nd p).AX.takeWhile (λy=>decide (y≠b))=((A.cut x).nd p).AX.take k/\((A.cut x).nd p).AX.dropWhile (λy=>decide (y≠b))=((A.cut x).nd p).AX.drop k):=by
  by_cases h0:b=0;.exact⟨_,Ae _,λ_=>rfl,λh=>absurd h0 h⟩
  .have r:=fits.hb h0;have ŀ:((A.cut x).nd b).DA=p:=by
    rw[T1 ok hx,Ac r.2.1];split;.exact r.2.2
    .exact r.2.2
   have du:b∈((A.cut x).nd p).AX:=by have:=(qO.DA b (Mt.2 r.1) (by rw[ŀ];have:=hp.1;omega)).2;rwa [ŀ] at this
   obtain⟨k,c,q,_,C,S⟩:=P4 du;exact⟨k,Ab,λh=>absurd h h0,λ_=>⟨q,C,S⟩⟩
 have OM:=xE (y:=x) u λh=>(zQ h).2;have Kq:=w1.Kq fF;obtain⟨h2,H,JJ,gS,Yi⟩:=xD Kq Vw aR x;have G:=(w1.pn fF).2.1;obtain⟨o,dy⟩:∃o:PN,o=⟨{(A.cut x).nd p with AX:=K5 ((A.cut x).nd p).AX b x},.CI h1.length 0 (((A.cut x).nd p).AX.length+1) 1,(pN pH p).av,w1.Ī fF⟩:=⟨_,rfl⟩;have t:o.x={(A.cut x).nd p with AX:=K5 ((A.cut x).nd p).AX b x}:=by rw[dy]
 have hrow:o.row=(pN pH p).row.set 2 (.CI h1.length 0 (((A.cut x).nd p).AX.length+1) 1):=by rw[dy];simp only[PN.row];rw[G];rfl
 have Ł:n∈Fa a n m pH:=by simp[Fa]
 have æ:Gt (pN pH p).kv≠some n:=by intro B;have:=w1.nd;unfold Fa at this;simp only[BC,Az,O2] at this;exact this.2.1 (An.2 (.inr (BU.2 ⟨_,(w1.pn fF).2.2,B⟩)))
 have D:=w1.sto fF (k:=2) Br (v:= .CI h1.length 0 (((A.cut x).nd p).AX.length+1) 1) rfl hrow (gS n (w1.lt n Ł) æ);have hlen:(K5 ((A.cut x).nd p).AX b x).length=((A.cut x).nd p).AX.length+1:=by rw[OM,Ap,AO,Aw,A5];omega
 have s:=w1.qD fF (p:=o) (h1:=h2) (λi hi hn=>gS i (w1.lt i hi) hn) (by rw[dy];refine .inr ⟨h1.length,[],by simp only[hlen],?_⟩;simp only[OM,Bi];exact JJ) (.inr λj hj=>by rw[dy] at hj;cases hj;exact Ae _)
 have Tm:∀i,i∈Fa a n m (pH.set (p.toNat-1) o)->i∈Fa a n m pH\/i=h1.length:=by
  intro i hi;rcases ZT w1 fF hi with h|h
  .exact .inl h
  .rw[dy] at h;cases h;exact .inr rfl
 generalize z:h2.set n (.cells ((pH.set (p.toNat-1) o).map PN.row).flatten)=h3 at D s;generalize aJA:pH.set (p.toNat-1) o=xA at s Tm;rw[t] at s;have Xa:((A.cut x).set p {(A.cut x).nd p with AX:=K5 ((A.cut x).nd p).AX b x}).has x:=HU.2 QG;have Ya:((A.cut x).set p {(A.cut x).nd p with AX:=K5 ((A.cut x).nd p).AX b x}).nd x=(A.cut x).nd x:=by rw[IH,Ac (λh=>E h.1)]
 have qN:=(s.pn Xa).2.1;obtain⟨N,J,Q,T,R,l4⟩:=s.wr Xa (k:=1) Br (v:= I p) rfl (p:=⟨{(A.cut x).nd x with DA:=p},(pN xA x).kv,(pN xA x).av,by have:=(pN xA x).ok;rw[qN,Ya] at this;exact this⟩) (by simp only[PN.row];rw[qN,Ya];rfl) rfl (B8 Ek.AX Ya).symm;have ł:(A.cut x).MZ p x b=((A.cut x).set p {(A.cut x).nd p with AX:=K5 ((A.cut x).nd p).AX b x}).set x {(A.cut x).nd x with DA:=p}:=by unfold Ar.MZ;simp only;rw[Ya]
 refine⟨0,N,_,?_,by rw[U,ł];exact Q,?_⟩
 .rw[Aj,K9,XL];by_cases h0:b=0;.rw[u h0] at H;have kl:=Kq.len;rcases kp with c|c|c<;>simp only[abS,EO,(JU (x:=p) (y:=x) w).Ag,Ad (And.intro hp hx),Ct,BM,(Hv w d hp).Ag,(Hv w d hx).Ag,w.f0 hp,w.f0 hx,c,(Br:¬(2:Int)=1),(Br:¬(4:Int)=1),(Br:¬(4:Int)=2),Ep,h0,xw,la,l.Ag,L.Ag,w1.f2 fF,kl,E9,H,D,J]
  .have r:=fits.hb h0;have MR:=r.1;have K:=xr Kq.L1 aR b;rw[(zQ h0).1] at K;have kl:=Kq.len;rcases kp with c|c|c<;>simp only[abS,EO,(JU (x:=p) (y:=x) w).Ag,Ad (And.intro hp hx),Ct,BM,(Hv w d hp).Ag,(Hv w d hx).Ag,w.f0 hp,w.f0 hx,c,(Br:¬(2:Int)=1),(Br:¬(4:Int)=1),(Br:¬(4:Int)=2),Ep,h0,(Se (x:=b) w).Ag,AW MR,xw,la,l.Ag,r.2.1,(Hv w d MR).Ag,w.f1 MR,r.2.2,L.Ag,w1.f2 fF,kl,K.Ag,E9,H,D,J]
 .have VO:h3.length=h1.length+1:=by rw[<-z,BJ,Yi]
  have O:Fv h1 (λi=>i∈Fa a n m pH) N (λi=>i∈Fa a n m (xA.set (x.toNat-1) ⟨{(A.cut x).nd x with DA:=p},(pN xA x).kv,(pN xA x).av,by have:=(pN xA x).ok;rw[qN,Ya] at this;exact this⟩)):=by
   refine⟨Ab,λi hi UC=>?_,λi hi=>?_⟩;.have M:i≠n:=λB=>UC (B▸Ł);rw[R i M,<-z,Ao (DK M)];exact gS i hi λB=>UC (JC (w1.pn fF).2.2 B)
   .rw[T] at hi;rcases Tm i hi with h|h
    .exact .inl h
    .exact .inr Ab
  exact P.trans O
end
def Ny(a:Nat)(b:BS)(o c t:Aa):List Aa:=[Pt a 0,I b.CQ,o,c,I b.mode,I b.ZC,t,I b.head,I b.OW,.bool b.Nw,I b.ctx.node,I b.ctx.AY,.str b.ctx.name,.bool b.ctx.MJ,.bool b.fs,.bool b.Fl,.str b.oT,.bool b.skip,I b.sw,.bool b.stop]
def Q3(l:List Int)(v:Aa):Prop:=EC l v\/(v= .Fb 1/\l=[])
def Vb(l:List Int)(v:Aa):Prop:=Q3 l v/\v≠ .sl 1 []
section
variable{h:Ah}{l:List Int}{v:Aa}
def Q3.cells(t:Q3 l v):v.cells=[v]:=by
 rcases t with t|⟨rfl,_⟩
 .exact Bn.cells t
 .rfl
def Q3.len(t:Q3 l v):Ax (.len false) [v]=some (I (l.length:Int)):=by
 rcases t with t|⟨rfl,rfl⟩
 .exact Bn.FL t
 .rfl
def Q3.ne(t:Q3 l v)(hne:l≠[]):EC l v:=by
 rcases t with t|⟨_,e⟩
 .exact t
 .exact absurd e hne
def Q3.L1(t:Q3 l v):Q2 h v l:=⟨t.len,λk hk=>(EC.L1 (t.ne (λe=>by rw[e] at hk;simp at hk))).at_ k hk⟩
def Q3.Nr(t:Q3 l v)(hb:l.length*8<=AN):∃u,Ax (.append 1 8) [.slnil,v]=some u/\EC l u:=by
 rcases t with t|⟨rfl,rfl⟩
 .exact Bn.Nr t hb
 .exact⟨.slnil,rfl,.inr ⟨rfl,rfl⟩⟩
def Vb.sI{m:Int}:Vb (l++[m]) (.sl 1 ((l++[m]).map Dz)):=⟨.inl .mk,λe=>by injection e with _ e;simp at e⟩
def Vb.nil:Vb [] .slnil:=⟨.inl (.inr ⟨rfl,rfl⟩),nofun⟩
end
structure BX(h:Ah)(bi a:Nat)(o c t:Aa)(G:Nat->Prop)(b:BS):Prop where
 hb:h[bi]?=some (.cells (Ny a b o c t))
 o:C9 b.AV o
 t:Vb b.tm t
 w:PW h G a b.a
 nb:¬G bi
section
variable{h:Ah}{bi a:Nat}{o c t:Aa}{G F:Nat->Prop}{b:BS}{x:Int}{m:Nat}
def BX.lt(w:BX h bi a o c t G b):bi<h.length:=(Ai.1 w.hb).1
def BX.El{h':Ah}(w:BX h bi a o c t G b)(hf:∀i,i=bi\/G i->h'[i]?=h[i]?):BX h' bi a o c t G b:=
 ⟨by rw[hf bi (.inl rfl)];exact w.hb,w.o,w.t,w.w.El λi hi=>hf i (.inr hi),w.nb⟩
def BX.Ja(w:BX h bi a o c t G b){u:Ah}:BX (h++u) bi a o c t G b:=w.El λi hi=>Al (by rcases hi with rfl|hi;exact w.lt;exact w.w.lt hi)
def BX.ld(w:BX h bi a o c t G b)(k:Nat):Bk h none (Pt bi k)=(Ny a b o c t)[k]?:=by simp only[Bk,w.hb,E5]
def BX.l0(w:BX h bi a o c t G b):Bk h none (Pt bi 0)=some (Pt a 0):=w.ld 0
def BX.l1(w:BX h bi a o c t G b):Bk h none (Pt bi 1)=some (I b.CQ):=w.ld 1
def BX.l4(w:BX h bi a o c t G b):Bk h none (Pt bi 4)=some (I b.mode):=w.ld 4
def BX.l7(w:BX h bi a o c t G b):Bk h none (Pt bi 7)=some (I b.head):=w.ld 7
def BX.l9(w:BX h bi a o c t G b):Bk h none (Pt bi 9)=some (.bool b.Nw):=w.ld 9
def BX.lg(w:BX h bi a o c t G b):Bk h none (Pt bi 15)=some (.bool b.Fl):=w.ld 15
def BX.l3(w:BX h bi a o c t G b):Bk h none (Pt bi 3)=some c:=w.ld 3
def BX.l6(w:BX h bi a o c t G b):Bk h none (Pt bi 6)=some t:=w.ld 6
def BX.atO(w:BX h bi a o c t G b):At h bi 2 o:=⟨_,w.hb,rfl⟩
def BX.xF(w:BX h bi a o c t G b):At h bi 3 c:=⟨_,w.hb,rfl⟩
def BX.sO(w:BX h bi a o c t G b):J9 h bi 2 b.AV:=⟨o,w.atO,w.o⟩
def BX.sA(w:BX h bi a o c t G b):qJ h (Pt bi 2) b.AV:=w.sO.at
def GS(w:BX h bi a o c t G b):Co cx 45 [Pt bi 0] h (.bool true) h:=by rw[Aj,vH,t45];simp only[abS,w.l0]
def PW.pa{A:Ar}(w:PW h G a A):∃n m ps,PA h a n m ps A:=let⟨n,m,ps,w,_⟩:=w;⟨n,m,ps,w⟩
def Sf(w:BX h bi a o c t G b)(ok:BA b)(rm:Cs b m)(x:Int):∃K V u,Co cx 62 [Pt bi 0,I x] h (.agg [I (b.a.nd x).kind,I (b.a.nd x).DA,K,I (b.a.nd x).CQ,I (b.a.nd x).AY,.str (b.a.nd x).name,V,.str (b.a.nd x).data,.str (b.a.nd x).z_,.str (b.a.nd x).sys,.bool (b.a.nd x).CS,I (b.a.nd x).cont,I (b.a.nd x).CJ]) (h++u)/\EC (b.a.nd x).AX K/\Ex (h++u) V (b.a.nd x).AE/\Up h.length V:=by obtain⟨n,m',ps,d⟩:=w.w.pa;obtain⟨r,u,e,K,V,rfl,hK,f⟩:=ī (x:=x) d rm.U7 (rm.U7.AX ok.ok x);refine⟨K,V,u,?_,hK,f⟩;rw[Aj,vJ,t62];simp only[abS,w.l0,e.Ag]
def Ń(w:BX h bi a o c t G b)(rm:Cs b m):Co cx 19 [Pt bi 0] h (.agg (Hz b.AV).row) h:=by have:=rm.AV;rw[Aj,uY,t19];simp only[abS,Iq,(GS w).Ag,(f39 w.sA Ab).Ag]
def ń(w:BX h bi a o c t G b)(ok:BA b)(rm:Cs b m):Co cx 116 [Pt bi 0] h (.tuple [I b.Lo.1,I b.Lo.2]) h:=by
 have hl:=rm.AV;obtain⟨n,m',ps,f⟩:=w.w.pa;have e:=xn w.sA (Ab:b.AV.length<=1000000000) HE;have r2:=xn w.sA (Ab:b.AV.length<=1000000000) BG;have b1:=Mx (q:=BK [HE]) (l:=b.AV);have b2:=Mx (q:=BK [BG]) (l:=b.AV);unfold BS.Lo;simp only
 generalize AR (BK [HE]) b.AV=d at e b1⊢;generalize AR (BK [BG]) b.AV=g at r2 b2⊢;rw[Aj,jN,uy];simp only[Cn,e.Ag,r2.Ag];refine⟨λh1=>?_,λh1=>⟨λh2=>?_,λh2=>?_⟩⟩;.rw[Ad h1];simp only[Cn,Iq,(QZ w.sA g).Ag]
 .rw[Ac h1,Ad h2];simp only[Cn,Iq,(QZ w.sA 0).Ag]
 .rw[Ac h1,Ac h2];simp only[abS,Iq,(QZ w.sA d).Ag,w.l0,(Ĭ (x:=(Ft b.AV d).node) f rm.U7).Ag];refine⟨λh3=>?_,λh3=>?_⟩;.rw[Ad h3]
  .rw[Ac h3];have i:(if d-1<0 then 0 else d-1)=max (d-1) 0:=Ab;simp only[Cn,Iq,D7 (Ab: -9223372036854775808<=d-1) (Ab:d-1<9223372036854775808),Xn,i,(QZ w.sA (max (d-1) 0)).Ag]
def Wi:Ax (.Cb 1) [S HE,S dU,S dV,S dW,S wTr]=some (.sl 1 (H8.map CW)):=EI (ws:=H8) rfl Br
def fG{v:Aa}{ws:List Au}(hv:JR ws v)(hn:ws.length<=1000000000)(a:Item)(h:Ah):Co cx 69 [.agg a.row,v] h (.bool (BK ws a)) h:=by rw[Aj,vP,t69];simp only[Cn,Iq,(Ġ hv hn _ h).Ag,BK];refine⟨λh1=>by simp[h1],λh1=>by simp[h1]⟩
def xG{A:Ar}{x:Int}(hk:(A.nd x).kind=4)(ws:List Au):BK ws ⟨0,(A.nd x).AY,(A.nd x).name,false⟩=decide (aP ws A x):=by
 by_cases h:aP ws A x;.rw[AW h];unfold BK;rw[AW];exact⟨h.2.1,h.2.2⟩
 .rw[A4 h];unfold BK;rw[A4];exact λh2=>h ⟨hk,h2.1,h2.2⟩
def dz(w:BX h bi a o c t G b)(ok:BA b)(rm:Cs b m)(x:Int):∃u,Co cx 61 [Pt bi 0,I x] h (.tuple [I (b.place x).1,I (b.place x).2]) (h++u):=by
 have hl:=rm.AV;by_cases A:x=0/\b.AV=[]
 .refine⟨[],?_⟩;have C:b.place x=(b.CQ,0):=by unfold BS.place;rw[Ad A]
  rw[C,Bi,Aj,eR,t61];simp only[abS,(GS w).Ag,A.1,A.2,BM,(QY w.sA).Ag,Qk,w.l1]
 .obtain⟨t',ht⟩:∃t',t'=if x=0 then(Hz b.AV).node else x:=⟨_,rfl⟩
  obtain⟨X,U,p,R,_,_⟩:=Sf w ok rm t';have w1:=w.Ja (u:=p);have C:b.place x=if(b.a.nd (if b.Fl=true/\aP H8 b.a t' then b.Lo else(t',0)).1).cont≠0 then((b.a.nd (if b.Fl=true/\aP H8 b.a t' then b.Lo else(t',0)).1).cont,0) else if b.Fl=true/\aP H8 b.a t' then b.Lo else(t',0):=by unfold BS.place;rw[Ac A,<-ht]
  obtain⟨B,uQ⟩:∃B,B=if b.Fl=true/\aP H8 b.a t' then b.Lo else(t',0):=⟨_,rfl⟩
  rw[<-uQ] at C;obtain⟨V,T,u2,r2,_,_⟩:=Sf w1 ok rm B.1;have Q:=ń w1 ok rm;have r:=fG (ws:=H8) DR Br ⟨0,(b.a.nd t').AY,(b.a.nd t').name,false⟩ (h++p);have em:∀s n,Ax (.B0 [I 0,I 0,S [],ff] [(1,1),(2,1)]) [I s,.str n]=some (.agg (Item.row ⟨0,s,n,false⟩)):=λ_ _=>rfl;refine⟨p++u2,?_⟩;rw[<-AA];have last:∀(y:Int×Int),y=B->W cx (.call 62 [Pt bi 0,I y.1] λj=> .cells 13 j λŅ=> .op (.int .neq) [g Ņ 11,I 0] λf=> .AM f (.ret .ret [.tuple [g Ņ 11,I 0]]) (.ret .ret [.tuple [I y.1,I y.2]])) (λd vs h1=>d=Fc.ret/\vs=[.tuple [I (b.place x).1,I (b.place x).2]]/\h1=h++p++u2) (h++p):=by
   rintro _ rfl;rw[C];simp only[Cn,r2.Ag];refine⟨λh1=>?_,λh1=>?_⟩;.rw[Ad h1]
   .rw[Ac h1]
  rw[Aj,eR,t61];have lg:=w1.lg;have mid:W cx (.call 62 [Pt bi 0,I t'] λN=> .cells 13 N λk=> .DW 200009 (.op .JL [Pt bi 0] λM=> .op (.FB 15) [M] λv16=> .load none v16 λL=> .AM L (.op (.int .eql) [g k 0,I 4] λK=> .AM K (.op (.B0 [I 0,I 0,S [],ff] [(1,1),(2,1)]) [g k 4,g k 5] λJ=> .op (.Cb 1) [S aLK,S aL0,S aLW,S aL1,S [116,114]] λv20=> .call 69 [J,v20] λH=> .ret .normal [H]) (.ret .normal [ff])) (.ret .normal [ff])) (λx P=>match x with
    | .normal=> .DW 100046 (.AM (g P 0) (.call 116 [Pt bi 0] λq=> .op (.ext 0) [q] λE=> .op (.ext 1) [q] λD=> .ret .normal [E,D]) (.ret .normal [I t',I 0])) (λx ņ=>match x with
     | .normal=> .call 62 [Pt bi 0,g ņ 0] λj=> .cells 13 j λŅ=> .op (.int .neq) [g Ņ 11,I 0] λf=> .AM f (.ret .ret [.tuple [g Ņ 11,I 0]]) (.ret .ret [.tuple [g ņ 0,g ņ 1]])
     | .exit i=> .fail
     | .ret=> .ret .ret [.tuple [g ņ 0,g ņ 1]])
    | .exit i=> .fail
    | .ret=> .ret .ret [.tuple [I t',I 0]])) (λd vs h1=>d=Fc.ret/\vs=[.tuple [I (b.place x).1,I (b.place x).2]]/\h1=h++p++u2) h:=by
   rw[R.Ag];by_cases hf:b.Fl=true
   .rw[hf] at lg;by_cases z:(b.a.nd t').kind=4
    .rw[xG z] at r;by_cases hw:aP H8 b.a t';.rw[AW hw] at r;rw[Ad ⟨hf,hw⟩] at uQ;have:=last b.Lo uQ.symm;simp only[abS,lg,z,em,Wi,r.Ag,Q.Ag];simpa only[Cn,dG,AO,Bq] using this
     .rw[A4 hw] at r;rw[Ac (λh=>hw h.2)] at uQ;have:=last (t',0) uQ.symm;simp only[abS,lg,z,em,Wi,r.Ag];simpa only[Cn,dG,AO,Bq] using this
    .rw[Ac (λh=>z h.2.1)] at uQ;have:=last (t',0) uQ.symm;simp only[abS,lg,z];simpa only[Cn,dG,AO,Bq] using this
   .rw[Ac (λh=>hf h.1)] at uQ;have:=last (t',0) uQ.symm;rw[show b.Fl=false by simpa using hf] at lg;simp only[Cn,lg];simpa only[Cn,dG,AO,Bq] using this
  by_cases h0:x=0
  .have hne:b.AV≠[]:=λe=>A ⟨h0,e⟩;have O:¬((b.AV.length:Nat):Int)=0:=by have:=FQ.2 hne;omega
   rw[Ad h0] at ht;rw[ht] at mid;simp only[abS,(GS w).Ag];rw[h0] at mid⊢;simp only[abS,Iq,(QY w.sA).Ag,O,(Ń w rm).Ag] at mid⊢;exact mid
  .rw[Ac h0] at ht;rw[ht] at mid;simp only[abS,(GS w).Ag,h0,Ck] at mid⊢;exact mid
end
section
def pI{Q:Iw}{h:Ah}{k:Aa->IT}:W cx (.N4 k) Q h↔W cx (k (.map (some h.length))) Q (h++[.map (ft 0)]):=OP
section
variable{v:Aa}{l:List A0}{h:Ah}
def aDo(hv:Cw l v)(hb:l.length<=1000)(sp:Int):∃u,Co cx 101 [I sp,v] h u (h++[.map (ft 11)])/\Cw (l.map (Dt sp)) u:=by
 have HZ:Bn 3 (l.map A0.row) v:=hv;have Ng:Ev cx 101 [I sp,v] h λr h'=>h'=h++[.map (ft 11)]/\Cw (l.map (Dt sp)) r:=by
  unfold Ev;rw[jG,um];rw[pI];simp only[Cn,Nat.reduceLeDiff,↓reduceIte,Bl,EN,dM,Ā,ā,Ă,ă,Ą,ą,Ć,ć,Ĉ,ĉ,rl,HZ.FL];refine BF (λp:Nat×Aa=>[p.2,I (p.1:Int)]) (λp h1=>p.1<=l.length/\Cw ((l.take p.1).map (Dt sp)) p.2/\h1=h++[.map (ft 11)]) (λp=>l.length-p.1) (0,.slnil) rfl ⟨AZ _,.nil,rfl⟩ ?_;rintro⟨n,u⟩ h1 ⟨hn,hu,rfl⟩;simp only at hn hu;rcases A8 n l.length with hlt|GR
  .have i1:(n:Int)<(l.length:Int):=by omega
   have HL:∀{q:List Aa},q=(Dt sp l[n]).row->∃w,Ax (.append 3 40) [u,.sl 3 [q]]=some w/\Cw ((l.take (n+1)).map (Dt sp)) w:=by
    rintro _ rfl;refine⟨_,Bn.V6 (f:=A0.row) (a:=Dt sp l[n]) (b:=40) hu ?_,?_⟩;.simp[AN];omega
    .rw[AL hlt,BW];exact .mk
   have inc:=Cu (Ab:n<9223372036854775807);by_cases e:sp=2
   .subst e;cases c:Im (Dl l[n].name LU) with
    |some x=>obtain⟨w,d,hw⟩:=HL (q:=[I x.1,.str x.2,.str l[n].value]) (by simp only[Dt,K0,true_or,BE,c,A0.row]);simp only[Cn,Nat.reduceLeDiff,↓reduceIte,Bl,i1,HZ.Dw hlt,EN,A0.row,(ğ _).Cx rfl rfl,AD,AK,AG,Ks,c,Kt,d,inc];exact A7.next (n+1,w) rfl ⟨hlt,hw,rfl⟩ Gp
    |none=>obtain⟨w,d,hw⟩:=HL (q:=[I 0,.str (Dl l[n].name LU),.str l[n].value]) (by simp only[Dt,K0,true_or,BE,c,A0.row]);simp only[Cn,Nat.reduceLeDiff,↓reduceIte,Bl,i1,HZ.Dw hlt,EN,A0.row,(ğ _).Cx rfl rfl,AD,AK,AG,Ks,c,Kt,d,inc];exact A7.next (n+1,w) rfl ⟨hlt,hw,rfl⟩ Gp
   by_cases g:sp=3
   .subst g;by_cases hd:l[n].name=Ċ
    .have c:Im rp=none:=by decide
     obtain⟨w,d,hw⟩:=HL (q:=[I 0,.str rp,.str l[n].value]) (by simp only[Dt,K0,hd,or_true,BE,EX,c,A0.row,aG,e]);simp only[Cn,Nat.reduceLeDiff,↓reduceIte,Bl,i1,HZ.Dw hlt,EN,A0.row,hd,(Br:¬(3:Int)=2),AD,AF,AK,AG,Ks,c,Kt,d,inc];exact A7.next (n+1,w) rfl ⟨hlt,hw,rfl⟩ Gp
    .cases c:Im l[n].name with
     |some x=>obtain⟨w,d,hw⟩:=HL (q:=[I x.1,.str x.2,.str l[n].value]) (by simp only[Dt,K0,hd,or_true,BE,EX,c,A0.row,mc,e]);simp only[Cn,Nat.reduceLeDiff,↓reduceIte,Bl,i1,HZ.Dw hlt,EN,A0.row,hd,(Br:¬(3:Int)=2),AD,AF,AK,AG,Ks,c,Kt,d,inc];exact A7.next (n+1,w) rfl ⟨hlt,hw,rfl⟩ Gp
     |none=>obtain⟨w,d,hw⟩:=HL (q:=[I 0,.str l[n].name,.str l[n].value]) (by simp only[Dt,K0,hd,or_true,BE,EX,c,A0.row,mc,e]);simp only[Cn,Nat.reduceLeDiff,↓reduceIte,Bl,i1,HZ.Dw hlt,EN,A0.row,hd,(Br:¬(3:Int)=2),AD,AF,AK,AG,Ks,c,Kt,d,inc];exact A7.next (n+1,w) rfl ⟨hlt,hw,rfl⟩ Gp
   .obtain⟨w,d,hw⟩:=HL (q:=[I 0,.str l[n].name,.str l[n].value]) (by simp only[Dt,e,g,or_self,EX,A0.row]);cases c:Im l[n].name with
    |some x=>simp only[Cn,Nat.reduceLeDiff,↓reduceIte,Bl,i1,HZ.Dw hlt,EN,A0.row,e,g,AD,AF,AK,AG,Ks,c,Kt,d,inc];exact A7.next (n+1,w) rfl ⟨hlt,hw,rfl⟩ Gp
    |none=>simp only[Cn,Nat.reduceLeDiff,↓reduceIte,Bl,i1,HZ.Dw hlt,EN,A0.row,e,g,AD,AF,AK,AG,Ks,c,Kt,d,inc];exact A7.next (n+1,w) rfl ⟨hlt,hw,rfl⟩ Gp
  .have i1:¬(n:Int)<(l.length:Int):=by omega
   rw[AT GR] at hu;simp only[Cn,Nat.reduceLeDiff,↓reduceIte,Bl,i1,AF,AK,AG];exact⟨_,rfl,hu⟩
 obtain⟨r,h',hr,rfl,hu⟩:=Ng.ret;exact⟨r,hr,hu⟩
end
end
def BB(bi:Nat)(G:Nat->Prop):Nat->Prop:=λi=>i=bi\/G i
section
variable{h h':Ah}{bi a:Nat}{o c t:Aa}{G G' F:Nat->Prop}{b:BS}{x:Int}{m:Nat}
def Fv.Ň(x:Fv h G h' G'):Fv h (Am.BB bi G) h' (Am.BB bi G'):=⟨x.len,λi hi hn=>x.old i hi λhg=>hn (.inr hg),λi hi=>by
 rcases hi with rfl|hi
 .exact .inl (.inl rfl)
 .rcases x.BB i hi with h|h
  .exact .inl (.inr h)
  .exact .inr h⟩
def BX.ň{A':Ar}(w:BX h bi a o c t G b)(hp:PW h' G' a A')(x:Fv h G h' G'):BX h' bi a o c t G' {b with a:=A'}/\Fv h (BB bi G) h' (BB bi G'):=
 ⟨⟨by rw[x.old bi w.lt w.nb];exact w.hb,w.o,w.t,hp,λhg=>by rcases x.BB bi hg with h|h;exact w.nb h;have:=w.lt;omega⟩,x.Ň⟩
def BX.step{A':Ar}{R:Ah->Prop}(w:BX h bi a o c t G b)(d:∀n m ps,PA h a n m ps b.a->∃h' n' m' N8,R h'/\PA h' a n' m' N8 A'/\Fv h (λi=>i∈Fa a n m ps) h' (λi=>i∈Fa a n' m' N8)):
  ∃h' G',R h'/\BX h' bi a o c t G' {b with a:=A'}/\Fv h (BB bi G) h' (BB bi G'):=by
 obtain⟨n,m,ps,g,e⟩:=w.w;obtain⟨h',n',m',N8,r,w',x⟩:=d n m ps g;have k:G=λi=>i∈Fa a n m ps:=funext λi=>propext (e i);obtain⟨j,f⟩:=w.ň w'.pw (by rw[k];exact x);exact⟨h',_,r,j,f⟩
def BX.DG(w:BX h bi a o c t G b){u:Ah}:Fv h (BB bi G) (h++u) (BB bi G):= .Ja
def ŉ{v:Aa}{l:List Int}{f:FuncId}{caps:List Aa}{q:Int->Bool}(hv:EC l v)(hb:l.length<=1000000000)(hf:f<=99999)(hq:∀k∈l,∀u,∃d,Co cx f (I k::caps) (h++u) (.bool (q k)) (h++u++d)):
  ∃u,Co cx 164 [v,.func (.func f) [] caps] h (I (BV q 0 l)) (h++u):=by
 have HZ:Bn 1 (l.map Dz) v:=hv;have Ng:Ev cx 164 [v,.func (.func f) [] caps] h λr h'=>r= I (BV q 0 l)/\∃u,h'=h++u:=by
  unfold Ev;rw[kX,t164];simp only[Cn,HZ.FL];refine BF (λk:Nat=>[I 0,I (k:Int)]) (λk h1=>k<=l.length/\BV q 0 l=BV q k (l.drop k)/\∃u,h1=h++u) (λk=>l.length-k) 0 rfl ⟨AZ _,rfl,[],Av⟩ ?_;rintro k h1 ⟨hk,ha,u,rfl⟩;rcases A8 k l.length with hlt|GR
  .have i1:(k:Int)<(l.length:Int):=by omega
   have g:Bk (h++u) none (.B3 (Dz l[k]))=some (I l[k]):=rfl;obtain⟨d,e⟩:=hq _ (AP hlt) u;rw[AB hlt,BV] at ha;simp only[abS,↓reduceIte,CA,i1,HZ.Dw hlt,g,hf,e.Ag,Cu (Ab:k<9223372036854775807)];rw[Dk];refine⟨λh2=>?_,λh2=>?_⟩;.exact⟨_,rfl,by rw[ha,Ad h2],u++d,Av⟩
   .rw[Ac (by simp[h2])] at ha;exact A7.next (k+1) rfl ⟨hlt,ha,u++d,Av⟩ Ab
  .have i1:¬(k:Int)<(l.length:Int):=by omega
   rw[A6 GR,BV] at ha;simp only[abS,↓reduceIte,CA,i1];exact⟨_,rfl,by rw[ha],u,rfl⟩
 obtain⟨r,h',hr,rfl,u,rfl⟩:=Ng.ret;exact⟨u,hr⟩
def d_{l:List Int}{q:Int->Bool}:decide (0<=BV q 0 l)=l.any q:=by
 rcases Gs (p:=q) (l:=l) (k:=0) with⟨h1,h2⟩|⟨n,y,h1,h2,h3⟩
 .rw[h1,y_];have:=HG.1 h2;simpa using this
 .rw[h1,y_];have e:=RQ h3;have d:=Ob h3;rw[AW Ab,gD];exact⟨y,d,e⟩
def BX.self(w:BX h bi a o c t G b){A':Ar}(e:A'=b.a):BX h bi a o c t G {b with a:=A'}:=by subst e;exact w
open Classical in
def ZU{p bf:Int}(w:BX h bi a o c t G b)(ok:BA b)(rm:Cs b m):∃h' G',Co cx 67 [Pt bi 0,I x,I p,I bf] h (.tuple []) h'/\BX h' bi a o c t G' {b with a:=b.a.Hc x p bf}/\Fv h (BB bi G) h' (BB bi G'):=by
 obtain⟨K1,Y,d,H,_,_⟩:=Sf w ok rm p;have w1:=w.Ja (u:=d);have V:∀v,Aa.cells (.ptr v)=[.ptr v]:=λ_=>rfl;have HT:∀h2,(∃u,h2=h++u)->∃h' G',(∃j,Co cx 123 [Pt a 0,I p,I x,I bf] h2 (I j) h')/\BX h' bi a o c t G' {b with a:=b.a.HP p x bf}/\Fv h (BB bi G) h' (BB bi G'):=by
  rintro _ ⟨u,rfl⟩;have g:=w.Ja (u:=u);obtain⟨h',G',r,w',x'⟩:=g.step (A':=b.a.HP p x bf) (R:=λh'=>∃j,Co cx 123 [Pt a 0,I p,I x,I bf] (h++u) (I j) h') (λn m ps P=>by obtain⟨j,h',N8,r,wp,O⟩:=Ŀ P rm.U7 ok.ok (p:=p) (x:=x) (b:=bf);exact⟨h',n,m,N8,⟨j,r⟩,wp,O⟩)
  exact⟨h',G',r,w',w.DG.trans x'⟩
 by_cases z:(b.a.nd p).kind=1
 .obtain⟨K2,X,u2,r2,_,_⟩:=Sf w1 ok rm x;have g:=w1.Ja (u:=u2);by_cases C:(b.a.nd x).kind=4
  .obtain⟨T,U,xA,L⟩:=g.w.pa;obtain⟨K,N,hK⟩:=kj (x:=p) L rm.U7 (rm.U7.AX ok.ok p);obtain⟨E,S⟩:=ŉ (h:=h++d++u2) (f:=122) (caps:=[.B3 [Pt bi 0]]) (q:=λk=>decide ((b.a.nd k).kind=4)) hK (rm.U7.AX ok.ok p) Br (λk _ u=>by have D:=g.Ja (u:=u);obtain⟨Z,W,Q,s,_,_⟩:=Sf D ok rm k;refine⟨Q,?_⟩;rw[Aj,jR,vd];simp only[Cn,s.Ag])
   have i:Co cx 120 [K,.func (.func 122) [] [.B3 [Pt bi 0]]] (h++d++u2) (.bool ((b.a.nd p).AX.any λk=>decide ((b.a.nd k).kind=4))) (h++d++u2++E):=by rw[Aj,jQ,va,<-d_];simp only[Cn,S.Ag]
   have D:=g.Ja (u:=E);by_cases J:∃k∈(b.a.nd p).AX,(b.a.nd k).kind=4
   .have M:((b.a.nd p).AX.any λk=>decide ((b.a.nd k).kind=4))=true:=by simpa using J
    rw[M] at i;have y:b.a.Hc x p bf=b.a:=by unfold Ar.Hc;rw[Ad ⟨z,C,J⟩]
    refine⟨_,G,?_,D.self y,(w.DG.trans w1.DG).trans g.DG⟩;rw[Aj,Uc,C_];simp only[abS,H.Ag,z,r2.Ag,C,g.l0,N.Ag,i.Ag]
   .have M:((b.a.nd p).AX.any λk=>decide ((b.a.nd k).kind=4))=false:=by rw[List.any_eq_false];intro k hk;simpa using λe=>J ⟨k,hk,e⟩
    rw[M] at i;have y:b.a.Hc x p bf=b.a.HP p x bf:=by unfold Ar.Hc;rw[Ac (λh=>J h.2.2)]
    obtain⟨h',G',⟨j,s⟩,B,A⟩:=HT (h++d++u2++E) ⟨d++u2++E,Av⟩;refine⟨h',G',?_,by rw[y];exact B,A⟩;rw[Aj,Uc,C_];simp only[abS,H.Ag,z,r2.Ag,C,g.l0,N.Ag,i.Ag,D.l0,s.Ag]
  .have y:b.a.Hc x p bf=b.a.HP p x bf:=by unfold Ar.Hc;rw[Ac (λh=>C h.2.1)]
   obtain⟨h',G',⟨j,s⟩,B,A⟩:=HT (h++d++u2) ⟨d++u2,Av⟩;refine⟨h',G',?_,by rw[y];exact B,A⟩;rw[Aj,Uc,C_];simp only[abS,H.Ag,z,r2.Ag,C,g.l0,s.Ag]
 .have y:b.a.Hc x p bf=b.a.HP p x bf:=by unfold Ar.Hc;rw[Ac (λh=>z h.1)]
  obtain⟨h',G',⟨j,s⟩,B,A⟩:=HT (h++d) ⟨d,rfl⟩;refine⟨h',G',?_,by rw[y];exact B,A⟩;rw[Aj,Uc,C_];simp only[abS,H.Ag,z,w1.l0,s.Ag]
def Ŋ(w:BX h bi a o c t G b)(ok:BA b)(rm:Cs b m)(p:Int):∃u,Co cx 104 [Pt bi 0,I p] h (I (b.Ku p)) (h++u):=by
 obtain⟨k,i,d,e,_,_⟩:=Sf w ok rm p;have w1:=w.Ja (u:=d);unfold BS.Ku;by_cases hc:(b.a.nd p).cont=0
 .refine⟨d,?_⟩;rw[Ac (by simp[hc]),Aj,XH,cm];simp only[abS,e.Ag,hc,Ct,BM,w1.l1];refine⟨λh1=>?_,λh1=>?_⟩;.rw[Ad h1]
  .rw[Ac h1]
 .obtain⟨j,g,u2,r2,_,_⟩:=Sf w1 ok rm (b.a.nd p).cont;have f:=w1.Ja (u:=u2);refine⟨d++u2,?_⟩;rw[Ad hc,<-AA,Aj,XH,cm];simp only[abS,e.Ag,r2.Ag,hc,Ct,f.l1];refine⟨λh1=>?_,λh1=>?_⟩;.rw[Ad h1]
  .rw[Ac h1]
def Ve(nm:Au)(av:Aa)(r:List Aa):Prop:=∃n k j i g f e d Yg iI,r=[n,.str nm,k,j,i,g,f,e,av,d,Yg,iI]
def Ow:Aa.agg Item.zero.row= .agg [I 0,I 0,S [],ff]:=rfl
variable{nm:Au}{av:Aa}{l:List A0}{r:List Aa}{sp p:Int}
def Cs.len{k:Nat}(rm:Cs b k)(hk:3<=k):b.a.len+3<=1000000000:=by have:=rm.n;unfold Ar.len;omega
def xH(w:BX h bi a o c t G b)(ok:BA b)(rm:Cs b (m+3))(hr:Ve nm av r)(hv:Cw l av)(hl:FZ l)(hn:nm.length<=1000)(p sp:Int):
  ∃h' G',Co cx 43 [Pt bi 0,.agg r,I sp,I p] h (.agg (b.II nm l sp).row) h'/\BX h' bi a o c t G' (b.E1 nm l sp p)/\Fv h (BB bi G) h' (BB bi G'):=by
 obtain⟨N,M,L,K,J,H,E,D,Yg,iI,rfl⟩:=hr;by_cases hs:BS.Ir sp
 .obtain⟨C,q,hu⟩:=aDo (h:=h) hv hl.1 sp;have w1:=w.Ja (u:=[.map (ft 11)]);obtain⟨u2,r2⟩:=Ŋ w1 ok rm p;have g:=w1.Ja (u:=u2);have hd:=QU ok (p:=p);have i:∀y∈l.map (Dt sp),BS.Ir y.AY:=by intro y hy;obtain⟨z,_,rfl⟩:=A3.1 hy;exact eA
  obtain⟨h',G',⟨f,_⟩,B,v⟩:=g.step (A':=b.a.elem (b.Ku p) sp (BS.Lp sp nm) (l.map (Dt sp))) (R:=λh'=>Co cx 103 [Pt a 0,I (b.Ku p),I sp,.str (BS.Lp sp nm),C] (h++[.map (ft 11)]++u2) (.tuple [I (b.a.len+1),I 0]) h'/\True) (λn m ps A=>by obtain⟨h',n',m',N8,r,wp,s,_⟩:=ķ A rm.U7 (rm.len Ab) hd hs hu (by rw[As];have:=hl.1;omega) i (nm:=BS.Lp sp nm);exact⟨h',n',m',N8,⟨r,trivial⟩,wp,s⟩)
  have d:=f96 (h:=h') hu (λy hy=>by obtain⟨z,hz,rfl⟩:=A3.1 hy;rw[pA];have:=(hl.2 z hz).2;have:AN=140737488355328:=rfl;omega) (by rw[As];have:=hl.1;omega) sp (BS.Lp sp nm);have em:Ax (.B0 [I 0,I 0,S [],ff] [(0,1),(1,1),(2,1),(3,1)]) [I (b.a.len+1),I sp,.str (BS.Lp sp nm),.bool (Hs sp (BS.Lp sp nm) (l.map (Dt sp)))]=some (.agg (b.II nm l sp).row):=by rw[oI];unfold BS.II;rw[Ad hs]
  refine⟨h',G',?_,by unfold BS.E1;rw[Ad hs];exact B,(w.DG.trans w1.DG).trans v⟩;have k:¬sp<0:=by have:=hs.1;omega
  have j:¬7<sp:=by have:=hs.2;omega
  have hlen:=λ(y:Item)=>@Item.Df y;rw[Aj,eO,t43];by_cases h2:sp=2
  .have e:BS.Lp sp nm=Dl nm LS:=by unfold BS.Lp;rw[Ad h2]
   rw[e] at f d em;subst h2;simp only[abS,↓reduceIte,Bl,Iq,(GS w).Ag,k,j,Ck,q.Ag,CR,BM,(aCK nm).Cx rfl rfl,w1.l0,r2.Ag,g.l0,C5,f.Ag,Ct,d.Ag,em,hlen]
  .have e:BS.Lp sp nm=nm:=by unfold BS.Lp;rw[Ac h2]
   rw[e] at f d em;simp only[abS,↓reduceIte,Bl,Iq,(GS w).Ag,k,j,Ck,q.Ag,h2,w1.l0,r2.Ag,g.l0,C5,f.Ag,Ct,BM,d.Ag,em,hlen]
 .refine⟨h,G,?_,by unfold BS.E1;rw[Ac hs];exact w,.refl⟩;have e:b.II nm l sp=Item.zero:=by unfold BS.II;rw[Ac hs]
  rw[e,Ow,Aj,eO,t43];unfold BS.Ir at hs;by_cases h1:sp<0;.simp only[abS,↓reduceIte,Bl,(GS w).Ag,h1,CR]
  .simp only[abS,↓reduceIte,Bl,(GS w).Ag,h1,Ck,(Ab:7<sp),CR]
def B7{k:Nat}{v:Aa}:Fv h (BB bi G) (put h bi k v) (BB bi G):=⟨by rw[KY];exact Ae _,λi _ hn=>CO λe=>hn (.inl e),λ_ h=> .inl h⟩
def BX.put{k:Nat}{v o' c' t':Aa}{b':BS}(w:BX h bi a o c t G b)(e:(Ny a b o c t).set k v=Ny a b' o' c' t')(ea:b'.a=b.a)(ho:C9 b'.AV o')(ht:Vb b'.tm t'):BX (Am.put h bi k v) bi a o' c' t' G b':=
 ⟨by rw[HD w.hb,e];exact AJ w.lt,ho,ht,by rw[ea];exact w.w.El λi hi=>CO λe=>w.nb (e▸hi),w.nb⟩
def BX.Nz{u:Aa}{l:List Item}(w:BX h bi a o c t G b)(hu:C9 l u):BX (Am.put h bi 2 u) bi a u c t G {b with AV:=l}:=w.put rfl rfl hu w.t
def BX.Q4{u:Aa}{l:List Cv}(w:BX h bi a o c t G b):BX (Am.put h bi 3 u) bi a o u t G {b with Bd:=l}:=w.put rfl rfl w.o w.t
def BX.st{k:Nat}{v v0:Aa}(w:BX h bi a o c t G b)(hk:(Ny a b o c t)[k]?=some v0)(hv:v.cells=[v]):CK h 1 (Pt bi k) v=some (Am.put h bi k v):=At.store (v:=v0) ⟨_,w.hb,hk⟩ hv
variable{nm:Au}{av:Aa}{l:List A0}{r:List Aa}{sp p:Int}
def aDp(w:BX h bi a o c t G b)(ok:BA b)(rm:Cs b (m+4))(hr:Ve nm av r)(hv:Cw l av)(hl:FZ l)(hn:nm.length<=1000)(sp:Int):
  ∃h' o' G',Co cx 80 [Pt bi 0,.func (.func 43) [Pt bi 0] [],.agg r,I sp] h (I (b.U5 sp)) h'/\BX h' bi a o' c t G' (b.EV nm l sp)/\Fv h (BB bi G) h' (BB bi G'):=by
 obtain⟨s,n⟩:=dz w ok rm 0;have w1:=w.Ja (u:=s);obtain⟨h2,z,r2,k,i⟩:=xH (m:=m+1) w1 ok (rm.le Ab) hr hv hl hn (b.place 0).1 sp;have F6:=hr;obtain⟨K,J,H,E,D,C,B,A,Yg,iI,rfl⟩:=hr;have ho:=rm.AV;by_cases hs:BS.Ir sp
 .have xy:=sn (nm:=nm) (at_:=l) (p:=(b.place 0).1) ok hs;have fH:=Kb (m:=m+1) (nm:=nm) (sp:=sp) (p:=(b.place 0).1) (rm.le Ab) hl;have lj:(b.II nm l sp).node=b.a.len+1:=by unfold BS.II;rw[Ad hs]
  have Yc:¬(b.a.len+1=0):=by unfold Ar.len;omega
  have Og:(b.E1 nm l sp (b.place 0).1).AV=b.AV:=by unfold BS.E1;rw[Ad hs]
  obtain⟨h3,y,v,j,q⟩:=ZU (x:=b.a.len+1) (p:=(b.place 0).1) (bf:=(b.place 0).2) k xy fH;obtain⟨v4,d,f⟩:=f95 j.sO (by simp only[Og];omega) (b.II nm l sp);refine⟨Am.put h3 bi 2 v4,v4,y,?_,?_,((w.DG.trans i).trans q).trans B7⟩
  .have g:b.U5 sp=b.a.len+1:=by unfold BS.U5;rw[Ad hs]
   rw[Aj,eV,t80,g];simp only[abS,Nat.reduceAdd,↓reduceIte,CA,Iq,n.Ag,(Br:(43:Nat)<=99999),r2.Ag,lj,Yc,Ct,v.Ag];have e:=@Item.R6 (b.II nm l sp);rw[lj] at e;rw[<-e] at d;simp only[e] at d⊢;simp only[d.Ag,Cn]
  .have:=j.Nz f;unfold BS.EV;rw[Ad hs];exact this
 .refine⟨h2,o,z,?_,?_,w.DG.trans i⟩
  .have e:b.II nm l sp=Item.zero:=by unfold BS.II;rw[Ac hs]
   have g:b.U5 sp=0:=by unfold BS.U5;rw[Ac hs]
   rw[e,Ow] at r2;rw[Aj,eV,t80,g];simp only[abS,Nat.reduceAdd,↓reduceIte,CA,Iq,n.Ag,(Br:(43:Nat)<=99999),r2.Ag,Ct,BM]
  .have:b.EV nm l sp=b.E1 nm l sp (b.place 0).1:=by unfold BS.EV BS.E1;rw[Ac hs,Ac hs]
   rw[this];exact k
def ŋ(w:BX h bi a o c t G b)(ok:BA b)(rm:Cs b (m+4))(hr:Ve nm av r)(hv:Cw l av)(hl:FZ l)(hn:nm.length<=1000)(sp:Int):
  ∃h' o' G',Co cx 28 [Pt bi 0,.agg r,I sp] h (I (b.U5 sp)) h'/\BX h' bi a o' c t G' (b.EV nm l sp)/\Fv h (BB bi G) h' (BB bi G'):=by
 obtain⟨h',o',G',d,w',x'⟩:=aDp w ok rm hr hv hl hn sp;refine⟨h',o',G',?_,w',x'⟩;obtain⟨q,n,k,j,i,g,f,e,Yg,iI,rfl⟩:=hr;rw[Aj,vA,t28];simp only[abS,(GS w).Ag,d.Ag]
def eo(w:BX h bi a o c t G b)(ok:BA b)(rm:Cs b (m+4))(hr:Ve nm av r)(hv:Cw l av)(hl:FZ l)(hn:nm.length<=1000):
  ∃h' o' G',Co cx 16 [Pt bi 0,.agg r] h (I (b.a.len+1)) h'/\BX h' bi a o' c t G' (b.EV nm l 1)/\Fv h (BB bi G) h' (BB bi G'):=by
 obtain⟨h',o',G',d,w',x'⟩:=ŋ w ok rm hr hv hl hn 1;refine⟨h',o',G',?_,w',x'⟩;have e:b.U5 1=b.a.len+1:=by unfold BS.U5;rw[Ad KM]
 rw[e] at d;obtain⟨s,q,n,k,j,i,g,f,Yg,iI,rfl⟩:=hr;rw[Aj,uW,t16];simp only[Cn,d.Ag]
end
def Dc(l:List Cv)(v:Aa):Prop:=∃fs:List CM,fs.map (·.c)=l/\Er fs v
def RM{U Z:Type}{f:U->Z}{q:Z->Bool}{l:List U}:AR q (l.map f)=AR (λx=>q (f x)) l:=by unfold AR;rw[<-Ql,List.findIdx?_map,As];rfl
def fI{U Z:Type}{f:U->Z}{l:List U}{k:Nat}:(Bm l k).map f=Bm (l.map f) k:=by unfold Bm;simp
def et{fs:List CM}:since fs=dT (fs.map (·.c)):=by unfold since dT;rw[RM];rfl
def ZV{n:Int}{fs:List CM}:Jb n fs=F7 n (fs.map (·.c)):=by unfold Jb F7;rw[RM];rfl
def ew{nm:Au}{fs:List CM}:Ot nm fs=GA nm (fs.map (·.c)):=by
 unfold Ot GA;rw[<-Ql];generalize fs.reverse=r;induction r with
 |nil=>rfl
 |cons x r ih=>simp only[Be,iV,T4,ih,As]
def Ō{e:Cv}{fs:List CM}:UZ e fs=jA e (fs.map (·.c)).reverse:=by
 unfold UZ;rw[<-Ql];generalize fs.reverse=r;induction r with
 |nil=>rfl
 |cons x r ih=>simp only[Be,bn,jA,ih]
def ō{e:Cv}{fs:List CM}:OS e fs=ZA e (fs.map (·.c)).reverse:=by
 unfold OS;rw[<-Ql];generalize fs.reverse=r;induction r with
 |nil=>rfl
 |cons x r ih=>simp only[Be,dQ,ZA,ih,As]
def xI{e:Cv}{d:CM}{fs:List CM}(he:d.c=e):(OT e fs++[d]).map (·.c)=ZB e (fs.map (·.c)):=by
 unfold OT ZB;rw[Ō,ō,BW,aEC,he];split;.rw[fI]
 .rfl
def lV{fs:List CM}:(fs.take (Gz fs)).map (·.c)=H7 (fs.map (·.c)):=by unfold H7 Gz;rw[HW,et]
def ez{l:List Cv}{fs:List CM}(e:fs.map (·.c)=l)(h:∀x∈l,x.AE.length<=1000):∀x∈fs,qK x:=by intro x hx;have:=h x.c (by rw[<-e];exact A3.2 ⟨x,hx,rfl⟩);unfold qK;omega
section
variable{h h':Ah}{bi a:Nat}{o c t:Aa}{G G' F:Nat->Prop}{b:BS}{x:Int}{m:Nat}
variable{nm:Au}{av:Aa}{l:List A0}{r:List Aa}{sp p:Int}
def aDq(w:BX h bi a o c t G b)(hc:Dc b.Bd c)(ok:EF b)(rm:Cs b (m+5))(hr:Ve nm av r)(hv:Cw l av)(hl:FZ l)(hn:nm.length<=1000):
  ∃h' o' c' G',Co cx 17 [Pt bi 0,.agg r] h (I (b.a.len+1)) h'/\BX h' bi a o' c' t G' (b.Kv nm l)/\Dc (b.Kv nm l).Bd c'/\Fv h (BB bi G) h' (BB bi G'):=by
 obtain⟨h1,j,k,i,w1,g⟩:=eo (m:=m+1) w ok (rm.le Ab) hr hv hl hn;obtain⟨fs,d,hf⟩:=hc;have ha:=rm.Bd;have HI:fs.length=b.Bd.length:=by rw[<-d,As]
 obtain⟨u,n,YY,r2,hu⟩:=f30 (h:=h1) (id:=bi) (o:=3) (l:=fs) ⟨c,w1.xF,hf⟩ Ab (ez d λx hx=>((rm.Dn x hx).2).1) (e:=⟨⟨b.a.len+1,nm,l⟩,av,hv⟩) (by unfold qK;have:=hl.1;simp only;omega);refine⟨_,j,u,k,?_,w1.Q4 (u:=u),?_,g.trans B7⟩
 .obtain⟨C,B,A,z,y,v,s,q,Yg,iI,rfl⟩:=hr;have Yc:¬(b.a.len+1=0):=by unfold Ar.len;omega
  have f:Co cx 60 [Pt bi 3,.agg [I (b.a.len+1),.str nm,av]] h1 (.tuple []) (put h1 bi 3 u):=r2;have g_:av.cells=[av]:=Bn.cells hv;rw[Aj,uX,t17];simp only[abS,Nat.reduceLeDiff,↓reduceIte,Bl,i.Ag,Yc,Ct,g_,f.Ag]
 .refine⟨_,?_,hu⟩;rw[xI YY,d];unfold BS.Kv;simp only;rw[Hg]
end
def Ŏ:∀x:Fin 64,(BitVec.ofInt 8 192|||BitVec.ofInt 8 (x.val:Int)).toNat=192+x.val:=Br
def ŏ:∀x:Fin 32,(BitVec.ofInt 8 224|||BitVec.ofInt 8 (x.val:Int)).toNat=224+x.val:=Br
def Ő:∀x:Fin 16,(BitVec.ofInt 8 240|||BitVec.ofInt 8 (x.val:Int)).toNat=240+x.val:=Br
def ő:∀x:Fin 64,(BitVec.ofInt 8 128|||BitVec.ofInt 8 (x.val:Int)).toNat=128+x.val:=Br
def Œ:∀x:Fin 256,(BitVec.ofInt 8 (x.val:Int)&&& BitVec.ofInt 8 63).toNat=x.val%64:=Br
def lW{a b:Int}:Ax (.int .or) [.int .u8 a,.int .u8 b]=some (.int .u8 (IntKind.u8.wrap (BitVec.ofInt 8 a|||BitVec.ofInt 8 b).toNat)):=rfl
def xz{a b:Int}:Ax (.int .and) [.int .u8 a,.int .u8 b]=some (.int .u8 (IntKind.u8.wrap (BitVec.ofInt 8 a&&& BitVec.ofInt 8 b).toNat)):=rfl
def xJ{x:Nat}(h:x<64):Ax (.int .or) [.int .u8 192,.int .u8 (x:Int)]=some (.int .u8 ((192+x:Nat):Int)):=by rw[lW,Ŏ ⟨x,h⟩,IntKind.wrap_u8];congr 2;simp only;omega
def ZW{x:Nat}(h:x<32):Ax (.int .or) [.int .u8 224,.int .u8 (x:Int)]=some (.int .u8 ((224+x:Nat):Int)):=by rw[lW,ŏ ⟨x,h⟩,IntKind.wrap_u8];congr 2;simp only;omega
def xK{x:Nat}(h:x<16):Ax (.int .or) [.int .u8 240,.int .u8 (x:Int)]=some (.int .u8 ((240+x:Nat):Int)):=by rw[lW,Ő ⟨x,h⟩,IntKind.wrap_u8];congr 2;simp only;omega
def JD{x:Nat}(h:x<64):Ax (.int .or) [.int .u8 128,.int .u8 (x:Int)]=some (.int .u8 ((128+x:Nat):Int)):=by rw[lW,ő ⟨x,h⟩,IntKind.wrap_u8];congr 2;simp only;omega
def JE{x:Nat}(h:x<256):Ax (.int .and) [.int .u8 (x:Int),.int .u8 63]=some (.int .u8 ((x%64:Nat):Int)):=by rw[xz,Œ ⟨x,h⟩,IntKind.wrap_u8];congr 2;simp only;omega
def Sy{n:Nat}:Ax (.int .shr) [.int .i32 (n:Int),.int .u64 6]=some (.int .i32 ((n/64:Nat):Int)):=by rw[show Ax (.int .shr) [.int .i32 (n:Int),.int .u64 6]=some (.int .i32 ((n:Int).fdiv 64)) from rfl,NG _ Ab];rfl
def Un{n:Nat}:Ax (.int .shr) [.int .i32 (n:Int),.int .u64 12]=some (.int .i32 ((n/4096:Nat):Int)):=by rw[show Ax (.int .shr) [.int .i32 (n:Int),.int .u64 12]=some (.int .i32 ((n:Int).fdiv 4096)) from rfl,NG _ Ab];rfl
def xL{n:Nat}:Ax (.int .shr) [.int .i32 (n:Int),.int .u64 18]=some (.int .i32 ((n/262144:Nat):Int)):=by rw[show Ax (.int .shr) [.int .i32 (n:Int),.int .u64 18]=some (.int .i32 ((n:Int).fdiv 262144)) from rfl,NG _ Ab];rfl
def Uo{k:IntKind}{n:Nat}:Ax (.conv .u8) [.int k (n:Int)]=some (.int .u8 ((n%256:Nat):Int)):=by rw[Xm,IntKind.wrap_u8];congr 2
def XV{n:Int}:Ax (.conv .u32) [.int .i32 n]=some (.int .u32 (n%4294967296)):=by rw[Xm,IntKind.wrap_u32]
def yT{n:Nat}(h:n<256):((UInt8.ofNat n).toNat:Int)=(n:Int):=by rw[UInt8.toNat_ofNat'];congr 1;omega
def yU(b:UInt8):Aa:= .int .u8 (b.toNat:Int)
def Je{h:Ah}{bs:Au}(hb:bs≠[])(hl:bs.length<=8):ET h 1 1 .slnil (.sl 1 (CG bs))=some (h++[.cells (bs.map yU)],.CI h.length 0 bs.length 1):=by
 have HI:∀bs:Au,(CG bs).flatten=bs.map yU:=by
  intro bs;induction bs with
  |nil=>rfl
  |cons c bs ih=>show[yU c]++(CG bs).flatten=_;rw[ih];rfl
 cases bs with
 |nil=>exact absurd rfl hb
 |cons c bs=>
  have hm:AN=140737488355328:=rfl;have hlen:(CG (c::bs)).length=(c::bs).length:=by simp[CG]
  have e:CG (c::bs)=[.int .u8 c.toNat]::CG bs:=rfl;have a:Gc h 1 (.sl 1 (CG (c::bs)))=some (CG (c::bs)):=by simp[Gc]
  unfold ET;rw[a,e];simp only
  rw[<-e,Ad (by rw[hlen];omega),HI,hlen]
def aDs{h:Ah}(r:Int)(hr: -2147483648<=r/\r<=2147483647):Co cx 64 [.slnil,.int .i32 r] h (.CI h.length 0 (Kw r).length 1) (h++[.cells ((Kw r).map yU)]):=by
 have one:∀{a:Nat} (h1:a<256),Ax (.Cb 1) [.int .u8 (a:Int)]=some (.sl 1 (CG [UInt8.ofNat a])):=by intro a h1;simp only[CG,Be,DJ,yT h1];rfl
 have bL:∀{a b:Nat} (h1:a<256) (h2:b<256),Ax (.Cb 1) [.int .u8 (a:Int),.int .u8 (b:Int)]=some (.sl 1 (CG [UInt8.ofNat a,UInt8.ofNat b])):=by intro a b h1 h2;simp only[CG,Be,DJ,yT h1,yT h2];rfl
 have Vv:∀{a b c:Nat} (h1:a<256) (h2:b<256) (h3:c<256),Ax (.Cb 1) [.int .u8 (a:Int),.int .u8 (b:Int),.int .u8 (c:Int)]=some (.sl 1 (CG [UInt8.ofNat a,UInt8.ofNat b,UInt8.ofNat c])):=by intro a b c h1 h2 h3;simp only[CG,Be,DJ,yT h1,yT h2,yT h3];rfl
 have four:∀{a b c d:Nat} (h1:a<256) (h2:b<256) (h3:c<256) (f:d<256),Ax (.Cb 1) [.int .u8 (a:Int),.int .u8 (b:Int),.int .u8 (c:Int),.int .u8 (d:Int)]=some (.sl 1 (CG [UInt8.ofNat a,UInt8.ofNat b,UInt8.ofNat c,UInt8.ofNat d])):=by intro a b c d h1 h2 h3 f;simp only[CG,Be,DJ,yT h1,yT h2,yT h3,yT f];rfl
 have mq:Ax (.Cb 1) [.int .u8 239,.int .u8 191,.int .u8 189]=some (.sl 1 (CG [239,191,189])):=rfl;rw[Aj,vL,t64];simp only[Cn,XV];by_cases h0:0<=r
 .obtain⟨n,rfl⟩:=Qj h0;have em:(n:Int)%4294967296=(n:Int):=Ab;rw[em];by_cases p:n<128
  .have e:Kw (n:Int)=[UInt8.ofNat n]:=by unfold Kw;rw[Ad Ab];rfl
   have i:n%256=n:=Ab;rw[e];simp only[Cn,dG,(Ab:(n:Int)<=127),Uo,i,one (Ab:n<256),Je (bs:=[UInt8.ofNat n]) Av Av]
  .have x_:Co cx 117 [.slnil,.int .i32 (n:Int)] h (.CI h.length 0 (Kw (n:Int)).length 1) (h++[.cells ((Kw (n:Int)).map yU)]):=by
    rw[Aj,XJ,cy];simp only[Cn,XV,em];by_cases o:n<2048
    .have e:Kw (n:Int)=[UInt8.ofNat (192+n/64),UInt8.ofNat (128+n%64)]:=by unfold Kw;rw[Ac Ab,Ad Ab];rfl
     rw[e];have a1:n/64%256=n/64:=Ab;have a2:n%256%64=n%64:=Ab;simp only[Cn,dG,(Ab:(n:Int)<=2047),Sy,Uo,a1,xJ (Ab:n/64<64),JE (Ab:n%256<256),a2,JD (Ab:n%64<64),bL (Ab:192+n/64<256) (Ab:128+n%64<256),Je (bs:=[UInt8.ofNat (192+n/64),UInt8.ofNat (128+n%64)]) Av Av]
    .by_cases m:n<65536/\¬(55296<=n/\n<57344)
     .have e:Kw (n:Int)=[UInt8.ofNat (224+n/4096),UInt8.ofNat (128+n/64%64),UInt8.ofNat (128+n%64)]:=by unfold Kw;rw[Ac Ab,Ac Ab,Ad Ab];rfl
      rw[e];have a1:n/4096%256=n/4096:=Ab;have a2:n/64%256%64=n/64%64:=Ab;have a3:n%256%64=n%64:=Ab;have g:=Je (h:=h) (bs:=[UInt8.ofNat (224+n/4096),UInt8.ofNat (128+n/64%64),UInt8.ofNat (128+n%64)]) Av Av;have t3:=Vv (Ab:224+n/4096<256) (Ab:128+n/64%64<256) (Ab:128+n%64<256);by_cases l:n<55296;.simp only[abS,(Ab:¬(n:Int)<=2047),(Ab:(n:Int)<55296),Sy,Un,Uo,a1,ZW (Ab:n/4096<32),JE (Ab:n/64%256<256),a2,JD (Ab:n/64%64<64),JE (Ab:n%256<256),a3,JD (Ab:n%64<64),t3,g]
      .simp only[abS,(Ab:¬(n:Int)<=2047),(Ab:¬(n:Int)<55296),(Ab:(57343:Int)<n),(Ab:(n:Int)<=65535),Sy,Un,Uo,a1,ZW (Ab:n/4096<32),JE (Ab:n/64%256<256),a2,JD (Ab:n/64%64<64),JE (Ab:n%256<256),a3,JD (Ab:n%64<64),t3,g]
     .by_cases k:65536<=n/\n<=1114111
      .have e:Kw (n:Int)=[UInt8.ofNat (240+n/262144),UInt8.ofNat (128+n/4096%64),UInt8.ofNat (128+n/64%64),UInt8.ofNat (128+n%64)]:=by unfold Kw;rw[Ac Ab,Ac Ab,Ac Ab,Ad Ab];rfl
       rw[e];have a0:n/262144%256=n/262144:=Ab;have a1:n/4096%256%64=n/4096%64:=Ab;have a2:n/64%256%64=n/64%64:=Ab;have a3:n%256%64=n%64:=Ab;have g:=Je (h:=h) (bs:=[UInt8.ofNat (240+n/262144),UInt8.ofNat (128+n/4096%64),UInt8.ofNat (128+n/64%64),UInt8.ofNat (128+n%64)]) Av Av;have t4:=four (Ab:240+n/262144<256) (Ab:128+n/4096%64<256) (Ab:128+n/64%64<256) (Ab:128+n%64<256);simp only[abS,(Ab:¬(n:Int)<=2047),(Ab:¬(n:Int)<55296),(Ab:(57343:Int)<n),(Ab:¬(n:Int)<=65535),(Ab:(65535:Int)<n),(Ab:(n:Int)<=1114111),Sy,Un,xL,Uo,a0,xK (Ab:n/262144<16),JE (Ab:n/4096%256<256),a1,JD (Ab:n/4096%64<64),JE (Ab:n/64%256<256),a2,JD (Ab:n/64%64<64),JE (Ab:n%256<256),a3,JD (Ab:n%64<64),t4,g]
      .have e:Kw (n:Int)=[239,191,189]:=by unfold Kw;rw[Ac Ab,Ac Ab,Ac Ab,Ac Ab]
       rw[e];have g:=Je (h:=h) (bs:=[239,191,189]) Av Av;by_cases j:n<65536;.simp only[abS,(Ab:¬(n:Int)<=2047),(Ab:¬(n:Int)<55296),(Ab:¬(57343:Int)<n),(Ab:¬(65535:Int)<n),mq,g]
       .simp only[abS,(Ab:¬(n:Int)<=2047),(Ab:¬(n:Int)<55296),(Ab:(57343:Int)<n),(Ab:¬(n:Int)<=65535),(Ab:(65535:Int)<n),(Ab:¬(n:Int)<=1114111),mq,g]
   simp only[abS,(Ab:¬(n:Int)<=127),x_.Ag]
 .have e:Kw r=[239,191,189]:=by unfold Kw;rw[Ac Ab,Ac Ab,Ac Ab,Ac Ab]
  have g:=Je (h:=h) (bs:=[239,191,189]) Av Av;have x_:Co cx 117 [.slnil,.int .i32 r] h (.CI h.length 0 (Kw r).length 1) (h++[.cells ((Kw r).map yU)]):=by rw[e,Aj,XJ,cy];simp only[abS,XV,(Ab:¬(r%4294967296)<=2047),(Ab:¬(r%4294967296)<55296),(Ab:(57343:Int)<r%4294967296),(Ab:¬(r%4294967296)<=65535),(Ab:(65535:Int)<r%4294967296),(Ab:¬(r%4294967296)<=1114111),mq,g]
  simp only[abS,(Ab:¬(r%4294967296)<=127),x_.Ag]
def ZX(r:Int):(Kw r).length<=4:=by unfold Kw;split<;>(try split)<;>(try split)<;>(try split)<;>simp
def xM{l:List Int}{bf:Int}(hb:bf≠0->bf∈l):∃i,i<=l.length/\(bf=0->i=l.length)/\(bf≠0->BV (λy=>decide (bf=y)) 0 l=(i:Int))/\QS l bf=if i=0 then none else l[i-1]?:=by
 by_cases h0:bf=0
 .refine⟨l.length,Ae _,λ_=>rfl,λh=>absurd h0 h,?_⟩;unfold QS;rw[Ad h0,Oc];split;.rename_i h;rw[CZ Ab]
  .rfl
 .obtain⟨k,j,e,g,d,f⟩:=P4 (hb h0);refine⟨k,Ab,λh=>absurd h h0,λ_=>e,?_⟩;unfold QS;rw[Ac h0,d,Oc,Aw,Cr Ab];split;.rename_i h;subst h;simp
  .rw[B2];rw[Ad Ab]
def lX{s u:Au}(h:s.length+u.length<=2000000000):Ax (.str .add) [.str s,.str u]=some (.str (s++u)):=by have:s.length+u.length<=9223372036854775807:=Ab;simp[Ax,Yp,this]
def Wj:∀s:Au,(CG s).flatten=s.map yU
 |[]=>rfl
 |c::s=>by show[yU c]++(CG s).flatten=_;rw[Wj s];rfl
section
variable{h h':Ah}{bi a:Nat}{o c t:Aa}{G G' F:Nat->Prop}{b:BS}{x:Int}{m:Nat}
variable{nm:Au}{av:Aa}{l:List A0}{r:List Aa}{sp p:Int}
def lY{k d:Int}{s:Au}(ok:EF b)(rm:Cs b (m+1))(hk:k=5\/k=6)(hd:b.a.has d/\(b.a.nd d).kind=1)(hs:s.length<=100000):EF {b with a:=b.a.add {kind:=k,CQ:=d,data:=s}}/\Cs {b with a:=b.a.add {kind:=k,CQ:=d,data:=s}} m:=
 ⟨ok.Ka (XB ok.ok (by unfold Ar.len;omega) hd hk) dX,rm.FC (k:=1) (LY (AZ _) hs)⟩
def aDt(w:BX h bi a o c t G b)(ok:EF b)(rm:Cs b (m+5))(r:Int)(hr: -2147483648<=r/\r<=2147483647):
  ∃h' G',Co cx 18 [Pt bi 0,.int .i32 r] h (.tuple []) h'/\BX h' bi a o c t G' (b.uG r)/\Fv h (BB bi G) h' (BB bi G'):=by
 obtain⟨d,B⟩:=dz w ok rm 0;obtain⟨hp,Z⟩:=ZH ok (t:=0) (.inl rfl);have w1:=w.Ja (u:=d);unfold BS.uG;generalize(b.place 0).1=p at*;generalize(b.place 0).2=bf at*;obtain⟨K,V,u2,r2,hK,_⟩:=Sf w1 ok rm p;have W:=w1.Ja (u:=u2);have x2:Fv h (BB bi G) (h++d++u2) (BB bi G):=w.DG.trans w1.DG;unfold BS.OX;by_cases hk:(b.a.nd p).kind=4\/(b.a.nd p).kind=2;rotate_left
 .refine⟨_,G,?_,?_,x2⟩;.have k4:¬(b.a.nd p).kind=4:=λe=>hk (.inl e);have k2:¬(b.a.nd p).kind=2:=λe=>hk (.inr e);rw[Aj,T9,A_];simp only[abS,(GS w).Ag,B.Ag,r2.Ag,Ct,k4,k2]
  .rw[Ac hk];exact W
 rw[Ad hk];obtain⟨i,hi,jq,yO,Y⟩:=xM (l:=(b.a.nd p).AX) (bf:=bf) (λh=>by have:=Z h;have h2:=(ok.ok.DA bf this.1 (by rw[this.2];have:=hp.1;omega)).2;rwa [this.2] at h2);rw[Y];have Vw:=rm.U7.AX ok.ok p;have D:=xr (h:=h++d++u2) (x:=bf) hK.L1 Vw;have F_:=aDs (h:=h++d++u2) r hr;have YH:=ZX r;generalize hs:Kw r=s at*;have f3:Lf (h++d++u2++[.cells (s.map yU)]) (.CI (h++d++u2).length 0 s.length 1)=some (h++d++u2++[.DD],.sl 1 (CG s)):=by have HI:=Wj s;have:=QJ (h:=h++d++u2++[.cells (s.map yU)]) (id:=(h++d++u2).length) (z:=1) (Af:=CG s) (by intro q hq;obtain⟨y,_,rfl⟩:=A3.1 hq;rfl) (by rw[HI];simp);rw[show(CG s).length=s.length by simp[CG]] at this;rw[this];congr 2;rw[Ce _ _ (Ae _),DL];rfl
 have b3:Ax .UF [.sl 1 (CG s)]=some (.str s):=by simp[Ax,Wt,TM]
 have g:=W.Ja (u:=[.DD]);have x3:Fv h (BB bi G) (h++d++u2++[.DD]) (BB bi G):=x2.trans W.DG;have xN:=ok.ok.CQ p hp;have new:∀h3,(∃u,h3=h++d++u2++[.DD]++u)->∃h' E G',Co cx 66 [Pt a 0,I (b.a.nd p).CQ,.str s] h3 (.tuple [I (b.a.len+1),I 0]) E/\Co cx 67 [Pt bi 0,I (b.a.len+1),I p,I bf] E (.tuple []) h'/\BX h' bi a o c t G' {b with a:=(b.a.add {kind:=5,CQ:=(b.a.nd p).CQ,data:=s}).Hc (b.a.len+1) p bf}/\Fv h (BB bi G) h' (BB bi G'):=by
  rintro _ ⟨u,rfl⟩;have w4:=g.Ja (u:=u);obtain⟨E,G4,⟨A,_⟩,w5,x5⟩:=w4.step (A':=b.a.add (KD 5 (b.a.nd p).CQ s).x) (R:=λh'=>Co cx 66 [Pt a 0,I (b.a.nd p).CQ,.str s] (h++d++u2++[.DD]++u) (.tuple [I (b.a.len+1),I 0]) h'/\True) (λn m ps P=>by obtain⟨h',r,wp,o1,l1⟩:=aC9 (s:=s) P rm.U7 (by have:=rm.n;unfold Ar.len;omega) xN;exact⟨h',_,_,_,⟨r,trivial⟩,wp,P.P3 rfl o1 l1⟩)
  obtain⟨Ď,X⟩:=lY (m:=m) (k:=5) (s:=s) ok (rm.le Ab) (.inl rfl) xN Ab;obtain⟨h',G',v,L,H⟩:=ZU (x:=b.a.len+1) (p:=p) (bf:=bf) w5 Ď.ba X;exact⟨h',E,G',A,v,L,(x3.trans g.DG).trans (x5.trans H)⟩
 have kl:=(hK.L1 (h:=h++d++u2)).len;have N6:i<=1000000000:=Ab;by_cases hz:i=0
 .subst hz;obtain⟨h',E,G',A,v,L,H⟩:=new (h++d++u2++[.DD]) ⟨[],Av⟩;simp only[↓reduceIte];refine⟨h',G',?_,L,H⟩;rw[Aj,T9,A_];rcases hk with hk|hk<;>by_cases h0:bf=0
  all_goals first|(rw[<-jq h0] at kl;simp only[abS,(GS w).Ag,B.Ag,r2.Ag,hk,Ct,BM,(Br:¬(2:Int)=4),kl,Cg h0,F_.Ag,f3,b3,(Br:¬(0:Int)<((0:Nat):Int)),g.l0,A.Ag,BM,v.Ag];done)|(rw[yO h0] at D;simp only[abS,(GS w).Ag,B.Ag,r2.Ag,hk,Ct,BM,(Br:¬(2:Int)=4),kl,h0,F_.Ag,f3,b3,(Br:¬(0:Int)<((0:Nat):Int)),g.l0,A.Ag,BM,v.Ag,D.Ag])
 .obtain⟨j,rfl⟩:∃j,i=j+1:=⟨i-1,Ab⟩;have hj:j<(b.a.nd p).AX.length:=Ab;rw[Ac hz,JY,Ak hj];simp only
  have ht:=ok.ok.Kq p hp _ (AP hj);obtain⟨q,O,U⟩:=(hK.L1 (h:=h++d++u2++[.DD])).at_ j hj;obtain⟨K7,V7,Q,T,_,_⟩:=Sf g ok rm (b.a.nd p).AX[j];have J:=g.Ja (u:=Q);obtain⟨q',N,M⟩:=(hK.L1 (h:=h++d++u2++[.DD]++Q)).at_ j hj;rw[O,Bs] at N;subst N;have S:Ax (.int .sub) [I ((j+1:Nat):Int),I 1]=some (I (j:Int)):=by have:=Ln (n:=j+1) Ab Ab;simpa using this
  generalize hte:(b.a.nd p).AX[j]=f at*;by_cases C:(b.a.nd f).kind=5
  .rw[Ad C];have sM:=rm.data f;obtain⟨h8,G8,⟨r8,_⟩,w8,x8⟩:=J.step (A':=b.a.PT f ((b.a.nd f).data++s)) (R:=λh'=>Co cx 65 [Pt a 0,I f,.str ((b.a.nd f).data++s)] (h++d++u2++[.DD]++Q) (I 0) h'/\True) (λn m ps P=>by obtain⟨h',N8,r,wp,xp⟩:=aDa (s:=(b.a.nd f).data++s) P rm.U7 ht.1 C;exact⟨h',n,m,N8,⟨r,trivial⟩,wp,xp⟩)
   refine⟨h8,G8,?_,w8,(x3.trans g.DG).trans x8⟩;rw[Aj,T9,A_];rcases hk with hk|hk<;>by_cases h0:bf=0
   all_goals first|(rw[<-jq h0] at kl;simp only[abS,(GS w).Ag,B.Ag,r2.Ag,hk,Ct,BM,(Br:¬(2:Int)=4),kl,Cg h0,F_.Ag,f3,b3,(Ab:(0:Int)<((j+1:Nat):Int)),S,O,U,T.Ag,C,J.l0,M,lX (Ab:(b.a.nd f).data.length+s.length<=2000000000),BM,r8.Ag];done)|(rw[yO h0] at D;simp only[abS,(GS w).Ag,B.Ag,r2.Ag,hk,Ct,BM,(Br:¬(2:Int)=4),kl,h0,F_.Ag,f3,b3,(Ab:(0:Int)<((j+1:Nat):Int)),S,O,U,T.Ag,C,J.l0,M,lX (Ab:(b.a.nd f).data.length+s.length<=2000000000),BM,r8.Ag,D.Ag])
  .rw[Ac C];obtain⟨h',E,G',A,v,L,H⟩:=new _ ⟨Q,rfl⟩;refine⟨h',G',?_,L,H⟩;rw[Aj,T9,A_];rcases hk with hk|hk<;>by_cases h0:bf=0
   all_goals first|(rw[<-jq h0] at kl;simp only[abS,(GS w).Ag,B.Ag,r2.Ag,hk,Ct,BM,(Br:¬(2:Int)=4),kl,Cg h0,F_.Ag,f3,b3,(Ab:(0:Int)<((j+1:Nat):Int)),S,O,U,T.Ag,C,J.l0,A.Ag,BM,v.Ag];done)|(rw[yO h0] at D;simp only[abS,(GS w).Ag,B.Ag,r2.Ag,hk,Ct,BM,(Br:¬(2:Int)=4),kl,h0,F_.Ag,f3,b3,(Ab:(0:Int)<((j+1:Nat):Int)),S,O,U,T.Ag,C,J.l0,A.Ag,BM,v.Ag,D.Ag])
def Uq{s:Au}{p bf x:Int}{h0 h1:Ah}(hstart:(¬x=0/\p=x/\bf=0/\h1=h0)\/(x=0/\Co cx 61 [Pt bi 0,I 0] h0 (.tuple [I p,I bf]) h1))
  (w0:BX h0 bi a o c t G b) (g:Fv h0 (BB bi G) h1 (BB bi G)) (w:BX h1 bi a o c t G b) (ok:EF b) (rm:Cs b (m+1)) (hs:s.length<=100000):
  ∃h' G',Co cx 29 [Pt bi 0,.str s,I x] h0 (.tuple []) h'/\BX h' bi a o c t G' {b with a:=BS.Hu b.a s p bf}/\Fv h0 (BB bi G) h' (BB bi G'):=by
 obtain⟨K,V,u2,r2,hK,_⟩:=Sf w ok rm p;have d:=w.Ja (u:=u2);unfold BS.Hu;by_cases hk:MN (b.a.nd p).kind
 .rw[Ad hk];have hp:b.a.has p:=by
   by_cases hp:b.a.has p;.exact hp
   .rw[LW hp] at hk;unfold MN at hk;simp at hk
  have xN:=ok.ok.CQ p hp;obtain⟨H,J,⟨q,_⟩,D,B⟩:=d.step (A':=b.a.add (KD 6 (b.a.nd p).CQ s).x) (R:=λh'=>Co cx 81 [Pt a 0,I (b.a.nd p).CQ,.str s] (h1++u2) (.tuple [I (b.a.len+1),I 0]) h'/\True) (λn m ps i=>by obtain⟨h',r,wp,E,l1⟩:=ĭ (s:=s) i rm.U7 (by have:=rm.n;unfold Ar.len;omega) xN;exact⟨h',_,_,_,⟨r,trivial⟩,wp,i.P3 rfl E l1⟩)
  obtain⟨Ď,e⟩:=lY (m:=m) (k:=6) (s:=s) ok rm (.inr rfl) xN hs;obtain⟨h',G',j,C,A⟩:=ZU (x:=b.a.len+1) (p:=p) (bf:=bf) D Ď.ba e;refine⟨h',G',?_,C,(g.trans w.DG).trans (B.trans A)⟩;rw[Aj,vB,t29];rcases hstart with⟨hx,rfl,rfl,rfl⟩|⟨hx,f⟩
  .rcases hk with hk|hk|hk<;>simp only[abS,(GS w0).Ag,r2.Ag,hk,Ct,BM,(Br:¬(2:Int)=1),(Br:¬(4:Int)=1),(Br:¬(4:Int)=2),d.l0,q.Ag,j.Ag,hx]
  .rcases hk with hk|hk|hk<;>simp only[abS,(GS w0).Ag,r2.Ag,hk,Ct,BM,(Br:¬(2:Int)=1),(Br:¬(4:Int)=1),(Br:¬(4:Int)=2),d.l0,q.Ag,j.Ag,Cg hx,f.Ag]
 .rw[Ac hk];refine⟨_,G,?_,d,g.trans w.DG⟩;unfold MN at hk;have z:¬(b.a.nd p).kind=1:=Ab;have y:¬(b.a.nd p).kind=2:=Ab;have v:¬(b.a.nd p).kind=4:=Ab;rw[Aj,vB,t29];rcases hstart with⟨hx,rfl,rfl,rfl⟩|⟨hx,f⟩
  .simp only[abS,(GS w0).Ag,r2.Ag,Ct,z,y,v,hx]
  .simp only[abS,(GS w0).Ag,r2.Ag,Ct,z,y,v,Cg hx,f.Ag]
def aDv(w:BX h bi a o c t G b)(ok:EF b)(rm:Cs b (m+1))(s:Au)(hs:s.length<=100000)(x:Int):
  ∃h' G',Co cx 29 [Pt bi 0,.str s,I x] h (.tuple []) h'/\BX h' bi a o c t G' (b.Mu s x)/\Fv h (BB bi G) h' (BB bi G'):=by
 unfold BS.Mu;by_cases h0:x=0;.rw[Ad h0];obtain⟨d,e⟩:=dz w ok rm 0;exact Uq (p:=(b.place 0).1) (bf:=(b.place 0).2) (.inr ⟨h0,e⟩) w w.DG (w.Ja (u:=d)) ok rm hs
 .rw[Ac h0];exact Uq (p:=x) (bf:=0) (.inl ⟨h0,rfl,rfl,rfl⟩) w .refl w ok rm hs
def aDw(w:BX h bi a o c t G b)(ok:BA b)(rm:Cs b (m+4))(hr:Ve nm av r)(hv:Cw l av)(hl:FZ l)(hn:nm.length<=1000)(st:Int):
  ∃h' o' G',Co cx 30 [Pt bi 0,.agg r,I st] h (.tuple []) h'/\BX h' bi a o' c t G' (b.PU nm l st)/\Fv h (BB bi G) h' (BB bi G'):=by
 obtain⟨h1,d,e,u,w1,i⟩:=eo w ok rm hr hv hl hn;have s:=w1.st (k:=18) (v:= I st) rfl rfl;have g:BX (put h1 bi 18 (I st)) bi a d c t e {b.EV nm l 1 with sw:=st}:=w1.put rfl rfl w1.o w1.t;have q:=g.st (k:=5) (v:= I (b.EV nm l 1).mode) rfl rfl;have f:BX (put (put h1 bi 18 (I st)) bi 5 (I (b.EV nm l 1).mode)) bi a d c t e {b.EV nm l 1 with sw:=st,ZC:=(b.EV nm l 1).mode}:=g.put rfl rfl w1.o w1.t;have n:=f.st (k:=4) (v:=I 8) rfl rfl;have j:BX (put (put (put h1 bi 18 (I st)) bi 5 (I (b.EV nm l 1).mode)) bi 4 (I 8)) bi a d c t e (b.PU nm l st):=f.put rfl rfl w1.o w1.t;refine⟨_,d,e,?_,j,((i.trans B7).trans B7).trans B7⟩;obtain⟨H,E,D,C,B,A,z,y,Yg,iI,rfl⟩:=hr;rw[Aj,td,t30];simp only[Cn,(GS w).Ag,u.Ag,w1.l4,s,q,n]
def aDx(w:BX h bi a o c t G b)(rm:Cs b m):
  ∃h' o',Co cx 31 [Pt bi 0] h (.tuple []) h'/\BX h' bi a o' c t G b.Jd/\Fv h (BB bi G) h' (BB bi G):=by
 have ho:=rm.AV;have d:=f136 w.sA (Ab:b.AV.length<=1000000000) 3 (v:= .sl 1 ([wP].map CW)) (ws:=[wP]) DR Br;have em:Ax (.Cb 1) [S [112]]=some (.sl 1 ([wP].map CW)):=EI (ws:=[wP]) rfl Br;unfold BS.Jd;by_cases hs:OQ (BK [wP]) (Nt 3) b.AV.reverse=true;.rw[Ad hs];rw[hs] at d;obtain⟨f,r2,WK⟩:=ĥ w.sO Ab wP;have w1:=w.Nz WK;have D0:=Xw (b:=Ht wP) (a:=Ee) (l:=b.AV);obtain⟨u2,e,PG⟩:=f66 w1.sO Gp (w:= .sl 1 ([wP].map CW)) (ws:=[wP]) DR Br;refine⟨_,u2,?_,w1.Nz PG,B7.trans B7⟩;rw[Aj,vC,t31];simp only[Cn,(GS w).Ag,em,d.Ag,r2.Ag,e.Ag]
 .rw[Ac hs];rw[show OQ (BK [wP]) (Nt 3) b.AV.reverse=false by simpa using hs] at d;refine⟨h,o,?_,w,.refl⟩;rw[Aj,vC,t31];simp only[Cn,(GS w).Ag,em,d.Ag]
end
section
variable{h h':Ah}{bi a:Nat}{o c t:Aa}{G G' F:Nat->Prop}{b:BS}{x:Int}{m:Nat}
variable{nm:Au}{av:Aa}{l:List A0}{r:List Aa}{sp p:Int}
def ZY{U:Type}{l:List U}{n:Nat}(hn:n<l.length):(l.take (n+1)).reverse=l[n]::(l.take n).reverse:=by rw[AL hn,GU];rfl
def œ(w:BX h bi a o c t G b)(rm:Cs b m)(nm:Au):
  ∃h' o',Co cx 33 [Pt bi 0,.str nm] h (.tuple []) h'/\BX h' bi a o' c t G (b.Dx nm)/\Fv h (BB bi G) h' (BB bi G):=by
 have ho:=rm.AV;have Ng:Ev cx 33 [Pt bi 0,.str nm] h λr h'=>r= .tuple []/\∃o',BX h' bi a o' c t G (b.Dx nm)/\Fv h (BB bi G) h' (BB bi G):=by
  unfold Ev;rw[vD,t33];simp only[abS,(GS w).Ag,(QY w.sA).Ag,D7 (Ab: -9223372036854775808<=(b.AV.length:Int)-1) (Ab:(b.AV.length:Int)-1<9223372036854775808)];refine BF (λn:Nat=>[I ((n:Int)-1)]) (λn h1=>n<=b.AV.length/\(b.AV.reverse.find? λi=>BK [nm] i||IG i)=((b.AV.take n).reverse.find? λi=>BK [nm] i||IG i)/\h1=h) (λn=>n) b.AV.length rfl ⟨Ae _,by rw[B6],rfl⟩ ?_;rintro n h1 ⟨hn,ha,rfl⟩;cases n with
  |zero=>
   have e:b.Dx nm=b:=by unfold BS.Dx;rw[ha];rfl
   simp only[abS,(Ab:¬(0:Int)<=((0:Nat):Int)-1)];exact⟨_,rfl,rfl,o,by rw[e];exact w,.refl⟩
  |succ n=>
   have hlt:n<b.AV.length:=Ab;have i1:((n+1:Nat):Int)-1=(n:Int):=Ab;have g:=QZ w.sA (n:Int);rw[Il hlt] at g;have em:Ax (.Cb 1) [.str nm]=some (.sl 1 ([nm].map CW)):=EI (ws:=[nm]) rfl Av;have r2:=fG (ws:=[nm]) DR Av b.AV[n] h1;rw[ZY hlt,MC] at ha;generalize hi:b.AV[n]=i at*;rw[Item.row] at r2;simp only[abS,Iq,i1,(Ab:(0:Int)<=(n:Int)),g.Ag,em];have f:Co cx 69 [.agg i.row,.sl 1 ([nm].map CW)] h1 (.bool (BK [nm] i)) h1:=r2;rw[f.Ag,LP,Dk];refine⟨λh2=>?_,λh2=>?_⟩
   .obtain⟨q,k,WK⟩:=ĥ w.sO Ab nm;have w1:=w.Nz WK;have D0:=Xw (b:=Ht nm) (a:=Ee) (l:=b.AV);obtain⟨u2,j,PG⟩:=Ħ w1.sO Gp i.node;simp only[Cn,k.Ag,j.Ag];refine⟨_,rfl,rfl,u2,?_,B7.trans B7⟩;have e:b.Dx nm={b with AV:=FM i.node (D9 (Ht nm) Ee b.AV)}:=by unfold BS.Dx;rw[ha];simp only[h2,yz,BE]
    rw[e];exact w1.Nz PG
   .simp only[h2,O3] at ha;simp only[(ĝ i.AY i.name).Cx rfl rfl];rw[LP,Dk];refine⟨λh3=>?_,λh3=>?_⟩
    .have d:IG i=true:=h3;rw[d] at ha;have e:b.Dx nm=b:=by unfold BS.Dx;rw[ha];simp only[h2,Dd,EX]
     simp only[Cn];exact⟨_,rfl,rfl,o,by rw[e];exact w,.refl⟩
    .have d:IG i=false:=h3;rw[d] at ha;simp only[Cn,D7 (Ab: -9223372036854775808<=(n:Int)-1) (Ab:(n:Int)-1<9223372036854775808)];exact A7.next n rfl ⟨Ab,ha,rfl⟩ Ab
 obtain⟨r,h',hr,rfl,o',w',x'⟩:=Ng.ret;exact⟨h',o',hr,w',x'⟩
def Ŕ(w:BX h bi a o c t G b)(rm:Cs b m){k:Nat}(hk:k<=b.AV.length):Co cx 150 [Pt bi 0,I (k:Int)] h (I (BS.NY (b.AV.take k))) h:=by
 have ho:=rm.AV;rw[Aj,kN,v_];simp only[Cn,D7 (Ab: -9223372036854775808<=(k:Int)-1) (Ab:(k:Int)-1<9223372036854775808)];refine BF (λn:Nat=>[I 0,I ((n:Int)-1)]) (λn h1=>n<=k/\((b.AV.take k).reverse.find? λi=>BK [BG] i||BK [HE] i)=((b.AV.take n).reverse.find? λi=>BK [BG] i||BK [HE] i)/\h1=h) (λn=>n) k rfl ⟨Ae _,rfl,rfl⟩ ?_;rintro n h1 ⟨hn,ha,rfl⟩;cases n with
 |zero=>simp only[abS,(Ab:¬(0:Int)<=((0:Nat):Int)-1)];unfold BS.NY;rw[ha];rfl
 |succ n=>
  have hlt:n<b.AV.length:=Ab;have i1:((n+1:Nat):Int)-1=(n:Int):=Ab;have e:=QZ w.sA (n:Int);rw[Il hlt] at e;have d:Ax (.Cb 1) [S BG]=some (.sl 1 ([BG].map CW)):=EI (ws:=[BG]) rfl Br;have G_:Ax (.Cb 1) [S HE]=some (.sl 1 ([HE].map CW)):=EI (ws:=[HE]) rfl Br;have r2:=fG (ws:=[BG]) DR Br b.AV[n] h1;have f:=fG (ws:=[HE]) DR Br b.AV[n] h1;rw[ZY hlt,MC] at ha;simp only[abS,i1,(Ab:(0:Int)<=(n:Int)),e.Ag,d,r2.Ag,G_,f.Ag,D7 (Ab: -9223372036854775808<=(n:Int)-1) (Ab:(n:Int)-1<9223372036854775808)];rw[Dk];refine⟨λh2=>?_,λh2=>?_⟩;.simp only[h2,yz] at ha;unfold BS.NY;rw[ha];simp only[h2,BE]
  .simp only[h2,O3] at ha;rw[Dk];refine⟨λh3=>?_,λh3=>?_⟩;.rw[h3] at ha;unfold BS.NY;rw[ha];simp only[h2,Dd,EX]
   .rw[h3] at ha;exact A7.next n rfl ⟨Ab,ha,rfl⟩ Ab
def fJ(r:Au×Int):List Aa:=[.str r.1,I r.2]
def XW{z:Nat}{Af:List (List Aa)}{args:List Aa}(e:args=Af.map Aa.agg)(hz:∀r∈Af,r.length=z)(hl:Af.length*z<=16777216):Ax (.Cb z) args=some (.sl z Af):=by
 subst e;have f:(Af.map Aa.agg).all (λa=>a.cells.length==z)=true:=by simp[Aa.cells];exact hz
 have d:(Af.map Aa.agg).map (·.cells)=Af:=by rw[List.map_map];exact List.map_id _
 rw[iO,f,d];simp[hl]
def xO{args:List Aa}(e:args=(IJ.map fJ).map Aa.agg):Ax (.Cb 2) args=some (.sl 2 (IJ.map fJ)):=XW e (λr hr=>by obtain⟨x,_,rfl⟩:=A3.1 hr;rfl) Br
def ŕ:Co cx 149 [] h (.sl 2 (IJ.map fJ)) h:=by rw[Aj,kM,vz];simp only[abS,Nat.reduceLeDiff,↓reduceIte,Bl];exact(B8 (λz=>VT z λv=>[v]=[Aa.sl 2 (IJ.map fJ)]) (xO rfl)).mpr (by rw[Nk])
def Wk{s:Au}{i:Item}:BK [s] i=decide (i.AY=1/\i.name=s):=by unfold BK;simp
def pJ{i:Item}{k:Nat}:b.Mw i k=match IJ.find? λr=>BK [r.1] i with
  |some r=>some r.2
  |none=>if BK [Mv] i then some (BS.NY (b.AV.take k)) else if BK [ju,jv] i&&decide (0<k) then some 15 else if BK [BG] i then some (b.tm.getLast?.getD 7) else if BK [T5] i&&decide (0<k) then some 4 else if BK [Fu] i then some (if b.head=0 then 3 else 6) else if k=0 then some 7 else none:=by
 unfold BS.Mw;by_cases hs:i.AY=1
 .rw[Ad hs];have e:(λr:Au×Int=>BK [r.1] i)=λr=>decide (r.1=i.name):=by funext r;rw[Wk,DM];exact⟨λh=>h.2.symm,λh=>⟨hs,h.symm⟩⟩
  rw[e];cases hf:IJ.find? λr=>decide (r.1=i.name) with
  |some r=>rfl
  |none=>simp only[BK,hs,IP,Az,List.not_mem_nil,or_false,Bf,C6]
 .rw[Ac hs];have e:(λr:Au×Int=>BK [r.1] i)=λ_=>false:=by funext r;rw[Wk,A4 (λh=>hs h.1)]
  rw[e];have d:IJ.find? (λ_=>false)=none:=Br;rw[d];simp only[BK,hs,me,Ck,Dd,EX,Bool.false_and]
def Ŗ(w:BX h bi a o c t G b)(rm:Cs b m)(i:Item){k:Nat}(hk:k<=b.AV.length):Co cx 89 [Pt bi 0,.agg i.row,I (k:Int)] h (.tuple [I ((b.Mw i k).getD 7),.bool (b.Mw i k).isSome]) h:=by
 have ho:=rm.AV;have Q:=rm.tm;have gT:Bn 2 (IJ.map fJ) (.sl 2 (IJ.map fJ)):= .mk;have C:=λws hw=>fG (ws:=ws) DR hw i h;rw[pJ,Aj,vY,t89];have hlen:IJ.length=9:=rfl;have P:=gT.FL;rw[hlen] at P;simp only[Cn,↓reduceIte,Iq,ŕ.Ag,P];refine BF (λn:Nat=>[I 0,ff,I (n:Int)]) (λn h1=>n<=9/\(IJ.find? λr=>BK [r.1] i)=((IJ.drop n).find? λr=>BK [r.1] i)/\h1=h) (λn=>9 -n) 0 rfl ⟨AZ _,rfl,rfl⟩ ?_;rintro n h1 ⟨hn,ha,rfl⟩;rcases A8 n 9 with hlt|GR
 .have pE:n<IJ.length:=hlt;have em:Ax (.Cb 1) [.str IJ[n].1]=some (.sl 1 ([IJ[n].1].map CW)):=EI (ws:=[IJ[n].1]) rfl Av;rw[AB pE,MC] at ha;simp only[Cn,Nat.reduceLeDiff,↓reduceIte,dG,(Ab:(n:Int)<((9:Nat):Int)),gT.Dw pE,fJ,em,(C [IJ[n].1] Av).Ag,Cu (Ab:n<9223372036854775807)];rw[Dk];refine⟨λh2=>?_,λh2=>?_⟩;.rw[h2] at ha;rw[ha];simp
  .rw[h2] at ha;exact A7.next (n+1) rfl ⟨hlt,ha,rfl⟩ Ab
 .have R:n=9:=by omega
  subst R;have ha:(IJ.find? λr=>BK [r.1] i)=none:=ha;rw[ha];have q:Ax (.Cb 1) [S aMf]=some (.sl 1 ([Mv].map CW)):=EI (ws:=[Mv]) rfl Br;have s:Ax (.Cb 1) [S [116,100],S [116,104]]=some (.sl 1 ([ju,jv].map CW)):=EI (ws:=[ju,jv]) rfl Br;have u:Ax (.Cb 1) [S aLI]=some (.sl 1 ([BG].map CW)):=EI (ws:=[BG]) rfl Br;have H:Ax (.Cb 1) [S [104,101,97,100]]=some (.sl 1 ([T5].map CW)):=EI (ws:=[T5]) rfl Br;have K:Ax (.Cb 1) [S aLN]=some (.sl 1 ([Fu].map CW)):=EI (ws:=[Fu]) rfl Br;have f:=C [Mv] Br;have d:=C [ju,jv] Br;have g:=C [BG] Br;have y:=C [T5] Br;have B:=C [Fu] Br;have rs:=Ŕ w rm hk;have lt:=(w.t.1.L1 (h:=h1));have j:¬((9:Nat):Int)<((9:Nat):Int):=Br;have l6:=w.l6;have Ã:b.tm≠[]->∃p,Ax (.int .sub) [I (b.tm.length:Int),I 1]=some (I ((b.tm.length-1:Nat):Int))/\Ax (.ER 1) [t,I ((b.tm.length-1:Nat):Int)]=some p/\Bk h1 none p=some (I (b.tm.getLast?.getD 7)):=by intro hne;have hpos:=FQ.2 hne;obtain⟨p,E,D⟩:=lt.at_ (b.tm.length-1) Ab;refine⟨p,Ln hpos Ab,E,?_⟩;rw[D,Oc,Ak Ab];rfl
  by_cases g1:BK [Mv] i=true;.rw[g1] at f;simp only[abS,↓reduceIte,j,q,f.Ag,rs.Ag,g1,Lt,aEz]
  .have g1:BK [Mv] i=false:=by simpa using g1
   rw[g1] at f;by_cases A:0<k
   .have M:¬k=0:=by omega
    have z:¬(k:Int)=0:=Ab;have v:(0:Int)<(k:Int):=Ab;cases g2:BK [ju,jv] i<;>rw[g2] at d;rotate_left;.simp only[Cn,↓reduceIte,j,q,f.Ag,s,d.Ag,A,v,g1,Yk]
    cases g3:BK [BG] i<;>rw[g3] at g;rotate_left
    .by_cases ht:b.tm=[];.simp only[Cn,↓reduceIte,j,q,f.Ag,s,d.Ag,u,g.Ag,A,v,g1,Yk,l6,lt.len,ht,Qk,O5,aHb]
     .obtain⟨p,E,D,L⟩:=Ã ht;have HC:¬b.tm.length=0:=λe=>ht (mg.1 e);simp only[Cn,↓reduceIte,j,q,f.Ag,s,d.Ag,u,g.Ag,A,v,g1,Yk,l6,lt.len,(Ab:(0:Int)<(b.tm.length:Int)),E,D,L]
    cases O:BK [T5] i<;>rw[O] at y;rotate_left;.simp only[Cn,↓reduceIte,j,q,f.Ag,s,d.Ag,u,g.Ag,H,y.Ag,A,v,g1,Yk]
    all_goals cases N:BK [Fu] i<;>rw[N] at B
    all_goals first
     |simp only[Cn,↓reduceIte,j,q,f.Ag,s,d.Ag,u,g.Ag,H,y.Ag,K,B.Ag,A,M,z,v,g1,Yk];done
     |by_cases J:b.head=0
      .simp only[Cn,↓reduceIte,j,q,f.Ag,s,d.Ag,u,g.Ag,H,y.Ag,K,B.Ag,A,z,v,g1,Yk,w.l7,J]
      .simp only[Cn,↓reduceIte,j,q,f.Ag,s,d.Ag,u,g.Ag,H,y.Ag,K,B.Ag,A,z,v,g1,Yk,w.l7,J]
   .have M:k=0:=by omega
    subst M;have v:¬(0:Int)<((0:Nat):Int):=Br;have z:((0:Nat):Int)=0:=rfl;by_cases g3:BK [BG] i=true
    .rw[g3] at g;cases g2:BK [ju,jv] i<;>rw[g2] at d<;>by_cases ht:b.tm=[];all_goals first
      |simp only[Cn,↓reduceIte,j,q,f.Ag,s,d.Ag,u,g.Ag,z,g1,g3,Yk,l6,lt.len,ht,O5,aHb,CX];done
      |obtain⟨p,E,D,L⟩:=Ã ht
       have HC:¬b.tm.length=0:=λe=>ht (mg.1 e);simp only[Cn,↓reduceIte,j,q,f.Ag,s,d.Ag,u,g.Ag,z,g1,g3,Yk,l6,lt.len,(Ab:(0:Int)<(b.tm.length:Int)),E,D,L,CX]
    .have g3:BK [BG] i=false:=by simpa using g3
     rw[g3] at g;cases g2:BK [ju,jv] i<;>rw[g2] at d<;>cases O:BK [T5] i<;>rw[O] at y<;>cases N:BK [Fu] i<;>rw[N] at B<;>by_cases J:b.head=0;all_goals simp only[Cn,↓reduceIte,j,q,f.Ag,s,d.Ag,u,g.Ag,H,y.Ag,K,B.Ag,z,g1,g3,Yk,w.l7,J,CX]
end
section
variable{h h':Ah}{bi a:Nat}{o c t:Aa}{G G' F:Nat->Prop}{b:BS}{x:Int}{m:Nat}
variable{nm:Au}{av:Aa}{l:List A0}{r:List Aa}{sp p:Int}
def BX.ŗ(w:BX h bi a o c t G b):Bk h (some 4) (Pt bi 10)=some (.agg b.ctx.row):=by simp only[Bk,w.hb];rfl
def BX.ya(w:BX h bi a o c t G b)(v:Int):BX (Am.put h bi 4 (I v)) bi a o c t G {b with mode:=v}:=w.put rfl rfl w.o w.t
def Cs.mode{v:Int}(rm:Cs b m):Cs {b with mode:=v} m:=⟨rm.n,rm.at_,rm.data,rm.AV,rm.Bd,rm.tm,rm.Dn,rm.ZL⟩
def e_(w:BX h bi a o c t G b)(rm:Cs b m):
  ∃h',Co cx 34 [Pt bi 0] h (.tuple []) h'/\BX h' bi a o c t G b.Kz/\Fv h (BB bi G) h' (BB bi G):=by
 have ho:=rm.AV;have Ng:Ev cx 34 [Pt bi 0] h λr h'=>r= .tuple []/\BX h' bi a o c t G b.Kz/\Fv h (BB bi G) h' (BB bi G):=by
  unfold Ev;have w1:=w.ya 7;rw[vE,t34];simp only[abS,(GS w).Ag,w.st (k:=4) (v:=I 7) rfl rfl,(QY w1.sA).Ag,D7 (Ab: -9223372036854775808<=(b.AV.length:Int)-1) (Ab:(b.AV.length:Int)-1<9223372036854775808)];refine BF (λn:Nat=>[I ((n:Int)-1)]) (λn h1=>n<=b.AV.length/\b.QT b.AV.length=b.QT n/\h1=Am.put h bi 4 (I 7)) (λn=>n) b.AV.length rfl ⟨Ae _,rfl,rfl⟩ ?_;rintro n h1 ⟨hn,ha,rfl⟩;cases n with
  |zero=>
   have e:b.Kz={b with mode:=7}:=by unfold BS.Kz;rw[ha];rfl
   simp only[abS,(Ab:¬(0:Int)<=((0:Nat):Int)-1)];exact⟨_,rfl,rfl,by rw[e];exact w1,B7⟩
  |succ n=>
   have hlt:n<b.AV.length:=Ab;have i1:((n+1:Nat):Int)-1=(n:Int):=Ab;have g:=QZ w1.sA (n:Int);rw[show Ft ({b with mode:=7}:BS).AV (n:Int)=b.AV[n] from Il hlt] at g;have r2:∀i:Item,Co cx 89 [Pt bi 0,.agg i.row,I (n:Int)] (Am.put h bi 4 (I 7)) (.tuple [I ((b.Mw i n).getD 7),.bool (b.Mw i n).isSome]) (Am.put h bi 4 (I 7)):=λi=>Ŗ w1 rm.mode i (k:=n) Gp;have d:=r2 (b.F9 n);have Hw:∀v,CK (Am.put h bi 4 (I 7)) 1 (Pt bi 4) (I v)=some (Am.put (Am.put h bi 4 (I 7)) bi 4 (I v)):=λv=>w1.st (k:=4) rfl rfl;have e:b.QT (n+1)=match b.Mw (b.F9 n) n with|some m=>m|none=>b.QT n:=rfl
   rw[e] at ha;have Yl:=w1.l9;have hlc:=w1.ŗ;have Tm:=D7 (Ab: -9223372036854775808<=(n:Int)-1) (Ab:(n:Int)-1<9223372036854775808);cases hm:b.Mw (b.F9 n) n with
   |none=>
    rw[hm] at d ha;by_cases h0:n=0
    .have nC:((n:Int)=0)=True:=Cg Ab;cases hf:b.Nw with
     |true=>
      have f:b.F9 n=b.ctx:=by unfold BS.F9;rw[Ad ⟨h0,hf⟩]
      rw[f] at d;rw[show({b with mode:=7}:BS).Nw=true from hf] at Yl;simp only[Cn,Iq,i1,g.Ag,Yl,hlc,d.Ag,Hw,Yk,(Ab:(0:Int)<=(n:Int)),nC,Tm];exact A7.next n rfl ⟨Ab,ha,rfl⟩ Ab
     |false=>
      have f:b.F9 n=b.AV[n]:=by unfold BS.F9;rw[Ac (by simp[hf]),Ay,Ak hlt];rfl
      rw[f] at d;rw[show({b with mode:=7}:BS).Nw=false from hf] at Yl;simp only[Cn,Iq,i1,g.Ag,Yl,hlc,d.Ag,Hw,Yk,(Ab:(0:Int)<=(n:Int)),nC,Tm];exact A7.next n rfl ⟨Ab,ha,rfl⟩ Ab
    .have f:b.F9 n=b.AV[n]:=by unfold BS.F9;rw[Ac (by simp[h0]),Ay,Ak hlt];rfl
     rw[f] at d;have nC:¬(n:Int)=0:=Ab;simp only[Cn,Iq,i1,g.Ag,d.Ag,Hw,Yk,(Ab:(0:Int)<=(n:Int)),nC,Tm];exact A7.next n rfl ⟨Ab,ha,rfl⟩ Ab
   |some v=>
    rw[hm] at d ha;have e:b.Kz={b with mode:=v}:=by unfold BS.Kz;rw[ha]
    have j:BX (Am.put (Am.put h bi 4 (I 7)) bi 4 (I v)) bi a o c t G b.Kz:=by rw[e];exact w1.ya v
    by_cases h0:n=0
    .have nC:((n:Int)=0)=True:=Cg Ab;cases hf:b.Nw with
     |true=>
      have f:b.F9 n=b.ctx:=by unfold BS.F9;rw[Ad ⟨h0,hf⟩]
      rw[f] at d;rw[show({b with mode:=7}:BS).Nw=true from hf] at Yl;simp only[Cn,Iq,i1,g.Ag,Yl,hlc,d.Ag,Hw,Yk,(Ab:(0:Int)<=(n:Int)),nC];exact⟨_,rfl,rfl,j,B7.trans B7⟩
     |false=>
      have f:b.F9 n=b.AV[n]:=by unfold BS.F9;rw[Ac (by simp[hf]),Ay,Ak hlt];rfl
      rw[f] at d;rw[show({b with mode:=7}:BS).Nw=false from hf] at Yl;simp only[Cn,Iq,i1,g.Ag,Yl,hlc,d.Ag,Hw,Yk,(Ab:(0:Int)<=(n:Int)),nC];exact⟨_,rfl,rfl,j,B7.trans B7⟩
    .have f:b.F9 n=b.AV[n]:=by unfold BS.F9;rw[Ac (by simp[h0]),Ay,Ak hlt];rfl
     rw[f] at d;have nC:¬(n:Int)=0:=Ab;simp only[Cn,Iq,i1,g.Ag,d.Ag,Hw,Yk,(Ab:(0:Int)<=(n:Int)),nC];exact⟨_,rfl,rfl,j,B7.trans B7⟩
 obtain⟨r,h',hr,rfl,w',x'⟩:=Ng.ret;exact⟨h',hr,w',x'⟩
def pK{h0 u:Ah}{V:Aa}{L:List A0}{N:Nat}(j:N=h0.length)(g:Ex (h0++u) V L)(i:Up N V)(hb:L.length<=1000000000)(y:A0):
  ∃f d,ET (h0++u) 3 40 V (.sl 3 [y.row])=some (h0++f,d)/\Ex (h0++f) d (L++[y])/\Up N d:=by
 subst j;have yQ:AN=140737488355328:=rfl;rcases g with⟨rfl,rfl⟩|⟨id,rfl,hc,hl⟩
 .refine⟨u++[.cells (([y]:List A0).map A0.row).flatten],.CI (h0++u).length 0 1 3,by rw[<-AA];rfl,.inr ⟨(h0++u).length,rfl,Av,Av⟩,λid k e=>by injection e with e;rw[<-e,Ap];omega⟩
 .have Hn:h0.length<=id:=i id _ rfl;have hg:=Mp (b:=40) (Af:=L.map A0.row) (r2:=[y.row]) (v:= .sl 3 [y.row]) (wR L) Br hc .mk Av (by rw[As];simp;omega);rw[As] at hg;have e:(h0++u).set id .DD++[.cells (L.map A0.row++[y.row]).flatten]=h0++(u.set (id-h0.length) .DD++[.cells ((L++[y]).map A0.row).flatten]):=by rw[Ce _ _ Hn,AA,BW];rfl
  rw[e] at hg;have Yi:(h0++(u.set (id-h0.length) DH.DD++[.cells ((L++[y]).map A0.row).flatten]))=(h0++u.set (id-h0.length) DH.DD)++[.cells ((L++[y]).map A0.row).flatten]:=by rw[AA]
  have VO:(h0++u.set (id-h0.length) DH.DD).length=(h0++u).length:=Av;refine⟨_,_,hg,.inr ⟨(h0++u).length,Av,?_,?_⟩,λid k e=>by injection e with e;rw[<-e,Ap];omega⟩;.rw[Yi,<-VO,BD (Ae _),DL];rfl
  .rw[Yi];simp only[Ap,BJ,AO,Bq];omega
def Ř(y c:A0)(h:Ah):Co cx 91 [.agg c.row,.B3 y.row] h (.bool (decide (CV ⟨0,y.name,y.value⟩=CV c))) h:=by
 rw[Aj,ug,t91,A0.row,A0.row];simp only[Cn];refine⟨λh1=>?_,λh1=>?_⟩;.congr 2;rw[DM];simp[CV,h1];exact y_
 .rw[A4 (λe=>h1 (by simp[CV] at e;exact e.1.symm))]
def A0.pL{y:A0}:(⟨0,y.name,y.value⟩:A0).row=[I 0,.str y.name,.str y.value]:=rfl
def Q5(k:Int×Au):∀{l out:List A0},(Gi out l).any (λz=>decide (k=CV z))=(out++l).any λz=>decide (k=CV z)
 |[],out=>by simp[Gi]
 |y::l,out=>by
  rw[Gi];split
  .rename_i h;rw[Q5 k,qC,qC,List.any_cons];by_cases hk:k=CV y;.subst hk;rw[h];rfl
   .simp[hk]
  .rw[Q5 k,AA];rfl
def xP(k:Int×Au)(l:List A0):(Cp l).any (λz=>decide (k=CV z))=l.any λz=>decide (k=CV z):=Q5 k
def N2{l:List A0}{y:A0}:Cp (l++[y])=if(Cp l).any (λz=>decide (CV y=CV z)) then Cp l else Cp l++[y]:=Uk
def aDA(w:BX h bi a o c t G b)(ok:EF b)(rm:Cs b (m+1000))(hr:Ve nm av r)(hv:Cw l av)(hl:FZ l)(x:Int):
  ∃h' G',Co cx 35 [Pt bi 0,.agg r,I x] h (.tuple []) h'/\BX h' bi a o c t G' (b.Io l x)/\Fv h (BB bi G) h' (BB bi G'):=by
 obtain⟨K1,V1,d,A,_,_⟩:=Sf w ok rm x;have w1:=w.Ja (u:=d);obtain⟨W,U,T,S,Q,P,O,M,Yg,iI,rfl⟩:=hr;have v:Fv h (BB bi G) (h++d) (BB bi G):=w.DG;by_cases hk:(b.a.nd x).kind=4;rotate_left;.refine⟨h++d,G,?_,by unfold BS.Io;rw[Ac hk];exact w1,v⟩;rw[Aj,vF,t35];simp only[abS,↓reduceIte,(GS w).Ag,A.Ag,Ct,hk]
 obtain⟨K2,X,u2,r2,_,f,g⟩:=Sf w1 ok rm x;have w2:=w1.Ja (u:=u2);have x2:Fv h (BB bi G) (h++d++u2) (BB bi G):=v.trans w1.DG;have hx:b.a.has x:=by
  by_cases hp:b.a.has x;.exact hp
  .rw[LW hp] at hk;simp at hk
 have WJ:=rm.at_ x;have YC:=hl.1;have Ng:Ev cx 35 [Pt bi 0,.agg [W,.str nm,U,T,S,Q,P,O,av,M,Yg,iI],I x] h λr h'=>r= .tuple []/\∃G',BX h' bi a o c t G' (b.Io l x)/\Fv h (BB bi G) h' (BB bi G'):=by
  unfold Ev;rw[vF,t35];have hvl:=Bn.FL hv;simp only[abS,↓reduceIte,(GS w).Ag,A.Ag,r2.Ag,Ct,hk,hvl];refine BF (λs:Aa×Nat=>[s.1,I (s.2:Int)]) (λs h1=>∃u L,h1=h++d++u/\s.2<=l.length/\Ex h1 s.1 L/\Up (h++d).length s.1/\Cp L=Cp ((b.a.nd x).AE++BS.plain (l.take s.2))/\(∀y∈L,BS.Ir y.AY)/\L.length<=(b.a.nd x).AE.length+s.2) (λs=>l.length-s.2) (X,0) rfl ⟨u2,(b.a.nd x).AE,rfl,AZ _,f,g,?_,?_,Av⟩ ?_;.simp[BS.plain]
  .exact λy hy=>(ok.ok.Nv x hx).uA y hy
  rintro⟨V,n⟩ h1 ⟨u,L,rfl,hn,f,g,j,hs,D0⟩;simp only at hn f g j D0;rcases A8 n l.length with hlt|GR
  .have C:=Bn.Dw (k:= .i64) hv hlt;rw[A0.row] at C;have i:=ky f.in_ Ab (F:= .func (.func 91) [] [.B3 l[n].row]) (q:=λc=>decide (CV ⟨0,l[n].name,l[n].value⟩=CV c)) ⟨_,_,rfl,Br,λc=>Ř l[n] c _⟩;rw[A0.row] at i;obtain⟨K,Y,g1,g2,g3⟩:=pK (N:=(h++d).length) rfl f g Ab ⟨0,l[n].name,l[n].value⟩;rw[A0.pL] at g1;have em:Ax (.Cb 3) [.agg [I 0,.str l[n].name,.str l[n].value]]=some (.sl 3 [[I 0,.str l[n].name,.str l[n].value]]):=rfl;have D:Cp ((b.a.nd x).AE++BS.plain (l.take (n+1)))=Cp (L++[⟨0,l[n].name,l[n].value⟩]):=by rw[AL hlt,BS.plain,BW,<-AA,aEC,N2,N2,j];rfl
   have B:Cp (L++[⟨0,l[n].name,l[n].value⟩])=if L.any (λz=>decide (CV ⟨0,l[n].name,l[n].value⟩=CV z)) then Cp L else Cp L++[⟨0,l[n].name,l[n].value⟩]:=by rw[N2,xP]
   simp only[abS,Nat.reduceLeDiff,↓reduceIte,Bl,(Ab:(n:Int)<(l.length:Int)),C,i.Ag,em,g1,Cu (Ab:n<9223372036854775807)];rw[Dk];refine⟨λh2=>?_,λh2=>?_⟩
   .refine A7.next (Y,n+1) rfl ⟨K,_,rfl,hlt,g2,g3,D.symm,?_,Ew⟩ Gp;intro y hy;rcases An.1 hy with hy|hy
    .exact hs y hy
    .simp at hy;subst hy;exact⟨Gp,Gp⟩
   .have h2:(L.any λz=>decide (CV ⟨0,l[n].name,l[n].value⟩=CV z))=true:=by simpa using h2
    rw[Ad h2] at B;exact A7.next (V,n+1) rfl ⟨u,L,rfl,hlt,f,g,by rw[D,B],hs,Gp⟩ Gp
  .have N6:n=l.length:=by omega
   subst N6;rw[B6] at j;simp only[abS,↓reduceIte,(Ab:¬(l.length:Int)<(l.length:Int)),(w1.Ja (u:=u)).l0];obtain⟨h3,Z,i,J,E⟩:=(w1.Ja (u:=u)).step (A':=b.a.Kx x L) (R:=λh3=>Co cx 92 [Pt a 0,I x,V] (h++d++u) (I 0) h3) λn m ps H=>by obtain⟨h',N8,f1,f2,f3⟩:=į H rm.U7 hx hk f.in_ Ab hs;exact⟨h',n,m,N8,f1,f2,f3⟩
   have e:b.Io l x={b with a:=b.a.Kx x L}:=by unfold BS.Io;rw[Ad hk];unfold Ar.Kx;rw[j]
   simp only[Cn,i.Ag];refine⟨_,rfl,rfl,Z,?_,?_⟩;.rw[e];exact J
   .exact(v.trans w1.DG).trans E
 obtain⟨r,h',hr,rfl,G',w',x'⟩:=Ng.ret;exact⟨h',G',hr,w',x'⟩
end
section
variable{h h':Ah}{bi a:Nat}{o c t:Aa}{G G' F:Nat->Prop}{b b':BS}{x:Int}{m:Nat}
variable{nm:Au}{av:Aa}{l:List A0}{r:List Aa}{sp p:Int}
def Cs.sub(rm:Cs b m)(ha:b'.a=b.a)(ho:b'.AV.Sublist b.AV)(hc:b'.Bd.Sublist b.Bd)(ht:b'.tm.length<=b.tm.length):Cs b' m:=
 ⟨by rw[ha];exact rm.n,by rw[ha];exact rm.at_,by rw[ha];exact rm.data,by have:=rm.AV;have:=ho.length_le;omega,by have:=rm.Bd;have:=hc.length_le;omega,by have:=rm.tm;omega,λe he=>rm.Dn e (hc.subset he),λi hi=>rm.ZL i (ho.subset hi)⟩
def ř{v:Aa}{l:List Int}(hv:Q3 l v)(hb:l.length<=1000000000)(h:Ah):∃u,Co cx 46 [v] h u h/\Vb l u:=by
 have hm:AN=140737488355328:=rfl;have e0:Ax (.Fb 1) []=some (.Fb 1):=rfl;rcases hv with hv|⟨rfl,rfl⟩
 .have HZ:Bn 1 (l.map Dz) v:=hv;rcases HZ with rfl|⟨rfl,h0⟩
  .cases l with
   |nil=>refine⟨.Fb 1,?_,.inr ⟨rfl,rfl⟩,nofun⟩;rw[Aj,Ub,t46];simp only[Cn,DJ,show Ax (.Gb false .sl) [.sl 1 [],.slnil]=some (.bool false) from rfl,e0,show Ax (.append 1 8) [.Fb 1,.sl 1 []]=some (.Fb 1) from rfl]
   |cons x l=>
    have MV:((x::l).map Dz).length*8<=AN:=by rw[As];omega
    have d:Ax (.append 1 8) [.Fb 1,.sl 1 ((x::l).map Dz)]=some (.sl 1 ((x::l).map Dz)):=by simp only[Be] at MV⊢;simp only[Ax,Gw,BE,C0];rw[Ad ⟨trivial,MV⟩]
    refine⟨_,?_,.inl .mk,λe=>by injection e with _ e;simp at e⟩;rw[Aj,Ub,t46];simp only[Cn,show Ax (.Gb false .sl) [.sl 1 ((x::l).map Dz),.slnil]=some (.bool false) from rfl,e0,d]
  .refine⟨.slnil,?_,.inl (.inr ⟨rfl,h0⟩),nofun⟩;rw[Aj,Ub,t46];simp only[Cn,show Ax (.Gb false .sl) [.slnil,.slnil]=some (.bool true) from rfl]
 .refine⟨.Fb 1,?_,.inr ⟨rfl,rfl⟩,nofun⟩;rw[Aj,Ub,t46];simp only[Cn,show Ax (.Gb false .sl) [.Fb 1,.slnil]=some (.bool false) from rfl,e0,show Ax (.append 1 8) [.Fb 1,.Fb 1]=some (.Fb 1) from rfl]
def BX.yb{u:Aa}{l:List Int}(w:BX h bi a o c t G b)(hu:Vb l u):BX (Am.put h bi 6 u) bi a o c u G {b with tm:=l}:=w.put rfl rfl w.o hu
def xQ:Ax (.Cb 1) [S aLI]=some (.sl 1 ([BG].map CW)):=EI (ws:=[BG]) rfl Br
def aDB(w:BX h bi a o c t G b)(hc:Dc b.Bd c)(rm:Cs b m):
  ∃h' o' c' t',Co cx 36 [Pt bi 0] h (.tuple []) h'/\BX h' bi a o' c' t' G b.Dm/\Dc b.Dm.Bd c'/\Fv h (BB bi G) h' (BB bi G):=by
 have ho:=rm.AV;have aQ:=rm.Bd;have O:=rm.tm;have z:=xn w.sA Ab BG;by_cases Is:AR (BK [BG]) b.AV<0;.refine⟨h,o,c,t,?_,by unfold BS.Dm;rw[Ad Is];exact w,by unfold BS.Dm;rw[Ad Is];exact hc,.refl⟩;rw[Aj,eM,t36];simp only[abS,(GS w).Ag,z.Ag,Is]
 obtain⟨v,r2,WK⟩:=aCX w.sO Ab;have w1:=w.Nz WK;have l1:(D9 DI Ee b.AV).length<=b.AV.length:=Xw;obtain⟨u2,H,PG⟩:=f66 w1.sO Gp (DR (ws:=[BG])) Br;have D:=w1.Nz PG;obtain⟨fs,KQ,hcs⟩:=hc;have HI:fs.length=b.Bd.length:=by rw[<-KQ,As]
 obtain⟨d,E,B⟩:=f65 (show QP _ bi 3 fs from⟨c,D.xF,hcs⟩) Ab;have i:=D.Q4 (u:=d) (l:=H7 b.Bd);have VN:Dc (H7 b.Bd) d:=⟨_,by rw[lV,KQ],B⟩;have lt:=w.t.1.len;have l6:=i.l6;have e:b.Dm=BS.Kz {b with AV:=D9 Ee (BK [BG]) (D9 DI Ee b.AV),Bd:=H7 b.Bd,tm:=b.tm.dropLast}:=by unfold BS.Dm;rw[Ac Is]
 have sO:(D9 Ee (BK [BG]) (D9 DI Ee b.AV)).Sublist b.AV:=(EW (p:=Ee) (q:=BK [BG]) (l:=D9 DI Ee b.AV)).trans EW;have C:Fv h (BB bi G) (put (put (put h bi 2 v) bi 2 u2) bi 3 d) (BB bi G):=(B7.trans B7).trans B7;by_cases h0:b.tm=[]
 .have s:BX (put (put (put h bi 2 v) bi 2 u2) bi 3 d) bi a u2 d t G {b with AV:=D9 Ee (BK [BG]) (D9 DI Ee b.AV),Bd:=H7 b.Bd,tm:=b.tm.dropLast}:=by
   have:b.tm.dropLast=b.tm:=by rw[h0];rfl
   rw[this];exact i
  obtain⟨Q,y,j,K⟩:=e_ s (rm.sub (b':={b with AV:=D9 Ee (BK [BG]) (D9 DI Ee b.AV),Bd:=H7 b.Bd,tm:=b.tm.dropLast}) rfl sO (EE _ _) Av);refine⟨Q,u2,d,t,?_,by rw[e];exact j,by rw[e];exact VN,C.trans K⟩;have A:Ax (.len false) [t]=some (I 0):=by rw[lt,h0];rfl
  rw[Aj,eM,t36];simp only[abS,(GS w).Ag,z.Ag,Is,r2.Ag,xQ,H.Ag,E.Ag,l6,A,y.Ag,Yk]
 .have hpos:=FQ.2 h0;obtain⟨S,R,g⟩:=Bn.RK (w.t.1.ne h0) (k:= .i64) (n:=b.tm.length-1) Ab;rw[<-List.dropLast_eq_take] at g;obtain⟨M,y,f⟩:=ř (.inl g) Ew (put (put (put h bi 2 v) bi 2 u2) bi 3 d);have j:=i.yb f;obtain⟨P,N,L,J⟩:=e_ j (rm.sub (b':={b with AV:=D9 Ee (BK [BG]) (D9 DI Ee b.AV),Bd:=H7 b.Bd,tm:=b.tm.dropLast}) rfl sO (EE _ _) Av);refine⟨P,u2,d,M,?_,by rw[e];exact L,by rw[e];exact VN,(C.trans B7).trans J⟩;rw[Aj,eM,t36];simp only[abS,(GS w).Ag,z.Ag,Is,r2.Ag,xQ,H.Ag,E.Ag,l6,lt,(Ab:(0:Int)<(b.tm.length:Int)),Ln hpos (Ab:b.tm.length<9223372036854775807),R,y.Ag,i.st (k:=6) (v0:=t) rfl f.1.cells,N.Ag,Yk]
def aDD(w:BX h bi a o c t G b):∃h',Co cx 37 [Pt bi 0] h (.tuple []) h'/\BX h' bi a o c t G {b with stop:=true}/\Fv h (BB bi G) h' (BB bi G):=by refine⟨_,?_,w.put (k:=19) (v:= .bool true) rfl rfl w.o w.t,B7⟩;rw[Aj,th,t37];simp only[Cn,(GS w).Ag,w.st (k:=19) (v:=tt) rfl rfl]
def Ś(w:BX h bi a o c t G b)(rm:Cs b m):∃h' o',Co cx 40 [Pt bi 2] h (.agg b.uI.row) h'/\BX h' bi a o' c t G b.UE/\Fv h (BB bi G) h' (BB bi G):=by
 have ho:=rm.AV;have ld:Bk h none (Pt bi 2)=some o:=w.ld 2;have lo:=Bn.FL w.o;unfold BS.UE BS.uI;by_cases h2:b.AV.length<2;.refine⟨h,o,?_,by rw[Ad h2];exact w,.refl⟩;rw[Ad h2,Aj,XE,Ē];simp only[abS,↓reduceIte,Bl,(QY w.sA).Ag,(Ab:(b.AV.length:Int)<2)];rfl
 .obtain⟨u,e,hu⟩:=Bn.RK w.o (k:= .i64) (n:=b.AV.length-1) Ab;refine⟨_,u,?_,by rw[Ac h2];exact w.Nz hu,B7⟩;rw[Ac h2,Aj,XE,Ē];simp only[abS,↓reduceIte,Bl,Iq,(QY w.sA).Ag,(Ab:¬(b.AV.length:Int)<2),(f39 w.sA Ab).Ag,ld,lo,Ln (Ab:0<b.AV.length) (Ab:b.AV.length<9223372036854775807),e,w.st (k:=2) (v0:=o) rfl (Bn.cells hu)]
end
def P6{U:Type}(enc:U->List Aa)(Dr:U->Ah->Prop)(Z:U->Nat)(i:Nat)(HT:U->Ah->Prop)(s:U):Iw:=
 λx vs h1=>(x= .normal/\∃s',vs=enc s'/\Dr s' h1/\Z s'<Z s)\/(x= .exit i/\∃s',vs=enc s'/\HT s' h1)
def P6.next{U:Type}{enc:U->List Aa}{Dr HT:U->Ah->Prop}{Z:U->Nat}{i:Nat}{s:U}{vs:List Aa}{h:Ah}(s':U)(e:vs=enc s')(hi:Dr s' h)(hl:Z s'<Z s):P6 enc Dr Z i HT s .normal vs h:= .inl ⟨rfl,s',e,hi,hl⟩
def P6.HT{U:Type}{enc:U->List Aa}{Dr HT:U->Ah->Prop}{Z:U->Nat}{i:Nat}{s:U}{vs:List Aa}{h:Ah}(s':U)(e:vs=enc s')(hi:HT s' h):P6 enc Dr Z i HT s (.exit i) vs h:= .inr ⟨rfl,s',e,hi⟩
def Gu{C:Fo}{Q:Iw}{h:Ah}{U:Type}{key i:Nat}{init:List Aa}{body:List Aa->IT}{k:Fc->List Aa->IT}(enc:U->List Aa)(Dr:U->Ah->Prop)(Z:U->Nat)(HT:U->Ah->Prop)(s0:U)(h0:init=enc s0)(hi:Dr s0 h)
  (round:∀s h,Dr s h->W C (body (enc s)) (P6 enc Dr Z i HT s) h) (hk:∀s h,HT s h->W C (k (.exit i) (enc s)) Q h):W C (.loop key init body k) Q h:=by
 refine BF enc Dr Z s0 h0 hi λs h hs=>W.mono (round s h hs) ?_;rintro x vs h1 (hn|⟨rfl,s',rfl,hf⟩);.exact .inl hn
 .exact .inr ⟨Av,hk s' h1 hf⟩
def Q6{h:Ah}{id z:Nat}{Af:List (List Aa)}(hr:∀r∈Af,r.length=z)(hc:h[id]?=some (.cells Af.flatten)){i:Nat}(hi:i<Af.length):Bk h (some z) (Pt id (i*z))=some (.agg Af[i]):=by
 have hl:i*z+z<=Af.flatten.length:=by rw[FI hr];have:=DB z (Ab:i+1<=Af.length);rwa [Bp,DZ] at this
 simp only[Bk,hc,KX];rw[Ad hl,Hq hr,AB hi,Cy,Da (by rw[hr _ (AP hi)];exact Ae _),AT (by rw[hr _ (AP hi)];exact Ae _)]
section
variable{h h':Ah}{bi a:Nat}{o c t:Aa}{G G' F:Nat->Prop}{b b':BS}{x:Int}{m:Nat}
variable{nm:Au}{av:Aa}{l:List A0}{r:List Aa}{sp p:Int}
def xR(e:CM)(h:Ah):∃r,Co cx 86 [.agg e.row] h (.agg r) h/\Ve e.c.name e.v r:=by have hv:e.v.cells=[e.v]:=Bn.cells e.ok;refine⟨_,?_,I 2,ff,S [],ff,S [],ff,ff,ff,S [],.int .i32 0,rfl⟩;rw[Aj,vW,t86,CM.row];simp only[abS,Nat.reduceLeDiff,↓reduceIte,Bl,hv]
def Wl:∀{l:List Cv} {b:BS} {m:Nat},Cs b (m+4*l.length)->(∀e∈l,e.name.length<=1000/\FZ e.AE)->Cs (BS.JB l b).2 m
 |[],b,m,r,_=>by simpa[BS.JB] using r
 |e::l,b,m,r,hl=>by have h1:=hl e Av;rw[BS.JB];exact Wl (LZ (m:=m+4*l.length) (r.le Ew) h1.2 h1.1) λx hx=>hl x (by simp[hx])
def XX:b.MS<=b.Bd.length:=by unfold BS.MS;rcases DF (q:=b.settled) (l:=b.Bd) with⟨h,_⟩|⟨n,h1,h2,_⟩<;>omega
structure XY(h:Ah)(bi a:Nat)(t:Aa)(G0:Nat->Prop)(b:BS)(fs:List CM)(id m k:Nat)(h1:Ah):Prop where
 le:k<=fs.length
 low:b.MS<=k
 ex:∃(o:Aa) (G:Nat->Prop) (b1:BS) (Jr:List CM),BX h1 bi a o (.CI id 0 fs.length 3) t G b1/\EF b1/\Cs b1 (m+4*(fs.length-k))/\h1[id]?=some (.cells (Jr.map CM.row).flatten)/\Jr.length=fs.length/\Jr.drop k=fs.drop k/\
  BS.EJ b={(BS.JB (b.Bd.drop k) b1).2 with Bd:=(Jr.take k).map (·.c)++(BS.JB (b.Bd.drop k) b1).1}/\¬BB bi G id/\Fv h (BB bi G0) h1 (BB bi G)
def BX.XZ(w:BX h bi a o c t G {b with Bd:=b.Bd}):BX h bi a o c t G b:=w
def Ur{h1:Ah}{id:Nat}{v v':Aa}(ha:At h id 3 v)(hf:Lf h v=some (h1,v'))(he:h1[id]?=h[id]?):Kk h 3 (Pt id 0)=some (Am.put h1 id 3 v'):=by obtain⟨cs,hc,e⟩:=ha;rw[hc] at he;unfold Kk;simp only[hc,By,e,hf,BZ,he];rw[HD he]
def fc{v:Aa}{l:List CM}(hv:Er l v):Lf h v=some (h,v):=by rcases hv with rfl|⟨rfl,_⟩<;>rfl
def ś{v:Aa}(hv:Er [] v)(h:Ah):∃u,Co cx 85 [v] h u h/\Er [] u:=by
 have d:=Zm (h:=h) (s:= .sl 3 []) (b:=48) (.inr rfl) hv;rcases hv with rfl|⟨rfl,h0⟩
 .refine⟨.sl 3 [],?_,.mk⟩;rw[Aj,XF,ē];simp only[DJ] at d;simp only[Cn,DJ,show Ax (.Gb false .sl) [.sl 3 [],.slnil]=some (.bool false) from rfl,show Ax (.Cb 3) []=some (.sl 3 []) from rfl,d]
 .refine⟨.slnil,?_,.inr ⟨rfl,rfl⟩⟩;rw[Aj,XF,ē];simp only[Cn,show Ax (.Gb false .sl) [.slnil,.slnil]=some (.bool true) from rfl]
def XY.init(w:BX h bi a o c t G b)(ok:EF b)(rm:Cs b (m+4*b.Bd.length)){fs:List CM}(KQ:fs.map (·.c)=b.Bd):
  XY h bi a t G b fs h.length m b.MS (Am.put (h++[.cells (fs.map CM.row).flatten]) bi 3 (.CI h.length 0 fs.length 3)):=by
 have HI:b.Bd.length=fs.length:=by rw[<-KQ,As]
 have hk:=XX (b:=b);have hne:h.length≠bi:=Nat.ne_of_gt w.lt;refine⟨Ab,Ae _,o,G,b,fs,((w.Ja (u:=[.cells (fs.map CM.row).flatten])).Q4 (l:=b.Bd)).XZ,ok,rm.le Ab,?_,rfl,rfl,?_,?_,w.DG.trans B7⟩;.rw[CO hne];simp
 .unfold BS.EJ;simp only;rw[HW,KQ]
 .rintro(rfl|hg);.exact hne rfl
  .exact absurd (w.w.lt hg) (CX _)
def XY.step{fs:List CM}{id k:Nat}{h1:Ah}(KQ:fs.map (·.c)=b.Bd)(OY:∀e∈b.Bd,e.name.length<=1000/\FZ e.AE)(hi:h.length<=id)(hlt:k<fs.length)(i:XY h bi a t G b fs id m k h1):
  ∃(r:List Aa) (h2:Ah) (n:Int),Bk h1 none (Pt bi 3)=some (.CI id 0 fs.length 3)/\Bk h1 (some 3) (Pt id (k*3))=some (.agg fs[k].row)/\Co cx 86 [.agg fs[k].row] h1 (.agg r) h1/\Co cx 16 [Pt bi 0,.agg r] h1 (I n) h2/\Bk h2 none (Pt bi 3)=some (.CI id 0 fs.length 3)/\
   CK h2 1 (Pt id (k*3)) (I n)=some (Am.put h2 id (k*3) (I n))/\XY h bi a t G b fs id m (k+1) (Am.put h2 id (k*3) (I n)):=by
 obtain⟨C,D,b1,Jr,w1,qO,H_,UN,Yh,sj,fg,Qz,f⟩:=i.ex;have X0:k<Jr.length:=Ab;have HI:b.Bd.length=fs.length:=by rw[<-KQ,As]
 have Ŝ:k<b.Bd.length:=Ab;have g:Jr[k]=fs[k]:=by have:=B8 (λl=>l[0]?) sj;simp only[Ci,Bb] at this;rw[Ak X0,Ak hlt] at this;exact DC this
 have w:b.Bd[k]=fs[k].c:=by simp only[<-KQ,C3]
 have oz:=Q6 (R7 Jr) UN (i:=k) (by simpa using X0);rw[C3,g] at oz;have OY:=OY fs[k].c (by rw[<-w];exact AP Ŝ);obtain⟨r,z,hr⟩:=xR fs[k] h1;obtain⟨h2,A,y,r2,u,d⟩:=eo (m:=m+4*(fs.length-(k+1))) w1 qO.ba (H_.le Ab) hr fs[k].ok OY.2 OY.1;have zT:id<h1.length:=(Ai.1 UN).1;have JJ:h2[id]?=some (.cells (Jr.map CM.row).flatten):=by rw[d.old id zT Qz];exact UN
 have Ya:¬BB bi y id:=λhg=>by
  rcases d.BB id hg with hg|hg
  .exact Qz hg
  .omega
 have s:At h2 id (k*3) (I fs[k].c.node):=⟨_,JJ,by have:=L0 (k:=0) (R7 Jr) Br (i:=k) (r:=fs[k].row) (by rw[Cj,Ak X0,g];rfl);rw[Bb] at this;rw[this];rfl⟩
 let q:CM:=⟨{fs[k].c with node:=b1.a.len+1},fs[k].v,fs[k].ok⟩
 have hrow:(Jr.map CM.row).flatten.set (k*3) (I (b1.a.len+1))=((Jr.set k q).map CM.row).flatten:=by have:=Q1 (Af:=Jr.map CM.row) (i:=k) (k:=0) (v:= I (b1.a.len+1)) (R7 Jr) (by simpa using X0) Br;rw[Bb] at this;rw[F5,Cc,Ad (by rw[FI (R7 Jr),As];omega)];rw[AA] at this;rw[show q.row=((Jr.map CM.row)[k]'(by simpa using X0)).set 0 (I (b1.a.len+1)) by rw[C3,g];rfl];exact this
 have B:id≠bi:=λe=>Ya (.inl e);refine⟨r,h2,b1.a.len+1,w1.l3,oz,z,r2,u.l3,s.store rfl,⟨hlt,by have:=i.low;omega,A,y,_,Jr.set k q,u.El λj hj=>CO λe=>Ya (e▸hj),QW qO,LZ (m:=m+4*(fs.length-(k+1))) (H_.le Ab) OY.2 OY.1,?_,by rw[BJ];exact Yh,?_,?_,Ya,⟨by rw[KY];exact(f.trans d).len,λj hj hn=>(CO Ab).trans ((f.trans d).old j hj hn),(f.trans d).BB⟩⟩⟩;.rw[HD JJ,AJ (by have:=d.len;omega),hrow]
 .rw[aAY (Qh k)];have:=B8 (λl=>l.drop 1) sj;simpa[Eb] using this
 .rw[fg,AB Ŝ,w,BS.JB];simp only
  congr 1
  rw[AL (by rw[BJ];exact X0),List.getElem_set_self,BW,Vi (Ae k),AA];rfl
def aDE(w:BX h bi a o c t G b)(hc:Dc b.Bd c)(ok:EF b)(rm:Cs b (m+4*b.Bd.length)):
  ∃h' o' c' G',Co cx 32 [Pt bi 0] h (.tuple []) h'/\BX h' bi a o' c' t G' b.EJ/\Dc b.EJ.Bd c'/\Fv h (BB bi G) h' (BB bi G'):=by
 have ho:=rm.AV;have aQ:=rm.Bd;obtain⟨fs,KQ,hcs⟩:=hc;have HI:b.Bd.length=fs.length:=by rw[<-KQ,As]
 have Ng:Ev cx 32 [Pt bi 0] h λr h'=>r= .tuple []/\∃o' c' G',BX h' bi a o' c' t G' b.EJ/\Dc b.EJ.Bd c'/\Fv h (BB bi G) h' (BB bi G'):=by
  unfold Ev;have l3:=w.l3;have lc:=Bn.FL hcs;rw[tg,t32];simp only[abS,(GS w).Ag,l3,lc];refine Gu (i:=0) (λn:Nat=>[I (n:Int)]) (λn h1=>n<=fs.length/\AR b.settled b.Bd=AR b.settled (b.Bd.take n)/\h1=h) (λn=>n) (λn h1=>n=b.MS/\h1=h) fs.length rfl ⟨Ae _,by rw[<-HI,B6],rfl⟩ ?_ ?_
  .rintro n h1 ⟨hn,ha,rfl⟩;cases n with
   |zero=>simp only[abS,(Br:¬(0:Int)<((0:Nat):Int))];refine .HT 0 rfl ⟨?_,rfl⟩;unfold BS.MS;rw[ha];rfl
   |succ n=>
    have hlt:n<b.Bd.length:=Ab;have pE:n<fs.length:=Ab;rw[Mr hlt] at ha;have i1:=Ln (n:=n+1) (Ab:0<n+1) (Ab:n+1<9223372036854775807);rw[JY] at i1;have d:=Bn.Dw (k:= .i64) hcs pE;have N:fs[n].c.node=b.Bd[n].node:=by simp only[<-KQ,C3]
    have f:=U9 w.sA Ab b.Bd[n].node;have hK:b.settled b.Bd[n]=true->n+1=b.MS:=by intro hs;rw[Ad hs] at ha;unfold BS.MS;rw[ha];omega
    rw[CM.row,N] at d;simp only[abS,(Ab:(0:Int)<((n+1:Nat):Int)),l3,i1,d,f.Ag,Ct];refine⟨λh1=>⟨λh2=>?_,λh2=>?_⟩,λh1=>?_⟩
    .have hs:b.settled b.Bd[n]=false:=by unfold BS.settled;rw[A4];omega
     rw[Ac (by rw[hs];decide)] at ha;exact .next n rfl ⟨Ab,ha,rfl⟩ Ab
    .exact .HT (n+1) rfl ⟨hK (by unfold BS.settled;rw[AW];omega),rfl⟩
    .exact .HT (n+1) rfl ⟨hK (by unfold BS.settled;rw[AW];omega),rfl⟩
  .rintro n h1 ⟨rfl,O⟩;rw[O];by_cases hne:fs=[]
   .subst hne;have ha:b.Bd=[]:=KQ.symm;have hK:b.MS=0:=by have:=XX (b:=b);rw[ha] at this;exact Nat.le_zero.1 this
    have hb:b.EJ=b:=by unfold BS.EJ;rw[ha];simp only[List.drop_nil,BS.JB,List.take_nil,Bt];rw[<-ha]
    obtain⟨u,f,hu⟩:=ś hcs h;have w1:=(w.Q4 (u:=u) (l:=b.Bd)).XZ;have d:=Ur w1.xF (fc hu) rfl;have A:=Bn.FL hu;have s:=w1.l3;rw[Bq] at A;have hz:(b.MS:Int)=((0:Nat):Int):=by rw[hK]
    simp only[abS,l3,f.Ag,w.st (k:=3) (v0:=c) rfl (Bn.cells hu)];refine Gu (i:=2) (λn:Nat=>[I (n:Int)]) (λn h1=>n=0/\h1=Am.put h bi 3 u) (λn=>n) (λn h1=>n=0/\h1=Am.put h bi 3 u) 0 (by rw[hz]) ⟨rfl,rfl⟩ ?_ ?_;.rintro n h1 ⟨rfl,rfl⟩;simp only[abS,s,A,(Br:¬((0:Nat):Int)<((0:Nat):Int))];exact .HT 0 rfl ⟨rfl,rfl⟩
    .rintro n h1 ⟨rfl,rfl⟩;simp only[Cn,d];refine⟨_,rfl,rfl,o,u,G,?_,⟨[],by rw[hb,ha];rfl,hu⟩,B7.trans B7⟩;rw[hb];exact(w1.Q4 (l:=b.Bd)).XZ
   .have i0:=XY.init (m:=m) w ok rm KQ;have f:=xq (h:=h) hcs hne Ab;have w0:=w.Ja (u:=[.cells (fs.map CM.row).flatten]);simp only[abS,l3,f.Ag,w0.st (k:=3) (v:= .CI h.length 0 fs.length 3) (v0:=c) rfl rfl];refine Gu (i:=2) (λn:Nat=>[I (n:Int)]) (λk h1=>XY h bi a t G b fs h.length m k h1) (λk=>fs.length-k) (λk h1=>k=fs.length/\XY h bi a t G b fs h.length m k h1) b.MS rfl i0 ?_ ?_
    .intro k h1 i;have D0:=i.le;have B:Ax (.len false) [.CI h.length 0 fs.length 3]=some (I (fs.length:Int)):=rfl;rcases A8 k fs.length with hlt|GR
     .obtain⟨r,h2,n,M,L,K,J,H,E,D⟩:=XY.step KQ rm.Dn (Ae _) hlt i;have d:Ax (.ER 3) [.CI h.length 0 fs.length 3,I (k:Int)]=some (Pt h.length (k*3)):=E8 hlt;simp only[abS,M,B,(Ab:(k:Int)<(fs.length:Int)),d,L,K.Ag,C5,J.Ag,H,E,Cu (Ab:k<9223372036854775807)];exact .next (k+1) rfl D Ab
     .obtain⟨q,z,b1,Jr,w1,_⟩:=i.ex;simp only[abS,w1.l3,B,(Ab:¬(k:Int)<(fs.length:Int))];exact .HT k rfl ⟨Ab,i⟩
    .rintro k h1 ⟨rfl,i⟩;obtain⟨q,z,b1,Jr,w1,qO,H_,UN,Yh,sj,fg,Qz,g⟩:=i.ex;have hf:=QJ (R7 Jr) UN;rw[As,Yh] at hf;have y:h.length≠bi:=λe=>Qz (.inl e);have d:=Ur w1.xF hf (by rw[Ao y]);have C:BX (h1.set h.length .DD) bi a q _ t z b1:=w1.El λj hj=>Ao λe=>Qz (by rw[e];exact hj);simp only[Cn,d];have hb:b.EJ={b1 with Bd:=Jr.map (·.c)}:=by rw[fg,A6 Ab,AT Ab];simp only[BS.JB,Bi]
     refine⟨_,rfl,rfl,q,_,z,by rw[hb];exact C.Q4,⟨Jr,by rw[hb],.mk⟩,?_⟩;refine Fv.trans ⟨by rw[BJ];exact g.len,λj hj hn=>?_,g.BB⟩ B7;rw[Ao Ab];exact g.old j hj hn
 obtain⟨r,h',hr,rfl,o',c',G',w',QD,x'⟩:=Ng.ret;exact⟨h',o',c',G',hr,w',QD,x'⟩
end
def fh{id l k:Nat}(hl:0<l)(hk:k<=l):Ax (.Qo 3 false false true) [.CI id 0 l 3,I (k:Int)]=some (.CI id 0 k 3):=by
 have d:Fq (k:Int) l=some k:=by unfold Fq;rw[Ad Ab];rfl
 simp[Ax,J3,DO,d];omega
def fj{id l k:Nat}(hk:k<=l):Ax (.Qo 3 false true false) [.CI id 0 l 3,I (k:Int)]=some (if k<l then .CI id (k*3) (l-k) 3 else .sl 3 []):=by
 have d:Fq (k:Int) l=some k:=by unfold Fq;rw[Ad Ab];rfl
 simp[Ax,J3,DO,d];split<;>rfl
def Ia{U:Type}{l:List U}{k:Nat}(hk:k<l.length):(Bm l k).length=l.length-1:=by unfold Bm;rw[Ap,Aw,A5];omega
def ŝ{h:Ah}{id k:Nat}{Af:List (List Aa)}(hr:∀r∈Af,r.length=3)(hc:h[id]?=some (.cells Af.flatten))(hk:k<Af.length)(hb:Af.length<=1000000000):
  ∃FU,Co cx 169 [.CI id 0 Af.length 3,I (k:Int),I ((k+1:Nat):Int)] h (.CI id 0 (Af.length-1) 3) (h.set id (.cells ((Bm Af k).flatten++FU))):=by
 have Hn:=(Ai.1 hc).1;have jr:=Ia hk;have Yl:=FI hr;have s:∀r∈Bm Af k,r.length=3:=λr hm=>hr r (by
  unfold Bm at hm;rcases An.1 hm with hm|hm
  .exact AS hm
  .exact Bc hm)
 have gQ:=FI s;rw[jr] at gQ;have Ro:(Af.take k).flatten=Af.flatten.take (k*3):=(V0 hr).symm;have ou:(Af.drop (k+1)).flatten=Af.flatten.drop ((k+1)*3):=(Hq hr).symm;obtain⟨Pv,v,hcl⟩:∃Pv,ET h 3 48 (.CI id 0 k 3) (if k+1<Af.length then .CI id ((k+1)*3) (Af.length-(k+1)) 3 else .sl 3 [])=some (h.set id (.cells ((Bm Af k).flatten++Pv)),.CI id 0 (Af.length-1) 3)/\Pv.length=3:=by
  have f:Gc h 3 (if k+1<Af.length then .CI id ((k+1)*3) (Af.length-(k+1)) 3 else .sl 3 [])=some (Af.drop (k+1)):=by
   by_cases Vw:k+1<Af.length;.rw[Ad Vw];have j:=V4 hr (n:=Af.length-(k+1)) (off:=k+1) Ab;rw[AT (by rw[A5];exact Ae _)] at j;simp only[Gc,BE,hc,j];rw[Ad (by rw[Yl];omega)]
   .rw[Ac Vw,A6 Ab];rfl
  by_cases ĺ:k+1=Af.length
  .refine⟨Af.flatten.drop (k*3),?_,by rw[A5,Yl];omega⟩;have g:Af.drop (k+1)=[]:=A6 Ab;rw[g] at f;have u:(Bm Af k).flatten++Af.flatten.drop (k*3)=Af.flatten:=by unfold Bm;rw[g,Bi,Ro,Cd]
   have A:h.set id (.cells ((Bm Af k).flatten++Af.flatten.drop (k*3)))=h:=by rw[u];obtain⟨Yi,z⟩:=Ai.1 hc;rw[<-z,Ic]
   simp only[ET,f,BE];rw[A,(Ab:Af.length-1=k)]
  .obtain⟨y,q,hd⟩:∃y q,Af.drop (k+1)=y::q:=⟨_,_,AB (Ab:k+1<Af.length)⟩;have lU:(y::q).length=Af.length-(k+1):=by rw[<-hd,A5]
   refine⟨Af.flatten.drop ((Af.length-1)*3),?_,by rw[A5,Yl];omega⟩;rw[hd] at f;simp only[ET,f,hc,BE];rw[lU,Ad (by rw[Yl];omega)];rw[<-hd,ou,By,By,(Ab:k+(Af.length-(k+1))=Af.length-1)];unfold Bm;rw[Jh,Ro,ou]
 generalize kz:h.set id (.cells ((Bm Af k).flatten++Pv))=h2 at v;have JJ:h2[id]?=some (.cells ((Bm Af k).flatten++Pv)):=by rw[<-kz];exact AJ Hn
 have fE:((Bm Af k).flatten++Pv).length=Af.length*3:=by rw[Ap,gQ,hcl];omega
 have g:D2 (.mD 3 true true) h2 [.CI id 0 (Af.length-1) 3,I ((Af.length-1:Nat):Int),I (Af.length:Int)]=some (h2,.CI id ((Af.length-1)*3) 1 3):=by
  simp only[D2,Yr,JJ];have B:Fq (Af.length:Int) ((((Bm Af k).flatten++Pv).length-0)/3)=some Af.length:=by unfold Fq;rw[Ad (by rw[fE];omega)];rfl
  have j:Fq ((Af.length-1:Nat):Int) Af.length=some (Af.length-1):=by unfold Fq;rw[Ad Ab];rfl
  rw[Ad ⟨trivial,trivial,AZ _⟩];simp only[DO,B,j,BZ,BO];rw[Ad (by rw[fE];omega)];congr 3
  .omega
  .omega
 have w:D2 (.clear 3 [I 0,S [],.slnil]) h2 [.CI id ((Af.length-1)*3) 1 3]=some (h.set id (.cells ((Bm Af k).flatten++[I 0,S [],.slnil])),.bool true):=by
  simp only[D2,SF,JJ];rw[Ad ⟨trivial,rfl,by rw[fE];omega⟩];congr 2
  rw[<-kz,za];congr 2
  rw[HR gQ,A6 (by rw[fE];omega)];simp
 refine⟨[I 0,S [],.slnil],?_⟩;have d:∀i n,Ax (.len false) [.CI i 0 n 3]=some (I (n:Int)):=λ_ _=>rfl;have u:D2 (.aY 3) h [.CI id 0 Af.length 3,I (k:Int),I ((k+1:Nat):Int),I (Af.length:Int)]=some (h,.bool true):=by simp only[D2,SG];simp;omega
 rw[Aj,kZ,wq];simp only[abS,d,u,(Ab:¬(k:Int)=((k+1:Nat):Int)),fh (id:=id) (Ab:0<Af.length) (Ab:k<=Af.length),fj (id:=id) (Ab:k+1<=Af.length),v,g,w]
def P7{z:Nat}:∀{Af:List (List Aa)} {cs pre:List Aa},(∀r∈Af,r.length=z)->Cf (pre++(Af.flatten++cs)) z pre.length Af.length=Af
 |[],_,_,_=>rfl
 |x::Af,cs,pre,h=>by have hx:=h x Av;have:=P7 (Af:=Af) (cs:=cs) (pre:=pre++x) (λr hr=>h r (by simp[hr]));simp only[AA,Ap,hx] at this;simp only[Cy,AO,Cf,AA];rw[JK rfl,HR hx,this]
def fK{h:Ah}{id z:Nat}{Af:List (List Aa)}{cs:List Aa}(hr:∀r∈Af,r.length=z)(hc:h[id]?=some (.cells (Af.flatten++cs))):Lf h (.CI id 0 Af.length z)=some (h.set id .DD,.sl z Af):=by unfold Lf;simp only[hc,By];have:=P7 (cs:=cs) (pre:=[]) hr;simp only[Bt,Bq] at this;rw[Ad (by rw[Ap,FI hr];omega),this]
def EP(e:CM)(at_ mk:Int)(anc far:Item)(last:Int):List Aa:=
 [I e.c.node,.str e.c.name,e.v,I at_,I mk,I anc.node,I anc.AY,.str anc.name,.bool anc.MJ,I far.node,I far.AY,.str far.name,.bool far.MJ,I last]
def KN(ai bi:Nat)(G:Nat->Prop):Nat->Prop:=λi=>i=ai\/BB bi G i
section
variable{h h':Ah}{bi a ai:Nat}{o c t:Aa}{G G' F:Nat->Prop}{b b':BS}{x:Int}{m:Nat}
variable{nm:Au}{av:Aa}{l:List A0}{r:List Aa}{sp p:Int}{e:CM}{at_ mk last:Int}{anc far:Item}
def Ea(x:Fv h (BB bi G) h' (BB bi G'))(ai:Nat):Fv h (KN ai bi G) h' (KN ai bi G'):=
 ⟨x.len,λi hi hn=>x.old i hi λhg=>hn (.inr hg),λi hi=>by
  rcases hi with hi|hi
  .exact .inl (.inl hi)
  .rcases x.BB i hi with h|h
   .exact .inl (.inr h)
   .exact .inr h⟩
def NA{k:Nat}{v:Aa}:Fv h (Am.KN ai bi G) (put h ai k v) (Am.KN ai bi G):=⟨by rw[KY];exact Ae _,λi _ hn=>CO λe=>hn (.inl e),λ_ h=> .inl h⟩
def Jf{id k:Nat}{v:Aa}{cs:List Aa}(hc:h[id]?=some (.cells cs)):(put h id k v)[id]?=some (.cells (cs.set k v)):=by rw[HD hc,AJ (Ai.1 hc).1]
def down(k:Nat)(x:Int):Int:=if(k:Int)<x then x-1 else x
def lZ(w:BX h bi a o c t G b)(hc:Dc b.Bd c)(rm:Cs b m)(ha:h[ai]?=some (.cells (EP e at_ mk anc far last)))(hn:¬BB bi G ai){k:Nat}(hk:k<b.Bd.length)(h1:0<=at_/\at_<=1000000000)(h2:0<=mk/\mk<=1000000000):
  ∃h' c',Co cx 126 [Pt ai 0,Pt bi 0,I (k:Int)] h (.tuple []) h'/\BX h' bi a o c' t G {b with Bd:=Bm b.Bd k}/\Dc (Bm b.Bd k) c'/\h'[ai]?=some (.cells (EP e (down k at_) (down k mk) anc far last))/\Fv h (KN ai bi G) h' (KN ai bi G):=by
 obtain⟨fs,KQ,hcs⟩:=hc;have aQ:=rm.Bd;have HI:b.Bd.length=fs.length:=by rw[<-KQ,As]
 have hne:fs≠[]:=by intro e;rw[HI,e] at hk;exact absurd hk (Nat.not_lt_zero _)
 have fL:ai≠bi:=λe=>hn (.inl e);have I_:ai<h.length:=(Ai.1 ha).1;have A:=xq (h:=h) hcs hne Ab;have hX:(h++[DH.cells (fs.map CM.row).flatten])[h.length]?=some (.cells (fs.map CM.row).flatten):=Av;obtain⟨FU,r2⟩:=ŝ (R7 fs) hX (k:=k) Ew Ew;rw[As] at r2;have e2:(h++[DH.cells (fs.map CM.row).flatten]).set h.length (.cells ((Bm (fs.map CM.row) k).flatten++FU))=h++[.cells ((Bm (fs.map CM.row) k).flatten++FU)]:=by rw[Ce _ _ (Ae _),DL];rfl
 rw[e2] at r2;generalize y:h++[DH.cells ((Bm (fs.map CM.row) k).flatten++FU)]=H at r2;have w1:BX H bi a o c t G b:=by rw[<-y];exact w.Ja
 have sW:H[ai]?=some (.cells (EP e at_ mk anc far last)):=by rw[<-y,Al I_];exact ha
 have O:H[h.length]?=some (.cells ((Bm (fs.map CM.row) k).flatten++FU)):=by rw[<-y];simp
 have hL:H.length=h.length+1:=by rw[<-y];simp
 have X:Fv h (KN ai bi G) H (KN ai bi G):=by rw[<-y];exact Ea w.DG ai
 have ò:bi≠h.length:=MU w.lt;have WJ:ai≠h.length:=MU I_;have z:=w1.st (k:=3) (v:= .CI h.length 0 (fs.length-1) 3) (v0:=c) rfl rfl;have w2:=w1.Q4 (u:= .CI h.length 0 (fs.length-1) 3) (l:=b.Bd);have Pw:(put H bi 3 (.CI h.length 0 (fs.length-1) 3))[ai]?=some (.cells (EP e at_ mk anc far last)):=by rw[CO fL];exact sW
 have N:(put H bi 3 (.CI h.length 0 (fs.length-1) 3))[h.length]?=some (.cells ((Bm (fs.map CM.row) k).flatten++FU)):=by rw[CO (DK ò)];exact O
 have W:Fv h (KN ai bi G) (put H bi 3 (.CI h.length 0 (fs.length-1) 3)) (KN ai bi G):=X.trans (Ea B7 ai);generalize P:put H bi 3 (.CI h.length 0 (fs.length-1) 3)=f at*;have hL2:f.length=h.length+1:=by rw[<-P,KY,hL]
 have t3:At f ai 3 (I at_):=⟨_,Pw,rfl⟩;have tC:=Jf (k:=3) (v:= I (down k at_)) Pw;have C:put f ai 3 (I (down k at_))=if(k:Int)<at_ then put f ai 3 (I (at_-1)) else f:=by
  unfold down;split;.rfl
  .exact t3.same
 have Z:BX (put f ai 3 (I (down k at_))) bi a o _ t G _:=w2.El λj hj=>CO λe=>hn (e▸hj);have M:(put f ai 3 (I (down k at_)))[h.length]?=_:=(CO (DK WJ)).trans N;have V:=W.trans (NA (k:=3) (v:= I (down k at_)));generalize hH3:put f ai 3 (I (down k at_))=d at*;have t4:At d ai 4 (I mk):=⟨_,tC,rfl⟩;have K:=Jf (k:=4) (v:= I (down k mk)) tC;have q:put d ai 4 (I (down k mk))=if(k:Int)<mk then put d ai 4 (I (mk-1)) else d:=by
  unfold down;split;.rfl
  .exact t4.same
 have R:BX (put d ai 4 (I (down k mk))) bi a o _ t G _:=Z.El λj hj=>CO λe=>hn (e▸hj);have L:(put d ai 4 (I (down k mk)))[h.length]?=_:=(CO (DK WJ)).trans M;have D:=V.trans (NA (k:=4) (v:= I (down k mk)));generalize hH4:put d ai 4 (I (down k mk))=Q at*;have J:∀r∈Bm (fs.map CM.row) k,r.length=3:=λr hm=>R7 fs r (by
  unfold Bm at hm;rcases An.1 hm with hm|hm
  .exact AS hm
  .exact Bc hm)
 have f4:=fK J L;rw[Ia Ew,As] at f4;have B:=Ur R.xF f4 (by rw[Ao (DK ò)]);have Y:BX (Q.set h.length .DD) bi a o _ t G {b with Bd:=b.Bd}:=R.El λj hj=>Ao λe=>by
  subst e;rcases hj with hj|hj
  .exact ò hj.symm
  .exact absurd (w.w.lt hj) (CX _)
 have ed:Bm (fs.map CM.row) k=(Bm fs k).map CM.row:=by unfold Bm;rw[BW,HW,Lw]
 have ec:(Bm fs k).map (·.c)=Bm b.Bd k:=by unfold Bm;rw[BW,HW,Lw,KQ]
 refine⟨_,.sl 3 (Bm (fs.map CM.row) k),?_,Y.Q4 (l:=Bm b.Bd k),⟨Bm fs k,ec,by rw[ed];exact .mk⟩,?_,?_⟩
 .have i:Bk f none (Pt ai 3)=some (I at_):=t3.load;have g:Bk d none (Pt ai 4)=some (I mk):=t4.load;have inc:=Cu (Ab:k<9223372036854775807);have U:=D7 (Ab: -9223372036854775808<=at_-1) (Ab:at_-1<9223372036854775808);have T:=D7 (Ab: -9223372036854775808<=mk-1) (Ab:mk-1<9223372036854775808);rw[Aj,jU,vg];by_cases s:(k:Int)<at_
  .rw[Ad s] at C;have S:CK f 1 (Pt ai 3) (I (at_-1))=some d:=by rw[C];exact t3.store rfl
   by_cases n:(k:Int)<mk
   .rw[Ad n] at q;have E:CK d 1 (Pt ai 4) (I (mk-1))=some Q:=by rw[q];exact t4.store rfl
    simp only[abS,w.l3,A.Ag,inc,r2.Ag,z,i,s,U,S,g,n,T,E,B]
   .rw[Ac n] at q;subst q;simp only[abS,w.l3,A.Ag,inc,r2.Ag,z,i,s,U,S,g,n,B]
  .rw[Ac s] at C;subst C;by_cases n:(k:Int)<mk
   .rw[Ad n] at q;have E:CK d 1 (Pt ai 4) (I (mk-1))=some Q:=by rw[q];exact t4.store rfl
    simp only[abS,w.l3,A.Ag,inc,r2.Ag,z,i,s,g,n,T,E,B]
   .rw[Ac n] at q;subst q;simp only[abS,w.l3,A.Ag,inc,r2.Ag,z,i,s,g,n,B]
 .rw[CO fL,Ao (DK WJ),K];rfl
 .refine Fv.trans ⟨by rw[BJ];exact D.len,λj hj hn=>?_,D.BB⟩ (Ea B7 ai);rw[Ao Ab];exact D.old j hj hn
end
section
variable{U:Type}{q:U->Bool}{l:List U}
def KE{p:Nat}(hp:p<l.length)(h1:q l[p]=true)(h2:∀j (hj:j<l.length),p<j->q l[j]=false):AR q l=(p:Int):=by
 rcases DF (q:=q) (l:=l) with⟨e,h⟩|⟨n,hn,e,h3,d⟩
 .rw[h _ (AP hp)] at h1;exact absurd h1 Br
 .rcases aHc n p with h|h|h
  .have:=d p hp h;rw[this] at h1;exact absurd h1 Br
  .rw[e,h]
  .have:=h2 n hn h;rw[this] at h3;exact absurd h3 Br
def JF{p:Nat}(e:AR q l=(p:Int)):∃hp:p<l.length,q l[p]=true/\∀j (hj:j<l.length),p<j->q l[j]=false:=by
 rcases DF (q:=q) (l:=l) with⟨f,h⟩|⟨n,hn,f,h3,d⟩
 .omega
 .have:n=p:=by omega
  subst this;exact⟨hn,h3,λj hj h=>d j hj h⟩
def ZZ{k j:Nat}(hk:k<l.length):(Bm l k)[j]?=if j<k then l[j]? else l[j+1]?:=by
 unfold Bm;by_cases h:j<k;.rw[Ad h,Al (by rw[Aw];omega),B2,Ad h]
 .rw[Ac h,BD (by rw[Aw];omega),Ci];congr 1
  rw[Aw];omega
def MA{k j:Nat}(hk:k<l.length)(hj:j<(Bm l k).length):(Bm l k)[j]=if h:j<k then l[j]'(by omega) else l[j+1]'(by rw[Ia hk] at hj;omega):=by
 have hl:=Ia hk;have:=ZZ (j:=j) hk;rw[Ak hj] at this;by_cases h:j<k;.rw[aH h];rw[Ad h,Ak Ab] at this;exact DC this
 .rw[dif_neg h];rw[Ac h,Ak Ab] at this;exact DC this
def X1{p k:Nat}(e:AR q l=(p:Int))(hk:k<l.length)(hne:k≠p):AR q (Bm l k)=down k p:=by
 obtain⟨hp,h1,h2⟩:=JF e;have hl:=Ia hk;unfold down;by_cases d:k<p
 .rw[Ad Ab,(Ab:(p:Int)-1=((p-1:Nat):Int))];refine KE Ab ?_ ?_;.rw[MA hk,dif_neg Ab];have:p-1+1=p:=Ab;simp only[this,h1]
  .intro j hj h;rw[MA hk,dif_neg Ab];exact h2 _ _ Ab
 .rw[Ac Ab];refine KE Ab ?_ ?_;.rw[MA hk,aH Ab];exact h1
  .intro j hj h;rw[MA hk];split;.exact h2 _ _ h
   .exact h2 _ _ Ab
def Z0{p k:Nat}{x:U}(e:AR q l=(p:Int))(hne:k≠p)(hx:q x=false):AR q (l.set k x)=(p:Int):=by
 obtain⟨hp,h1,h2⟩:=JF e;refine KE (by rw[BJ];exact hp) ?_ ?_;.rw[List.getElem_set_ne hne];exact h1
 .intro j hj h;rw[List.getElem_set];split;.exact hx
  .rw[BJ] at hj;exact h2 j hj h
end
def X2{l:List Item}(hn:(l.map Item.node).Nodup){i:Nat}(hi:i<l.length):AR (BL l[i].node) l=(i:Int):=by
 refine KE hi (by simp[BL]) λj hj h=>?_;by_cases he:l[i].node=l[j].node
 .have h2:(l.map Item.node)[i]'(by simpa using hi)=(l.map Item.node)[j]'(by simpa using hj):=by simpa using he
  exact absurd h2 (I1.1 hn i j (by simpa using hi) (by simpa using hj) h)
 .unfold BL;simpa using λe=>he e.symm
def JG{n:Int}{l:List Cv}(h:0<=F7 n l):∃p:Nat,∃hp:p<l.length,F7 n l=(p:Int)/\n≠0/\l[p].node=n/\AR (T3 n) l=(p:Int):=by
 unfold F7 at h⊢;split at h;.omega
 .rename_i h0;rw[Ac h0];obtain⟨p,hp⟩:∃p:Nat,AR (T3 n) l=(p:Int):=⟨_,(Jj h).symm⟩;obtain⟨h1,h2,_⟩:=JF hp;exact⟨p,h1,hp,h0,by simpa[T3] using h2,hp⟩
def pM{n:Int}{l:List Cv}{k:Nat}(h:0<=F7 n l)(hk:k<l.length)(hne:l[k].node≠n):F7 n (Bm l k)=down k (F7 n l):=by obtain⟨p,hp,e,h0,h1,h2⟩:=JG h;rw[e,<-X1 h2 hk (by rintro rfl;exact hne h1)];unfold F7;rw[Ac h0]
def xS{n:Int}{l:List Cv}{k:Nat}{x:Cv}(h:0<=F7 n l)(hk:k<l.length)(hne:l[k].node≠n)(hx:x.node≠n):F7 n (l.set k x)=F7 n l:=by obtain⟨p,hp,e,h0,h1,h2⟩:=JG h;rw[e,<-Z0 (x:=x) (k:=k) h2 (by rintro rfl;exact hne h1) (by simp[T3];exact hx)];unfold F7;rw[Ac h0]
def pO{n:Int}{l:List Cv}(hn:((l.map Cv.node).filter λn=>decide (n≠0)).Nodup)(h:0<=F7 n l):F7 n (Bm l (F7 n l).toNat)<0:=by
 obtain⟨p,hp,e,h0,h1,h2⟩:=JG h;rw[e,Bz];refine Int.not_le.1 λh3=>?_;obtain⟨g,f,i,_,d,_⟩:=JG h3;have:l=l.take p++l[p]::l.drop (p+1):=by rw[<-AB hp,Cd]
 rw[this,BW,Be,Eh,F8,Ad (by simpa[h1] using h0),BH,BC] at hn;have hm:=AP f;generalize(Bm l p)[g]=y at hm d;unfold Bm at hm;rcases An.1 hm with hm|hm
 .exact hn.2.2 y.node (CU.2 ⟨Vn hm,by simpa[d] using h0⟩) l[p].node Av (by rw[d,h1])
 .exact hn.2.1.1 (CU.2 ⟨by rw[h1,<-d];exact Vn hm,by simpa[h1] using h0⟩)
section
variable{h h':Ah}{bi a ai:Nat}{o c t:Aa}{G G' F:Nat->Prop}{b b':BS}{x:Int}{m:Nat}
variable{nm:Au}{av:Aa}{l:List A0}{r:List Aa}{sp p:Int}{e:CM}{at_ mk last:Int}{anc far:Item}
def Us{blk anc:Int}{far i:Nat}{l:Int}{mk m:Nat}(r:Cs b (m+4)):Cs (BS.Gj blk anc far i b l mk).1 m:=by
 unfold BS.Gj;simp only
 split;.exact(r.le Ab).sub rfl CN (AI _) (Ae _)
 .split;.exact(r.le Ab).sub rfl CN CN (Ae _)
  .rename_i he _;obtain⟨p,hp,f,_,_,_⟩:=JG (Rd.1 he);rw[f,Bz,Ay,Ak hp,Lt];have OY:=r.Dn _ (AP hp);have d:=Kb (m:=m+1) (nm:=b.Bd[p].name) (l:=b.Bd[p].AE) (sp:=1) (p:=anc) (r.le Ab) OY.2;have r2:=(d.le (m':=m) Ab).Ka (Ki (p:=(b.II b.Bd[p].name b.Bd[p].AE 1).node) (x:=l) (bf:=0));refine⟨r2.n,r2.at_,r2.data,by simp only[BJ];exact r2.AV,by simp only[BJ];exact r2.Bd,r2.tm,λe he=>?_,λi hi=>?_⟩
   .rcases Db he with he|rfl
    .exact r2.Dn e he
    .exact OY
   .rcases Db hi with hi|rfl
    .exact r2.ZL i hi
    .exact Nx OY.1
end
def Q7{A:Ar}{x p bf:Int}(h:(A.nd p).kind=4):A.Hc x p bf=A.HP p x bf:=by unfold Ar.Hc;rw[Ac (by rw[h];intro h;exact absurd h.1 Br)]
section
variable{h h':Ah}{bi a ai:Nat}{o c t:Aa}{G G' F:Nat->Prop}{b b':BS}{x:Int}{m:Nat}
variable{nm:Au}{av:Aa}{l:List A0}{r:List Aa}{sp p:Int}{e:CM}{at_ mk last:Int}{anc far:Item}
def Dc.at(hc:Dc b.Bd c)(w:BX h bi a o c t G b)(rm:Cs b m)(n:Int):Co cx 70 [Pt bi 3,I n] h (I (F7 n b.Bd)) h:=by obtain⟨fs,KQ,hv⟩:=hc;have ha:=rm.Bd;have:=f41 w.xF hv (by rw[<-KQ,As] at ha;omega) n;rwa [ZV,KQ] at this
structure Z3(h:Ah)(bi a ai:Nat)(t:Aa)(G0:Nat->Prop)(fe:CM)(anc far:Item)(k N m:Nat)(s0:BS×Int×Nat)(n:Nat)(h1:Ah)(o c:Aa)(G:Nat->Prop)(s:BS×Int×Nat):Prop where
 le:n<=N
 w:BX h1 bi a o c t G s.1
 hc:Dc s.1.Bd c
 ok:EF s.1
 rm:Cs s.1 (m+4*n)
 last:s.1.a.has s.2.1
 st:h1[ai]?=some (.cells (EP fe (F7 fe.c.node s.1.Bd) (s.2.2:Int) anc far s.2.1))
 hn:¬BB bi G ai
 x:Fv h (KN ai bi G0) h1 (KN ai bi G)
 nN:0<=F7 fe.c.node s.1.Bd
 Ş:s.2.2<=1000000000
 AV:s.1.AV.take (k+n+1)=s0.1.AV.take (k+n+1)
 len:k+n+1<=s.1.AV.length
 eq:BS.Lq far.node anc.node (k+1+N) k N s0=BS.Lq far.node anc.node (k+1+N) k n s
 fe:s.1.a.has fe.c.node
def pP{blk anc:Int}{far i:Nat}{l:Int}{mk:Nat}(hi:i<b.AV.length):(BS.Gj blk anc far i b l mk).1.AV.take i=b.AV.take i/\i<=(BS.Gj blk anc far i b l mk).1.AV.length:=by
 have h1:(Bm b.AV i).take i=b.AV.take i/\i<=(Bm b.AV i).length:=by refine⟨?_,by rw[Ia hi];omega⟩;unfold Bm;rw[Da (by rw[Aw];omega),Gk,Nat.min_self]
 unfold BS.Gj;simp only
 split;.exact h1
 .split;.exact h1
  .have Og:∀nm l p,(b.E1 nm l 1 p).AV=b.AV:=λnm l p=>by unfold BS.E1;rw[Ad KM]
   simp only[Og];exact⟨Vi (Ae i),by rw[BJ];omega⟩
def Z3.step{h1 h2:Ah}{C D A z:Aa}{B u:Nat->Prop}{fe:CM}{k N n:Nat}{s0 s s':BS×Int×Nat}(i:Z3 h bi a ai t G fe anc far k N m s0 (n+1) h1 C D B s)(e:s'=BS.Gj far.node anc.node (k+1+N) (k+(n+1)) s.1 s.2.1 s.2.2)
  (w:BX h2 bi a A z t u s'.1) (hc:Dc s'.1.Bd z) (st:h2[ai]?=some (.cells (EP fe (F7 fe.c.node s'.1.Bd) (s'.2.2:Int) anc far s'.2.1))) (hn:¬BB bi u ai) (x:Fv h1 (KN ai bi B) h2 (KN ai bi u)) (nN:0<=F7 fe.c.node s'.1.Bd) (mk:s'.2.2<=1000000000):
  Z3 h bi a ai t G fe anc far k N m s0 n h2 A z u s':=by
 obtain⟨g,last',j⟩:=ZJ (blk:=far.node) (anc:=anc.node) (far:=k+1+N) (i:=k+(n+1)) (m:=s.2.2) i.ok i.last;have hl:=i.len;obtain⟨f,v⟩:=pP (blk:=far.node) (anc:=anc.node) (far:=k+1+N) (i:=k+(n+1)) (l:=s.2.1) (mk:=s.2.2) (b:=s.1) Ab;have d:=Us (blk:=far.node) (anc:=anc.node) (far:=k+1+N) (i:=k+(n+1)) (l:=s.2.1) (mk:=s.2.2) (m:=m+4*n) (i.rm.le Ab);have Og:=i.AV;have y:BS.Lq far.node anc.node (k+1+N) k (n+1) s=BS.Lq far.node anc.node (k+1+N) k n (BS.Gj far.node anc.node (k+1+N) (k+(n+1)) s.1 s.2.1 s.2.2):=rfl;have q:=i.eq.trans y;rw[<-e] at g last' j f v d q;refine⟨by have:=i.le;omega,w,hc,g,d,last',st,hn,i.x.trans x,nN,mk,?_,Ab,q,j.has _ i.fe⟩;have:=B8 (λl=>l.take (k+(n+1))) Og;simp only[Gk] at this;rw[(Ab:k+n+1=k+(n+1)),f];rwa [Cr Ab] at this
def ş{fe:CM}{k N:Nat}{s0:BS×Int×Nat}(i0:Z3 h bi a ai t G fe anc far k N m s0 N h o c G s0)(SX:1<=k)(Vw:AR (BL fe.c.node) s0.1.AV=(k:Int))(hN:k+1+N<s0.1.AV.length):
  ∃h' o' c' G' s',Co cx 129 [Pt bi 0,Pt ai 0,I (k:Int),I ((k+1+N:Nat):Int)] h (.tuple []) h'/\s'=BS.Lq far.node anc.node (k+1+N) k N s0/\Z3 h bi a ai t G fe anc far k N m s0 0 h' o' c' G' s':=by
 have ho:=i0.rm.AV;have Ng:Ev cx 129 [Pt bi 0,Pt ai 0,I (k:Int),I ((k+1+N:Nat):Int)] h λr h'=>r= .tuple []/\∃o' c' G' s',s'=BS.Lq far.node anc.node (k+1+N) k N s0/\Z3 h bi a ai t G fe anc far k N m s0 0 h' o' c' G' s':=by
  unfold Ev;rw[jX,vi];have i1:=D7 (a:=((k+1+N:Nat):Int)) (b:=1) Ab Ab;rw[(Ab:((k+1+N:Nat):Int)-1=((k+N:Nat):Int))] at i1;simp only[Cn,i1];refine BF (λn:Nat=>[I ((N-n:Nat):Int),I ((k+n:Nat):Int)]) (λn h1=>∃o c G1 s,Z3 h bi a ai t G fe anc far k N m s0 n h1 o c G1 s) (λn=>n) N (by rw[DL];rfl) ⟨o,c,_,s0,i0⟩ ?_;rintro n h1 ⟨o1,c1,G1,s,i⟩;cases n with
  |zero=>simp only[abS,↓reduceIte,(Ab:¬(k:Int)<(k:Int))];exact⟨_,rfl,rfl,o1,c1,G1,s,i.eq.symm,i⟩
  |succ n=>
   have hnN:=i.le;have hlen:=i.len;have z:k+(n+1)<s.1.AV.length:=Ab;have hwo:=i.rm.AV;have hwa:=i.rm.Bd;have fL:ai≠bi:=λe=>i.hn (.inl e);have I_:ai<h1.length:=(Ai.1 i.st).1;have H:=QZ i.w.sA ((k+(n+1):Nat):Int);rw[Il z] at H;have Q:=X2 i.ok.yS z;have hxf:s.1.AV[k+(n+1)].node≠fe.c.node:=by have h2:=B8 (λl=>l[k+(n+1)]?) i.AV;simp only[B2] at h2;rw[Ad Ab,Ad Ab,Ak z,Ak Ab] at h2;obtain⟨_,_,h3⟩:=JF Vw;have g:=h3 (k+(n+1)) Ab Ab;rw[DC h2];intro h5;unfold BL at g;rw[h5] at g;simp at g
   have hgd:s.1.AV.getD (k+(n+1)) Item.zero=s.1.AV[k+(n+1)]:=by rw[Ay,Ak z];rfl
   generalize s.1.AV[k+(n+1)]=x at*;have r2:=i.hc.at i.w i.rm x.node;obtain⟨q,hq,dy,hq0,hq2,hq3⟩:=JG i.nN;have inc:Ax (.int .add) [I ((N-(n+1):Nat):Int),I 1]=some (I ((N-n:Nat):Int)):=by have:=Cu (n:=N-(n+1)) Ab;rwa [(Ab:N-(n+1)+1=N-n)] at this
   have dec:Ax (.int .sub) [I ((k+(n+1):Nat):Int),I 1]=some (I ((k+n:Nat):Int)):=by have:=Ln (n:=k+(n+1)) Ab Ab;rwa [(Ab:k+(n+1)-1=k+n)] at this
   have Š:(k:Int)<((k+(n+1):Nat):Int):=Ab;have S:∀l:List Item,l=s.1.AV->Dg x.node l=Bm l (k+(n+1)):=by intro l e;subst e;unfold Dg;rw[Q,Ac Ab,Bz]
   by_cases he:F7 x.node s.1.Bd<0
   .obtain⟨u,A,hu⟩:=xo i.w.sO Ab x.node;rw[S _ rfl] at hu;have y:=i.w.Nz hu;have es:({s.1 with AV:=Bm s.1.AV (k+(n+1))},s.2.1,s.2.2)=BS.Gj far.node anc.node (k+1+N) (k+(n+1)) s.1 s.2.1 s.2.2:=by unfold BS.Gj;simp only[hgd];rw[Ad he]
    have B:=i.step es y i.hc ((CO fL).trans i.st) i.hn (Ea B7 ai) i.nN i.Ş;by_cases VN:(3:Int)<((N-n:Nat):Int);.simp only[abS,↓reduceIte,Iq,Š,H.Ag,inc,r2.Ag,VN,he,(Ab:¬(0:Int)<=F7 x.node s.1.Bd),A.Ag,dec];exact A7.next n rfl ⟨_,_,_,_,B⟩ Ab
    .simp only[abS,↓reduceIte,Iq,Š,H.Ag,inc,r2.Ag,VN,he,A.Ag,dec];exact A7.next n rfl ⟨_,_,_,_,B⟩ Ab
   .obtain⟨p,hp,ep,hx0,qN,hp3⟩:=JG (Rd.1 he);have GR:(0:Int)<=(p:Int):=Ab;rw[ep] at r2;have T:s.1.Bd[p].node≠fe.c.node:=by rw[qN];exact hxf
    have C:(F7 x.node s.1.Bd).toNat=p:=by rw[ep,Bz]
    by_cases VN:(3:Int)<((N-n:Nat):Int)
    .obtain⟨h2,c2,A,y,JJ,aN,D⟩:=lZ i.w i.hc i.rm i.st i.hn hp ⟨i.nN,Ab⟩ ⟨Ab,by have:=i.Ş;omega⟩;have fH:Cs {s.1 with Bd:=Bm s.1.Bd p} (m+4*(n+1)):=i.rm.sub rfl (AI _) CN (Ae _);have Y:=Dc.at (b:={s.1 with Bd:=Bm s.1.Bd p}) JJ y fH x.node;have gX:F7 x.node (Bm s.1.Bd p)<0:=by have:=pO (n:=x.node) i.ok.qL (Rd.1 he);rwa [C] at this
     obtain⟨u,X,hu⟩:=xo y.sO Gp x.node;rw[S _ rfl] at hu;have J:=y.Nz hu;have xT:(((if p<s.2.2 then s.2.2 -1 else s.2.2:Nat)):Int)=down p (s.2.2:Int):=by unfold down;split<;>split<;>omega
     have es:({s.1 with Bd:=Bm s.1.Bd p,AV:=Bm s.1.AV (k+(n+1))},s.2.1,if p<s.2.2 then s.2.2 -1 else s.2.2)=BS.Gj far.node anc.node (k+1+N) (k+(n+1)) s.1 s.2.1 s.2.2:=by unfold BS.Gj;simp only[hgd];rw[Ac he,Ad (Ab:k+(n+1)+3<k+1+N),C]
     have š:=pM i.nN hp T;have hd0:0<=down p (F7 fe.c.node s.1.Bd):=by unfold down;split<;>omega
     have B:=i.step es J JJ (by rw[CO fL,aN];simp only;rw[š,xT]) i.hn (D.trans (Ea B7 ai)) (by simp only;rw[š];exact hd0) (by have:=i.Ş;simp only;split<;>omega);simp only[abS,↓reduceIte,Iq,Š,H.Ag,inc,r2.Ag,VN,GR,A.Ag,Y.Ag,gX,X.Ag,dec];exact A7.next n rfl ⟨_,_,_,_,B⟩ Ab
    .obtain⟨fs,KQ,hv⟩:=i.hc;have HI:s.1.Bd.length=fs.length:=by rw[<-KQ,As]
     have aDG:p<fs.length:=Ab;have W:fs[p].c=s.1.Bd[p]:=by simp only[<-KQ,C3]
     have l3:=i.w.l3;have e1:=Bn.Dw (k:= .i64) hv aDG;have l5:Bk h1 none (Pt ai 5)=some (I anc.node):=At.load ⟨_,i.st,rfl⟩;obtain⟨r,A,hr⟩:=xR fs[p] h1;have OY:=i.rm.Dn _ (AP hp);rw[<-W] at OY;obtain⟨h2,G2,Y,y,D⟩:=xH (m:=m+4*n) i.w i.ok.ba (i.rm.le Ab) hr fs[p].ok OY.2 OY.1 anc.node 1;obtain⟨xy,f,le2⟩:=RL (nm:=fs[p].c.name) (at_:=fs[p].c.AE) (p:=anc.node) i.ok KM;have fH:=Kb (m:=m+4*n+1) (nm:=fs[p].c.name) (l:=fs[p].c.AE) (sp:=1) (p:=anc.node) (i.rm.le Ab) OY.2;have Og:(s.1.E1 fs[p].c.name fs[p].c.AE 1 anc.node).AV=s.1.AV:=by unfold BS.E1;rw[Ad KM]
     have aQ:(s.1.E1 fs[p].c.name fs[p].c.AE 1 anc.node).Bd=s.1.Bd:=by unfold BS.E1;rw[Ad KM]
     have V:BS.Gj far.node anc.node (k+1+N) (k+(n+1)) s.1 s.2.1 s.2.2=({s.1.E1 fs[p].c.name fs[p].c.AE 1 anc.node with a:=(s.1.E1 fs[p].c.name fs[p].c.AE 1 anc.node).a.HP (s.1.II fs[p].c.name fs[p].c.AE 1).node s.2.1 0,AV:=(s.1.E1 fs[p].c.name fs[p].c.AE 1 anc.node).AV.set (k+(n+1)) (s.1.II fs[p].c.name fs[p].c.AE 1),Bd:=(s.1.E1 fs[p].c.name fs[p].c.AE 1 anc.node).Bd.set p {fs[p].c with node:=(s.1.II fs[p].c.name fs[p].c.AE 1).node}},(s.1.II fs[p].c.name fs[p].c.AE 1).node,if s.2.1=far.node then p+1 else s.2.2):=by unfold BS.Gj;simp only[hgd];rw[Ac he,Ac Ab,C,Ay,Ak hp,Lt,<-W]
     have rD:=N0 i.ok f;have hna:=QV i.ok f;have hnf:(s.1.II fs[p].c.name fs[p].c.AE 1).node≠fe.c.node:=λe2=>f.new (by rw[e2];exact i.fe);have aDI:=le2.has _ i.last;have aDJ:(s.1.II fs[p].c.name fs[p].c.AE 1).name.length<=1000:=Nx OY.1;generalize s.1.II fs[p].c.name fs[p].c.AE 1=d at*;generalize s.1.E1 fs[p].c.name fs[p].c.AE 1 anc.node=b2 at*;have Ya:¬BB bi G2 ai:=λhg=>by
      rcases D.BB ai hg with hg|hg
      .exact i.hn hg
      .omega
     have aN:h2[ai]?=_:=(D.old ai I_ i.hn).trans i.st;obtain⟨E,K,X,WK⟩:=f207 y.sO (by have:=fH.AV;omega) x.node d;have fk:Nu x.node d b2.AV=b2.AV.set (k+(n+1)) d:=by unfold Nu;rw[Og,Q,Ac Ab,Bz]
     rw[fk] at WK;have J:=(y.Nz WK).Ja (u:=K);have x3:Fv h1 (KN ai bi G1) (put h2 bi 2 E++K) (KN ai bi G2):=(Ea D ai).trans (Ea (B7.trans (y.Nz WK).DG) ai);have ai2:ai<h2.length:=by have:=D.len;omega
     have Ţ:(put h2 bi 2 E++K)[ai]?=_:=(Al (by rw[KY];exact ai2)).trans ((CO fL).trans aN);have ai3:ai<(put h2 bi 2 E++K).length:=by rw[Ap,KY];omega
     generalize put h2 bi 2 E++K=h3 at*;have aDK:=(OY.2).1;obtain⟨u2,t2,e2,he2,r6,PG⟩:=f208 (h:=h3) (id:=bi) (o:=3) (l:=fs) ⟨c1,J.xF,hv⟩ Ab x.node (e:=⟨{fs[p].c with node:=d.node},fs[p].v,fs[p].ok⟩) (by unfold qK;simp only;omega);have hei:Jb x.node fs=(p:Int):=by rw[ZV,KQ,ep]
     rw[hei,Ac Ab,Bz] at PG;have w4:=(J.Q4 (u:=u2) (l:=b2.Bd.set p {fs[p].c with node:=d.node})).Ja (u:=t2);have ì:Dc (b2.Bd.set p {fs[p].c with node:=d.node}) u2:=⟨_,by rw[F5,KQ,he2,aQ],PG⟩;have x4:=x3.trans (Ea ((B7 (k:=3) (v:=u2)).trans (BX.DG (u:=t2) (J.Q4 (u:=u2) (l:=b2.Bd.set p {fs[p].c with node:=d.node})))) ai);have J_:(put h3 bi 3 u2++t2)[ai]?=_:=(Al (by rw[KY];exact ai3)).trans ((CO fL).trans Ţ);generalize put h3 bi 3 u2++t2=g at*;have K_:=xy.uK (i:=d) (k:=k+(n+1)) ⟨f.has,f.kind,f.AY,f.name⟩ (by rw[Og];exact rD);have jy:=K_.uN (e:={fs[p].c with node:=d.node}) (k:=p) ⟨f.has,f.kind⟩ (by simp only[aQ];exact hna);have rm4:Cs {b2 with AV:=b2.AV.set (k+(n+1)) d,Bd:=b2.Bd.set p {fs[p].c with node:=d.node}} (m+4*n+1):=by
      refine⟨fH.n,fH.at_,fH.data,by simp only[BJ];exact fH.AV,by simp only[BJ];exact fH.Bd,fH.tm,λe he=>?_,λi hi=>?_⟩
      .rcases Db he with he|rfl
       .exact fH.Dn e he
       .exact OY
      .rcases Db hi with hi|rfl
       .exact fH.ZL i hi
       .exact aDJ
     have O:Bk g none (Pt ai 13)=some (I s.2.1):=At.load ⟨_,J_,rfl⟩;have l9:Bk g none (Pt ai 9)=some (I far.node):=At.load ⟨_,J_,rfl⟩;have t4:At g ai 4 (I (s.2.2:Int)):=⟨_,J_,rfl⟩;obtain⟨X3,pQ⟩:∃X3:Nat,X3=if s.2.1=far.node then p+1 else s.2.2:=⟨_,rfl⟩
     have Z:put g ai 4 (I (X3:Int))=if s.2.1=far.node then put g ai 4 (I ((p+1:Nat):Int)) else g:=by
      rw[pQ];split;.rfl
      .exact t4.same
     have L:=Jf (k:=4) (v:= I (X3:Int)) J_;have w5:BX (put g ai 4 (I (X3:Int))) bi a E u2 t G2 {b2 with AV:=b2.AV.set (k+(n+1)) d,Bd:=b2.Bd.set p {fs[p].c with node:=d.node}}:=w4.El λj hj=>CO λe=>Ya (e▸hj);have x5:=x4.trans (NA (k:=4) (v:= I (X3:Int)));have ai5:ai<(put g ai 4 (I (X3:Int))).length:=by have:=x5.len;omega
     have t5:Bk (put g ai 4 (I (X3:Int))) none (Pt ai 13)=some (I s.2.1):=At.load ⟨_,L,rfl⟩;generalize hh5:put g ai 4 (I (X3:Int))=h5 at*;obtain⟨h6,G6,r7,w6,x6⟩:=ZU (x:=s.2.1) (p:=d.node) (bf:=0) w5 jy.ba rm4;rw[Q7 (by exact f.kind)] at w6;have U:¬BB bi G6 ai:=λhg=>by
      rcases x6.BB ai hg with hg|hg
      .exact Ya hg
      .omega
     have ţ:h6[ai]?=_:=(x6.old ai ai5 Ya).trans L;have t6:At h6 ai 13 (I s.2.1):=⟨_,ţ,rfl⟩;have L_:=Jf (k:=13) (v:= I d.node) ţ;have w7:BX (put h6 ai 13 (I d.node)) bi a E u2 t G6 _:=w6.El λj hj=>CO λe=>U (e▸hj);have x7:=(x5.trans (Ea x6 ai)).trans (NA (k:=13) (v:= I d.node));have pR:F7 fe.c.node (b2.Bd.set p {fs[p].c with node:=d.node})=F7 fe.c.node s.1.Bd:=by rw[aQ];exact xS i.nN hp T hnf
     rw[<-pQ] at V;have B:=i.step V.symm w7 ì (by simp only;rw[L_,pR];rfl) U x7 (by simp only;rw[pR];exact i.nN) (by simp only;rw[pQ];have:=i.Ş;split<;>omega);have R:fs[p].v.cells=[fs[p].v]:=Bn.cells fs[p].ok;have P:=Cu (Ab:p<9223372036854775807);have M:Co cx 172 [Pt bi 3,I x.node,.agg [I d.node,.str fs[p].c.name,fs[p].v]] h3 (.bool (decide (0<=Jb x.node fs))) g:=r6;rw[CM.row] at e1 A;by_cases Yl:s.2.1=far.node
     .rw[Ad Yl] at Z;have s5:CK g 1 (Pt ai 4) (I ((p+1:Nat):Int))=some h5:=by rw[Z];exact t4.store rfl
      simp only[abS,Nat.reduceLeDiff,↓reduceIte,Bl,Iq,Š,H.Ag,inc,r2.Ag,VN,GR,(Ab:¬(p:Int)<0),l3,e1,l5,A.Ag,C5,Y.Ag,X.Ag,R,M.Ag,O,l9,Cg Yl,P,s5,t5,r7.Ag,t6.store (u:= I d.node) rfl,dec];exact A7.next n rfl ⟨_,_,_,_,B⟩ Ab
     .rw[Ac Yl] at Z;subst Z;simp only[abS,Nat.reduceLeDiff,↓reduceIte,Bl,Iq,Š,H.Ag,inc,r2.Ag,VN,GR,(Ab:¬(p:Int)<0),l3,e1,l5,A.Ag,C5,Y.Ag,X.Ag,R,M.Ag,O,l9,Yl,r7.Ag,t6.store (u:= I d.node) rfl,dec];exact A7.next n rfl ⟨_,_,_,_,B⟩ Ab
 obtain⟨r,h',hr,rfl,o',c',G',s',e',i'⟩:=Ng.ret;exact⟨h',o',c',G',s',hr,e',i'⟩
end
end Go.Am
end
