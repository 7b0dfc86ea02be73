/- Lemmas -/
import Derived.Scope
import Derived.Test.YtjjnhgoknielgaaGreatDoorZ6
import Derived.Carry
import Derived.ReadAgain
set_option linter.all false
section
namespace Go.Am
open Go
def Kpt(x y:EM):Prop:=
 match x with
 | .box ver cs ow=>∃Gv Hp O0,y= .box Gv Hp O0/\ver<=Gv/\(Gv=ver->Hp=cs/\O0=ow)
 | .Fu t o=>y= .Fu t o\/y= .undef
 |x=>y=x
def Kpt.refl(x:EM):Kpt x x:=by
 cases x with
 |box ver cs ow=>exact⟨ver,cs,ow,rfl,Ad _,λ_=>⟨rfl,rfl⟩⟩
 |Fu t o=>exact .inl rfl
 |_=>rfl
def Kpt.trans{x y z:EM}(h:Kpt x y)(k:Kpt y z):Kpt x z:=by
 cases x with
 |box ver cs ow=>obtain⟨b,m,l,rfl,h1,h2⟩:=h;obtain⟨v2,j,c,rfl,f,d⟩:=k;refine⟨v2,j,c,rfl,Bv h1 f,λe=>?_⟩;have i:b=ver:=Ab;have g:v2=b:=Ab;obtain⟨rfl,rfl⟩:=d g;exact h2 i
 |Fu t o=>
  rcases h with rfl|rfl
  .exact k
  .exact .inr k
 |_=>rw[show y=_ from h] at k;exact k
def HN(W:List Nat)(σ O:BR):Prop:=O.length=σ.length/\∀s,s∉W->Kpt (σ.at s) (O.at s)
def HN.refl(W:List Nat)(σ:BR):HN W σ σ:=⟨rfl,λ_ _=> .refl _⟩
def HN.trans{W:List Nat}{σ O J:BR}(h:HN W σ O)(k:HN W O J):HN W σ J:=⟨k.1.trans h.1,λs hs=>(h.2 s hs).trans (k.2 s hs)⟩
def HN.mono{W W':List Nat}{σ O:BR}(h:HN W σ O)(hw:∀s∈W,s∈W'):HN W' σ O:=⟨h.1,λs hs=>h.2 s λhm=>hs (hw s hm)⟩
def HN.set{W:List Nat}{σ:BR}{s:Nat}{x:EM}(hs:s∈W):HN W σ (σ.set s x):=
 ⟨AB,λt ht=>by rw[BR.Gk λe=>ht (by rw[<-e];exact hs)];exact .refl _⟩
def HN.put{W:List Nat}{σ:BR}{d:Option Nat}{x:EM}(hs:∀s∈d.toList,s∈W):HN W σ (σ.put d x):=by
 cases d with
 |none=>exact .refl _ _
 |some d=>exact .set (hs d AB)
section
variable{C:Gj}{fid:FuncId}{ops:List Oper}{run:IT->Ai->Option Ku}{σ σ':BR}{h h':Ai}{W:List Nat}
def HN.drop(σ:BR)(ds:List Nat):HN W σ (σ.drop ds):=by
 refine⟨BR.length_drop σ ds,λs _=>?_⟩;rw[BR.WC];cases hx:σ.at s with
 |Fu t o=>
  simp only
  split;.exact .inr rfl
  .exact .inl rfl
 |_=>exact .refl _
def rS{r:EW}{ds:List Nat}(hd:r.Ol C run (σ.drop ds) h σ' h')(hw:∀s∈r.wf,s∈W):HN W σ σ':=by obtain⟨ws,rfl,h1,_⟩:=bU hd;refine(HN.drop σ ds).trans ⟨BR.Kl ws _,λs hs=>?_⟩;rw[BR.Hc ws _ s λp hp e=>hs (hw s (by rw[<-e];exact h1 p hp))];exact .refl _
def Rj{x:Operand}{d:Nat}{take:Bool}{r:EW}(h:Lh C σ x d take=some r):∀s∈r.wf,s=d\/(take=true/\x= .tmp s):=by
 unfold Lh at h;split at h;.cases h;simp[EW.wf]
 .cases h;simp[EW.wf]
 .split at h
  .rename_i ht;cases h;intro s hs;simp only[EW.wf,Cg,An] at hs;rcases hs with hs|hs
   .revert hs;generalize b:S3 _ _=c;intro hs;unfold S3 at b;split at b;.subst b;simp at hs;exact .inr ⟨ht,by rw[hs]⟩
    .subst b;simp at hs
   .exact .inl (by simpa using hs)
  .cases hc:I0 _ with
   |none=>rw[hc] at h;cases h
   |some sl=>rw[hc] at h;cases h;simp[EW.wf]
 .cases hc:I0 _ with
  |none=>rw[hc] at h;cases h
  |some sl=>rw[hc] at h;cases h;simp[EW.wf]
 .cases h
def Tm{x:Operand}{p:Nat×Aa}(h:Dr σ x=some p):x= .tmp p.1:=by
 cases x with
 |tmp t=>
  simp only[Dr] at h;cases hx:σ.at t with
  |BT v=>rw[hx] at h;cases h;rfl
  |_=>rw[hx] at h;cases h
 |_=>cases h
def mT{t:TypeId}{v:Aa}{d:Nat}{r:EW}(h:Vi C fid t v d=some r):r.wf=[d]:=by
 unfold Vi at h;split at h;.cases h
 .split at h;.cases h
  .split at h<;>(cases h;rfl)
def RU:∀{xs:List Operand} {vs:List Aa} {fz:List (Nat×List Aa)},HI C σ xs=some (vs,fz)->∀p∈fz,p.1∈Li xs
 |[],vs,fz,hc=>by cases hc;simp
 |x::xs,vs,fz,hc=>by
  unfold HI at hc;split at hc;.cases hc
  .rename_i Ih c b;have ih:=RU b;have up:∀p∈c,p.1∈Li (x::xs):=λp hp=>by obtain⟨y,hy,he⟩:=Cq.1 (ih p hp);exact Cq.2 ⟨y,OW _ hy,he⟩
   split at hc
   .rename_i s ver cs ow hs;split at hc;.cases hc
    .cases hc;intro p hp;rcases AE.1 hp with rfl|hp
     .simp[Li]
     .exact up p hp
   .rename_i sl _ hs;cases hv:sl.HH with
    |none=>rw[hv] at hc;cases hc
    |some u=>rw[hv] at hc;cases hc;exact up
   .cases hc
def xK{o:Oper}{r:EW}(hc:Gu C fid ops σ o=some r)(hd:r.Ol C run (σ.drop r.news) h σ' h'):HN (FH ops o) σ σ':=by
 have Tl:∀s∈o.dst.toList,s∈FH ops o:=λs hs=>B2 _ hs
 have hwf:(∀s∈r.wf,s∈FH ops o)->HN (FH ops o) σ σ':=rS hd
 have Wf:r.wf=o.dst.toList->HN (FH ops o) σ σ':=λe=>hwf (by rw[e];exact Tl)
 have Vu:∀{m x},Uu m o.dst x=some r->HN (FH ops o) σ σ':=λ{m x} he=>by
  obtain⟨_,_,rfl⟩:=HL he
  exact Wf rfl
 have HZ:∀{p x},Ut p o.dst x=some r->HN (FH ops o) σ σ':=λ{p x} he=>by
  obtain⟨args,_,rfl⟩:=D9 he
  exact Wf (by simp[EW.wf])
 unfold Gu at hc
 split at hc
 .rename_i x ho
  split at hc
  .rename_i d Gg
   refine hwf λs hs=>?_
   rcases Rj hc s hs with rfl|⟨ht,rfl⟩
   .exact Tl s (by rw[Gg];simp)
   .refine BI _ ?_
    simp[ho,Gg,ht]
  .cases hc
 .rename_i x ho
  split at hc
  .rename_i d Gg
   refine hwf λs hs=>?_
   rcases Rj hc s hs with rfl|⟨ht,rfl⟩
   .exact Tl s (by rw[Gg];simp)
   .refine BI _ ?_
    simp[ho]
  .cases hc
 .rename_i c x y ho
  split at hc
  .rename_i d _ Gg
   refine hwf λs hs=>?_
   rcases Rj hc s hs with rfl|⟨ht,rfl⟩
   .exact Tl s (by rw[Gg];simp)
   .cases ht
  .rename_i d _ Gg
   refine hwf λs hs=>?_
   rcases Rj hc s hs with rfl|⟨ht,rfl⟩
   .exact Tl s (by rw[Gg];simp)
   .cases ht
  .exact HZ hc
 .split at hc
  .rename_i d z Gg hz
   split at hc
   .split at hc
    .cases hc;exact Wf (by rw[Gg];rfl)
    .cases hc
   .exact Wf (by rw[mT hc,Gg];rfl)
  .cases hc
 .split at hc
  .rename_i d v Gg hz
   exact Wf (by rw[mT hc,Gg];rfl)
  .cases hc
 .split at hc
  .split at hc
   .exact HZ hc
   .cases hc
  .cases hc
 .split at hc
  .split at hc
   .split at hc
    .split at hc
     .cases hc;exact Wf (by simp[EW.wf])
     .cases ha:Bs C σ _ with
      |none=>rw[ha] at hc;cases hc
      |some args=>rw[ha] at hc;cases hc;exact Wf (by simp[EW.wf])
    .cases hc
   .cases hc
  .cases hc
 .split at hc
  .rename_i d Gg
   unfold Ms at hc
   split at hc
   .cases hc;exact Wf (by rw[Gg];rfl)
   .rename_i s off ver cs ow ht ha
    split at hc
    .simp only at hc
     split at hc
     .cases hc
      rw[O9 AB] at hd
      obtain⟨rfl,rfl⟩:=hd
      have hs:σ.at s= .box ver cs ow:=by
       unfold Gt at ha
       split at ha
       .rename_i hs;cases ha;exact Hs hs
       .split at ha
        .rename_i hb;cases ha;exact hb
        .cases ha
       .exact absurd ha (by cases hv:EM.HH _<;>simp)
       .cases ha
      refine⟨by simp[BR.drop,BR.EX],λt b=>?_⟩
      have f:t≠d:=λe=>b (Tl t (by rw[Gg,e];simp))
      have ō:s<σ.length:=BR.Ql (by rw[hs];simp)
      show Kpt (σ.at t) (BR.at ((σ.set s _).set d _) t)
      rw[BR.Gk (λe=>f e.symm)]
      by_cases eO:s=t
      .subst eO
       rw[BR.FJ ō,hs]
       exact⟨_,_,_,rfl,FV _,λe=>absurd e Ab⟩
      .rw[BR.Gk eO];exact .refl _
     .cases hc;exact Wf (by rw[Gg];rfl)
    .cases hc
   .split at hc
    .cases hc;exact Wf (by rw[Gg];rfl)
    .cases hc
   .cases hc
  .cases hc
 .rename_i t x y ho
  split at hc
  .rename_i Gg
   unfold J0 at hc
   split at hc
   .cases hc;exact hwf (by simp[EW.wf])
   .rename_i m sh s off ver cs ow v Lk qF ha hv
    split at hc
    .cases hc
     obtain⟨_,rfl,rfl⟩:=hd
     have hs:σ.at s= .box ver cs ow:=by
      unfold Gt at ha
      split at ha
      .rename_i hs;cases ha;exact Hs hs
      .split at ha
       .rename_i hb;cases ha;exact hb
       .cases ha
      .exact absurd ha (by cases hv:EM.HH _<;>simp)
      .cases ha
     have ZT:∀(D:Option (Nat×Aa)),(∀p,D=some p->p.1∈FH ops o/\p.1≠s)->∀X:List Aa×List Nat,HN (FH ops o) σ ((σ.DT D).set s (.box (ver+1) X.1 X.2)):=by
      intro D i X
      refine⟨by cases D<;>simp[BR.DT],λt b=>?_⟩
      have hlen:s<(σ.DT D).length:=by
       have:s<σ.length:=BR.Ql (by rw[hs];simp)
       cases D<;>simpa[BR.DT] using this
      by_cases eO:s=t
      .subst eO
       rw[BR.FJ hlen,hs]
       exact⟨_,_,_,rfl,FV _,λe=>absurd e Ab⟩
      .rw[BR.Gk eO]
       cases D with
       |none=>exact .refl _
       |some p=>
        obtain⟨g,j⟩:=i p rfl
        simp only[BR.DT]
        rw[BR.Gk (λe=>b (by rw[<-e];exact g))]
        exact .refl _
     refine ZT _ (λp hp=>?_) (_,_)
     split at hp
     .have hy:=Tm hp
      subst hy
      refine⟨BI _ (by simp[ho]),λe=>?_⟩
      simp only[Dr] at hp
      rw[e,hs] at hp
      cases hp
     .cases hp
    .cases hc
   .cases hc
  .cases hc
 .split at hc
  .rename_i Gg _ _
   cases hc;exact Wf (by rw[Gg];rfl)
  .rename_i Gg _ _
   cases hc;exact Wf (by rw[Gg];rfl)
  .exact HZ hc
 .split at hc
  .exact HZ hc
  .cases hc
 .exact HZ hc
 .split at hc
  .cases hv:Fa C σ _ with
   |none=>rw[hv] at hc;cases hc
   |some v=>rw[hv] at hc;cases hc;exact Wf rfl
  .split at hc
   .cases hv:Fa C σ _ with
    |none=>rw[hv] at hc;cases hc
    |some v=>rw[hv] at hc;cases hc;exact Wf rfl
   .exact HZ hc
  .exact HZ hc
  .cases hc
 .rename_i fn first captured ho
  split at hc
  .rename_i d as bs fz Gg ha hb
   cases hc
   refine hwf λs hs=>?_
   simp only[EW.wf,AE] at hs
   rcases hs with rfl|hs
   .exact Tl s (by rw[Gg];simp)
   .obtain⟨p,hp,rfl⟩:=A7.1 hs
    refine BI _ ?_
    simp only[ho]
    exact RU hb p hp
  .cases hc
 .cases hc;exact Wf rfl
 .split at hc
  .split at hc
   .cases hc;exact Wf rfl
   .cases hc
  .cases hc
 .split at hc
  .split at hc
   .cases hc;exact hwf (by simp[EW.wf])
   .cases hc;exact hwf (by simp[EW.wf])
   .cases hc
  .cases hc
 .split at hc
  .split at hc
   .cases hc;exact hwf (by simp[EW.wf])
   .cases hc;exact hwf (by simp[EW.wf])
   .cases hc
  .cases hc
 .split at hc
  .split at hc
   .cases hc;exact Wf rfl
   .cases hc;exact Wf rfl
   .cases hc
  .cases hc
 .split at hc
  .split at hc
   .exact Vu hc
   .cases hc
  .cases hc
 .split at hc
  .cases hc
  .exact Vu hc
  .cases hc
 .split at hc
  .split at hc<;>first|exact Vu hc|cases hc
  .cases hc
 .split at hc
  .rename_i Gg
   exact Vu (by rw[Gg];exact hc)
  .cases hc
 .split at hc
  .exact HZ hc
  .split at hc
   .split at hc
    .exact Vu hc
    .exact HZ hc
   .cases hc
  .cases hc
 .split at hc
  .rename_i off sh d hf Gg
   split at hc
   .cases hc;exact Wf (by rw[Gg];rfl)
   .cases hc;exact Wf (by rw[Gg];rfl)
   .exact HZ (by rw[Gg];exact hc)
  .cases hc
 .split at hc
  .exact HZ hc
  .cases hc
 .split at hc
  .split at hc
   .exact HZ hc
   .cases hc
  .split at hc
   .split at hc
    .cases hc
    .exact HZ hc
   .cases hc
  .cases hc
 .split at hc
  .exact HZ hc
  .split at hc
   .exact HZ hc
   .cases hc
  .cases hc
 .exact HZ hc
 .rename_i c ho
  unfold Sb at hc
  split at hc
  .split at hc
   .split at hc
    .exact HZ hc
    .exact HZ hc
    .cases hc
   .cases hc
  .rename_i hcl
   split at hc
   .rename_i t t' s x h0 h1 E0
    have ZT:∀p,Dr σ s=some p->p.1∈FH ops o:=λp hp=>by
     have:=Tm hp
     subst this
     refine BI _ ?_
     simp only[ho,hcl,E0]
     simp[Li]
    split at hc
    all_goals first
     |(cases hc;done)
     | (split at hc
        . split at hc
          . split at hc
            . split at hc
              . split at hc
                . cases hc
                  refine hwf fun q hq => ?_
                  simp only [EW.wf, An] at hq
                  rcases hq with hq | hq
                  . exact Tl q hq
                  . cases rT : Dr σ s with
                    | none => rw [rT] at hq; simp at hq
                    | some p => rw [rT] at hq; simp at hq; rw [hq]; exact ZT p rT
                . split at hc
                  . cases hc
                    refine hwf fun q hq => ?_
                    simp only [EW.wf, An] at hq
                    rcases hq with hq | hq
                    . exact Tl q hq
                    . cases rT : Dr σ s with
                      | none => rw [rT] at hq; simp at hq
                      | some p => rw [rT] at hq; simp at hq; rw [hq]; exact ZT p rT
                  . cases hc
                    refine hwf fun q hq => ?_
                    simp only [EW.wf, An] at hq
                    rcases hq with hq | hq
                    . exact Tl q hq
                    . cases rT : Dr σ s with
                      | none => rw [rT] at hq; simp at hq
                      | some p => rw [rT] at hq; simp at hq; rw [hq]; exact ZT p rT
              . split at hc
                . cases hc
                  refine hwf fun q hq => Tl q (by simpa [EW.wf] using hq)
                . cases hc
            . cases hc
          . cases hc
        . cases hc)
   .cases hc
  .split at hc
   .split at hc
    all_goals first
     |(cases hc;done)
     | (split at hc
        . exact Vu hc
        . cases hc)
   .cases hc
  .split at hc
   .split at hc
    .split at hc
     .exact Vu hc
     .cases hc
    .cases hc
   .cases hc
  .split at hc
   .exact HZ hc
   .cases hc
  .split at hc
   .exact HZ hc
   .cases hc
  .split at hc
   .split at hc
    .split at hc
     .exact Vu hc
     .cases hc
    .cases hc
   split at hc
   .cases ha:Bs C σ c.args.toList with
    |none=>rw[ha] at hc;cases hc
    |some args=>
     rw[ha] at hc
     simp only[BV,BL] at hc
     split at hc<;>(cases hc;exact Wf rfl)
   .cases hc
  .split at hc
   .cases hc;exact Wf rfl
   .cases hc
  .cases hc
 .cases hc
end
end Go.Am
end
section
namespace Go.Am
open Go
def yi:Gs->Exit
 | .normal=> .normal
 | .exit i=> .exit i
 | .ret=> .ret
def Pn:∀{l m:List Nat},l.Nodup->(∀x∈l,x∈m)->l.length<=m.length
 |[],_,_,_=>Bp _
 |x::l,m,hn,hs=>by have hx:=hs x AB;have h1:=Pn (l:=l) (m:=m.erase x) (B6.1 hn).2 λy hy=>(List.mem_erase_of_ne λe=>(B6.1 hn).1 (by rw[<-e];exact hy)).2 (hs y (by simp[hy]));rw[List.length_erase_of_mem hx] at h1;have:0<m.length:=List.length_pos_of_mem hx;simp;omega
def fC{P:Program}{c:Code}{Q:Exit->Act->World->Prop}(T:Nat->Act->World->Prop)(round:∀n a w,T n a w->c.wp P (Exit.then (λa' w'=>∃m,m<n/\T m a' w') Q) a w)(n:Nat)(a:Act)(w:World)(h0:T n a w):(Code.loop c).wp P Q a w:=by
 intro b k cs;have key:∀n a w,T n a w->∃e a' w',Q e a' w'/\Arrives P (lone (b.at a (.code c:: .inLoop c::k)) cs w) b k cs e a' w':=by
  intro n;induction n using Nat.strongRecOn with
  |_ n ih=>
   intro a w i;obtain⟨e,a1,w1,hq,Ŝ⟩:=round n a w i b (.inLoop c::k) cs;by_cases he:e= .normal;.subst he;obtain⟨m,hm,d⟩:=hq;obtain⟨j,a2,f,g,r2⟩:=ih m hm a1 w1 d;exact⟨j,a2,f,g,.of_steps (Go.Steps.trans Ŝ (.one step_inLoop)) r2⟩
   .exact⟨e,a1,w1,by cases e<;>first|exact hq|exact absurd rfl he,.pass (x:= .inLoop c) rfl (λ_ _=> .inl he) Ŝ⟩
 obtain⟨e,a',w',hq,Ŝ⟩:=key n a w h0;exact⟨e,a',w',hq,.of_steps (.one step_loop) Ŝ⟩
section
variable{C:Gj}{U0 U:Gh}{w0 w:World}{Z:Nat->Nat}{σ:BR}{h:Ai}{a:Act}{fid:FuncId}{run:IT->Ai->Option Ku}
def fD{ops:List Oper}{o:Oper}{K:BR->IT}{R:Ku}(hr:IT.step (Cd C) run (Uv C fid ops σ o K) h=some R):
  ∃d,(d=σ\/∃s b,s∈FQ ops o/\σ.at s= .val (.bool b)/\d=σ.set s (.P9 b))/\
   ((Jo ops d o= .Oi true/\IT.step (Cd C) run (vo C fid ops d o K) h=some R)\/(Jo ops d o= .Oi false/\IT.step (Cd C) run (K (d.put o.dst .skip)) h=some R)):=by
 unfold Uv at hr;split at hr;.rename_i hg;exact⟨σ,.inl rfl,.inl ⟨hg,hr⟩⟩
 .rename_i hg;exact⟨σ,.inl rfl,.inr ⟨hg,hr⟩⟩
 .rename_i s v want hg;have e:s∈FQ ops o/\σ.at s= .val v/\∀b,Jo ops (σ.set s (.P9 b)) o= .Oi (b==want):=by
   unfold Jo at hg⊢;unfold FQ;cases ho:o.guard with
   |none=>rw[ho] at hg;cases hg
   |some g=>
    obtain⟨j,want'⟩:=g;rw[ho] at hg;simp only at hg⊢;cases hd:(ops[j]?).bind (·.dst) with
    |none=>rw[hd] at hg;cases hg
    |some s'=>
     rw[hd] at hg;simp only at hg⊢;cases hx:σ.at s' with
     |val v'=>rw[hx] at hg;cases hg;refine⟨AB,hx,λb=>?_⟩;rw[BR.FJ (BR.Ql (by rw[hx];simp))]
     |P9 c=>rw[hx] at hg;cases hg
     |skip=>rw[hx] at hg;cases hg
     |_=>rw[hx] at hg;cases hg
  obtain⟨g1,g2,g3⟩:=e;simp only[IT.step] at hr;split at hr
  .refine⟨σ.set s (.P9 true),.inr ⟨s,true,g1,g2,rfl⟩,?_⟩;rw[g3];cases want with
   |true=>exact .inl ⟨rfl,hr⟩
   |false=>exact .inr ⟨rfl,hr⟩
  .refine⟨σ.set s (.P9 false),.inr ⟨s,false,g1,g2,rfl⟩,?_⟩;rw[g3];cases want with
   |true=>exact .inr ⟨rfl,hr⟩
   |false=>exact .inl ⟨rfl,hr⟩
  .cases hr
 .cases hr
def xL(j:Fk C run){ops:Array Oper}{Q:Exit->Act->World->Prop}{W:List Nat}{K:BR->IT}{R:Ku}:∀(rest:List Oper) (k:Nat) (U:Gh) (Z:Nat->Nat) (σ:BR) (h:Ai) (a:Act) (w:World),
  ops.toList.drop k=rest->(∀o∈rest,(∀s∈FH ops.toList o,s∈W)/\∀s∈FQ ops.toList o,s∈W)->IT.step (Cd C) run (wM C fid ops.toList rest σ K) h=some R->Db C U0 w0 U Z σ h a w->
  (∀e d σ' h' a' w',IT.step (Cd C) run (K σ') h'=some R->HN W σ σ'->Db C U0 w0 e d σ' h' a' w'->Q .normal a' w')->wpOps C.P ops Q (List.range' k rest.length) a w
 |[],k,U,Z,σ,h,a,w,_,_,AM,hr,hQ=>by simp only[AW,List.range'_zero,wpOps];exact hQ U Z σ h a w AM (.refl _ _) hr
 |o::rest,k,U,Z,σ,h,a,w,hk,hW,AM,hr,hQ=>by
  have ho:ops[k]?=some o:=by
   have:ops.toList[k]?=some o:=by have h0:=B3 (·[0]?) hk;simpa[CF] using h0
   simpa using this
  have i:ops.toList.drop (k+1)=rest:=by have h0:=B3 (List.drop 1) hk;simpa[Ew] using h0
  obtain⟨xM,yc⟩:=hW o AB;simp only[AK,List.range'_succ,wpOps,ho];obtain⟨f,g,Jy⟩:=fD AM;have Kv:Db C U0 w0 U Z f h a w/\HN W σ f:=by
   rcases g with rfl|⟨s,b,g1,g2,rfl⟩
   .exact⟨hr,.refl _ _⟩
   .have h0:=hr.fr.IJ s;rw[g2] at h0;exact⟨hr.lT h0,.set (yc s g1)⟩
  obtain⟨Kv,aHW⟩:=Kv;have next:∀e d σ' h' a' w',IT.step (Cd C) run (wM C fid ops.toList rest σ' K) h'=some R->HN W σ σ'->Db C U0 w0 e d σ' h' a' w'->wpOps C.P ops Q (List.range' (k+1) rest.length) a' w':=λe d σ' h' a' w' X4 mi HY=>xL j rest (k+1) e d σ' h' a' w' i (λo ho=>hW o (by simp[ho])) X4 HY λn m c h2 a2 l M5 aMs aHX=>hQ n m c h2 a2 l M5 (mi.trans aMs) aHX
  rcases Jy with⟨hg,JB⟩|⟨hg,JB⟩
  .rw[Af (MJ Kv hg)];unfold vo at JB;split at JB;.rename_i r hc;obtain⟨c,h2,hd,Vv⟩:=bE JB;exact .inl (yb j hc hd Kv λe d a' w' HY=>next e d c h2 a' w' Vv (aHW.trans ((xK hc hd).mono xM)) HY)
   .cases JB
  .rw[Ac (by rw[MJ Kv hg];simp)];exact next U Z _ h _ w JB (aHW.trans (.put λs hs=>xM s (B2 _ hs))) (Kv.put λ_ _=>rfl)
def rU{W:List Nat}{d:Option Nat}{σ σ':BR}(h:NL d σ σ')(hd:∀s∈d.toList,s∈W):HN W σ σ':=by
 unfold NL at h;cases d with
 |none=>simp only at h;rw[h];exact .refl _ _
 |some d=>
  simp only at h;split at h;.obtain⟨b,_,rfl⟩:=h;exact .set (hd d AB)
  .rw[h];exact .refl _ _
def rV{ops:List Oper}{an:List Nat}{W:List Nat}(hW:∀o∈ops,∀s∈FH ops o,s∈W){fl:List La}{L:List St}{σ σf:BR}{h hf:Ai}(hs:Steps C fid ops run an fl L σ h σf hf):HN W σ σf:=by
 induction hs with
 |nil=>exact .refl _ _
 |cons h1 _ _ ih=>
  refine HN.trans ?_ ih;obtain⟨o,ho,⟨_,_,_,rfl,rfl⟩|⟨r,b,hg,hc,_,hd,_,ha⟩⟩:=h1;.exact .put λs hs=>hW o (CH ho) s (B2 _ hs)
  .refine((xK hc hd).mono λs hs=>hW o (CH ho) s hs).trans (rU ha λs hs=>?_);split at hs;.exact hW o (CH ho) s (B2 _ hs)
   .simp at hs
def X5(hm:C.P.follows .mixedOrders=true)(f:Fk C run){id:Nat}{ops:Array Oper}{draw:Bool}{Q:Exit->Act->World->Prop}{K:BR->IT}{R:Ku}(AM:IT.step (Cd C) run (S7 C fid ops.toList draw σ K) h=some R)(hr:Db C U0 w0 U Z σ h a w)
  (hQ:∀d c σ' h' a' w',IT.step (Cd C) run (K σ') h'=some R->HN (ops.toList.flatMap (FH ops.toList)++ops.toList.flatMap (FQ ops.toList)) σ σ'->Db C U0 w0 d c σ' h' a' w'->Q .normal a' w'):(Code.region id ops draw).wp C.P Q a w:=by
 unfold S7 at AM;cases draw with
 |false=>refine wp_region ?_;have:=xL (W:=ops.toList.flatMap (FH ops.toList)++ops.toList.flatMap (FQ ops.toList)) f ops.toList 0 U Z σ h a w rfl (λo ho=>⟨λs hs=>B2 _ (wD.2 ⟨o,ho,hs⟩),λs hs=>BI _ (wD.2 ⟨o,ho,hs⟩)⟩) AM hr hQ;simpa[aKW] using this
 |true=>
  simp only[BN] at AM;split at AM
  .rename_i Gg;obtain⟨L,σf,hf,h1,h2,h3⟩:=Sn AM;refine wp_region_any hm ?_;have b:=h2;unfold Xy at b;simp only[Ue,BA,Bb] at b;have aHY:xJ (Xw ops.toList) L:=by have:=bW b.1;rw[aRO] at this;exact this
   have hlt:=h1.lt;have Ny:∀i,i<ops.size->i∈L.map (·.idx):=λi hi=>by have:=DQ.1 b.2 i (by simpa using hi);simpa using this
   have rF:(L.map (·.idx)).Nodup:=by rw[List.Nodup,aRO];exact aHY.imp λh=>h.1
   have hlen:L.length=ops.size:=by
    have k:(L.map (·.idx)).length<=(List.range ops.size).length:=Pn rF (λi hi=>by obtain⟨s,hs,rfl⟩:=A7.1 hi;simpa using hlt s hs)
    have g:(List.range ops.size).length<=(L.map (·.idx)).length:=Pn List.nodup_range λi hi=>Ny i (by simpa using hi);simp at k g;omega
   have mi:=rV (W:=ops.toList.flatMap (FH ops.toList)++ops.toList.flatMap (FQ ops.toList)) (λo ho s hs=>B2 _ (wD.2 ⟨o,ho,hs⟩)) h1;refine nh f Gg (λd c a' w' HY=>hQ d c σf hf a' w' h3 mi HY) ops.size L _ U Z σ h a w.drew hlen h1 aHY ⟨AB,λi hi=>⟨λ_=>Ny i hi,λ_=>by simp[Array.getD,hi]⟩,λj hj e _=>?_⟩ hr.drew;exfalso;rcases Bl j ops.size with hlt|IS
   .simp[Array.getD,hlt] at hj
   .simp[Array.getD,Nat.not_lt.2 IS] at hj
  .cases AM
end
end Go.Am
end
section
namespace Go.Am
open Go
def Rk(x y:EM):Prop:=
 (∃u,x.HH=some u/\y= .val u)\/(∃v,x= .BT v/\y= .BT v)\/∃ver cs ow Gv O0,x= .box ver cs ow/\y= .box Gv cs O0/\∀o∈O0,o∈ow
def BR.I2:∀(ws:List Nat) (σ:BR) (s:Nat),(σ.clear ws).at s=if s∈ws then .undef else σ.at s
 |[],σ,s=>by simp[BR.clear]
 |t::ws,σ,s=>by
  rw[BR.clear,BR.I2 ws];by_cases h:s∈ws;.simp[h]
  .by_cases h2:s=t
   .subst h2;rw[BR.XZ];by_cases hl:s<σ.length;.simp[hl]
    .have:σ.at s= .undef:=by simp[BR.at,List.getD,hl]
     simp[h,hl,this]
   .rw[BR.Gk λe=>h2 e.symm];simp[h,h2]
def BR.KI:∀(ws:List Nat) (σ:BR),(σ.clear ws).length=σ.length
 |[],σ=>rfl
 |t::ws,σ=>by rw[BR.clear,BR.KI ws];simp
section
variable{C:Gj}{U0 U:Gh}{w0 w:World}{Z:Nat->Nat}{σ:BR}{h:Ai}{a:Act}{fid:FuncId}{run:IT->Ai->Option Ku}
def Rk.rel{B s:Nat}{x y:EM}{v:Value}(hx:Mt U Z B w s x v)(hf:Rk x y):Mt U Z B w s y v:=by
 rcases hf with⟨u,hu,rfl⟩|⟨u,rfl,rfl⟩|⟨ver,cs,ow,Gv,O0,rfl,rfl,X3⟩
 .exact Om hx hu
 .exact hx
 .obtain⟨j,i,g,us,e,f,d,c,b⟩:=hx;exact⟨j,i,g,us,e,f,d,c,λo ho=>b o (X3 o ho)⟩
def Vw{σs:BR}{G:BR->IT}{R:Ku}{vs:List Aa}:∀{l:List (Nat×Sh)} {i:Nat} {σa:BR},Xz σs l=some (vs.drop i)->σa.length=σs.length->IT.step (Cd C) run (J6 vs l i σa G) h=some R->
  ∃b,IT.step (Cd C) run (G b) h=some R/\b.length=σa.length/\(∀s,s∉l.map (·.1)->b.at s=σa.at s)/\(∀s,s∈l.map (·.1)->Rk (σs.at s) (b.at s)/\
   ((∃Gv Hp O0,b.at s= .box Gv Hp O0/\bB (σa.at s)<Gv)\/∀ver cs ow,σs.at s≠ .box ver cs ow))
 |[],i,σa,_,_,hr=>⟨σa,hr,rfl,λ_ _=>rfl,AB⟩
 |(s,sh)::l,i,σa,hv,hl,hr=>by
  have hd:∃v Ih,vs.drop i=v::Ih/\vs.drop (i+1)=Ih/\vs.getD i .nilIface=v/\Xz σs l=some Ih/\
    (match(generalizing:=false) sh,σs.at s with| .val,x=>x.HH| .BT,.BT v=>some v| .box n ow,.box _ cs O0=>if cs.length=n/\ow.all (O0.contains ·) then some (.agg cs) else none|_,_=>none)=some v:=by
   unfold Xz at hv;simp only at hv;split at hv
   .rename_i v Ih h1 h2;simp only[BL] at hv;refine⟨v,Ih,hv.symm,?_,?_,h2,h1⟩;.have:=B3 (List.drop 1) hv;simpa[Ew] using this.symm
    .have:=B3 (·[0]?) hv;simp only[Ji,CF,By] at this;simp[List.getD,<-this]
   .cases hv
  obtain⟨v,Ih,r,aMt,eV,WD,Tn⟩:=hd;have hlt:s<σa.length:=by rw[hl];refine BR.Ql λe=>?_;rw[e] at Tn;cases sh<;>simp[EM.HH] at Tn
  have go:∀(y:EM),Rk (σs.at s) y->((∃Gv Hp O0,y= .box Gv Hp O0/\bB (σa.at s)<Gv)\/∀ver cs ow,σs.at s≠ .box ver cs ow)->IT.step (Cd C) run (J6 vs l (i+1) (σa.set s y) G) h=some R->
    ∃b,IT.step (Cd C) run (G b) h=some R/\b.length=σa.length/\(∀t,t∉((s,sh)::l).map (·.1)->b.at t=σa.at t)/\(∀t,t∈((s,sh)::l).map (·.1)->Rk (σs.at t) (b.at t)/\
     ((∃Gv Hp O0,b.at t= .box Gv Hp O0/\bB (σa.at t)<Gv)\/∀ver cs ow,σs.at t≠ .box ver cs ow)):=by
   intro y hy c HY;obtain⟨b,q,p,j,m⟩:=Vw (l:=l) (i:=i+1) (σa:=σa.set s y) (by rw[aMt];exact WD) (by simpa using hl) HY;refine⟨b,q,by simpa using p,λt ht=>?_,λt ht=>?_⟩;.simp only[Bj,AE,PU] at ht;rw[j t ht.2,BR.Gk λe=>ht.1 e.symm]
   .by_cases hm:t∈l.map (·.1)
    .obtain⟨g,k⟩:=m t hm;refine⟨g,k.imp (λ⟨Gv,Hp,O0,f,d⟩=>⟨Gv,Hp,O0,f,?_⟩) id⟩;by_cases eO:s=t
     .subst eO;rw[BR.FJ hlt] at d;rcases c with⟨z,B,A,rfl,h1⟩|hn
      .simp only[bB] at d;omega
      .rcases g with⟨u,_,e⟩|⟨u,_,e⟩|⟨ver,cs,ow,_,_,e,_⟩
       .rw[f] at e;cases e
       .rw[f] at e;cases e
       .exact absurd e (hn _ _ _)
     .rwa [BR.Gk eO] at d
    .have eO:t=s:=by simp only[Bj,AE] at ht;exact ht.resolve_right hm
     subst eO;rw[j t hm,BR.FJ hlt];exact⟨hy,c⟩
  cases sh with
  |val=>
   simp only[J6,eV] at hr;have yj:(σs.at s).HH=some v:=by simpa using Tn
   refine go (.val v) (.inl ⟨v,yj,rfl⟩) (.inr λver cs ow e=>?_) hr;rw[e] at yj;cases yj
  |BT=>
   simp only[J6,eV] at hr;cases hx:σs.at s with
   |BT u=>rw[hx] at Tn;cases Tn;exact go (.BT v) (.inr (.inl ⟨v,hx,rfl⟩)) (.inr λver cs ow e=>by rw[hx] at e;cases e) hr
   |_=>rw[hx] at Tn;cases Tn
  |box n ow=>
   simp only[J6,eV,IT.step] at hr;cases hx:σs.at s with
   |box ver cs O0=>
    rw[hx] at Tn;simp only at Tn;split at Tn
    .rename_i Ii;cases Tn;split at hr;.rename_i hn;rw[Ux hn] at hr;refine go (.box (bB (σa.at s)+1) cs ow) (.inr (.inr ⟨ver,cs,O0,_,ow,hx,rfl,λo ho=>?_⟩)) (.inl ⟨_,_,_,rfl,Uf _⟩) hr;have:=DQ.1 Ii.2 o ho;simpa using this
     .cases hr
    .cases Tn
   |_=>rw[hx] at Tn;cases Tn
def Db.aDe(hr:Db C U0 w0 U Z σ h a w){O:BR}(hl:O.length=σ.length)(hs:∀s,O.at s= .undef\/O.at s=σ.at s\/Rk (σ.at s) (O.at s)):Db C U0 w0 U Z O h a w:=by
 refine⟨hr.Ee,⟨by rw[hl];exact hr.fr.size,λs=>?_⟩,hr.D7,hr.defers,hr.HB⟩;have h0:=hr.fr.IJ s;rcases hs s with e|e|e
 .rw[e];trivial
 .rw[e];exact h0
 .exact e.rel h0
structure yk(σ0:BR)(ws:List Nat)(l:List (Nat×Sh))(σ':BR)(vs:List Aa):Prop where
 vec:Xz σ' l=some vs
 len:σ'.length=σ0.length
 same:∀s,s∉l.map (·.1)->σ0.at s= .undef\/σ0.at s=σ'.at s
 box:∀s ver cs ow,σ0.at s= .box ver cs ow->∃Gv Hp O0,σ'.at s= .box Gv Hp O0
def mU{σ0 σ':BR}{l:List (Nat×Sh)}(hk:qQ σ0 σ' l=true){s:Nat}(hs:s∉l.map (·.1)):(∀ver cs ow,σ0.at s= .box ver cs ow->∃Hp O0,σ'.at s= .box ver Hp O0)/\(∀t o,σ0.at s= .Fu t o->∃t' o',σ'.at s= .Fu t' o'):=by
 have hc:(l.map (·.1)).contains s=false:=by
  cases hc:(l.map (·.1)).contains s with
  |false=>rfl
  |true=>exact absurd (by simpa using hc) hs
 have uk:s<σ0.length->(match σ0.at s with
   | .box ver _ _=>(l.map (·.1)).contains s||(match σ'.at s with| .box Gv _ _=>Gv==ver|_=>false)
   | .Fu _ _=>(l.map (·.1)).contains s||(match σ'.at s with| .Fu _ _=>true|_=>false)
   |_=>true)=true:=λhl=>by
  unfold qQ at hk;exact DQ.1 hk s (by simpa using hl)
 constructor
 .intro ver cs ow hx;have:=uk (BR.Ql (by rw[hx];simp));rw[hx] at this;simp only[hc,J4] at this;split at this
  .rename_i Gv Hp O0 hy;have e:Gv=ver:=by simpa using this
   subst e;exact⟨Hp,O0,hy⟩
  .cases this
 .intro t o hx;have:=uk (BR.Ql (by rw[hx];simp));rw[hx] at this;simp only[hc,J4] at this;split at this;.rename_i t' o' hy;exact⟨t',o',hy⟩
  .cases this
def Qv{σ0 b σ':BR}{ws:List Nat}{l:List (Nat×Sh)}{x:Gs}{R:Ku}(Wg:IT.step (Cd C) run (Ds σ0 l x σ') h=some R)(mi:HN ws b σ')(hlen:b.length=σ0.length)
  (ZH:∀s,s∈ws->σ0.at s= .undef) (Ok:∀s,s∉l.map (·.1)->σ0.at s= .undef\/σ0.at s=b.at s) (aMu:∀s ver cs ow,σ0.at s= .box ver cs ow->∃Gv Hp O0,b.at s= .box Gv Hp O0):
  ∃vs,R=(x,vs,h)/\yk σ0 ws l σ' vs:=by
 unfold Ds at Wg;split at Wg
 .rename_i hk;split at Wg
  .rename_i vs hv;cases Wg;refine⟨vs,rfl,hv,mi.1.trans hlen,λs hs=>?_,λs ver cs ow hb=>?_⟩
   .by_cases hw:s∈ws;.exact .inl (ZH s hw)
    .rcases Ok s hs with e|e
     .exact .inl e
     .right;have Um:=mi.2 s hw;obtain⟨i,g⟩:=mU hk hs;rw[e] at i g⊢;cases hx:b.at s with
      |box ver cs ow=>rw[hx] at Um;obtain⟨m,p,n,c,_,d⟩:=Um;obtain⟨k,f,j⟩:=i ver cs ow hx;rw[c] at j;cases j;obtain⟨rfl,rfl⟩:=d rfl;exact c.symm
      |Fu t o=>
       rw[hx] at Um;rcases Um with c|c
       .exact c.symm
       .obtain⟨t',o',d⟩:=g t o hx;rw[c] at d;cases d
      |_=>rw[hx] at Um;exact(show σ'.at s=_ from Um).symm
   .have hw:s∉ws:=λhw=>by rw[ZH s hw] at hb;cases hb
    obtain⟨m,p,n,c⟩:=aMu s ver cs ow hb;have Um:=mi.2 s hw;rw[c] at Um;obtain⟨v2,k,f,d,_⟩:=Um;exact⟨v2,k,f,d⟩
  .cases Wg
 .cases Wg
def yk.next{σ0 σ':BR}{ws:List Nat}{l:List (Nat×Sh)}{vs:List Aa}(he:yk σ0 ws l σ' vs){G:BR->IT}{R:Ku}(hr:Db C U0 w0 U Z σ' h a w)(AM:IT.step (Cd C) run (J6 vs l 0 σ0 G) h=some R):
  ∃b,IT.step (Cd C) run (G b) h=some R/\Db C U0 w0 U Z b h a w/\b.length=σ0.length/\(∀s,s∉l.map (·.1)->b.at s=σ0.at s)/\(∀s ver cs ow,σ0.at s= .box ver cs ow->∃Gv Hp O0,b.at s= .box Gv Hp O0/\(s∈l.map (·.1)->ver<Gv)):=by
 obtain⟨b,i,f,c,d⟩:=Vw (σs:=σ') (by simpa using he.vec) he.len.symm AM;refine⟨b,i,hr.aDe (f.trans he.len.symm) λs=>?_,f,c,λs ver cs ow hb=>?_⟩
 .by_cases hm:s∈l.map (·.1);.exact .inr (.inr (d s hm).1)
  .rw[c s hm];rcases he.same s hm with e|e
   .exact .inl e
   .exact .inr (.inl e)
 .by_cases hm:s∈l.map (·.1)
  .obtain⟨_,q⟩:=d s hm;obtain⟨m,o,n,k⟩:=he.box s ver cs ow hb;rcases q with⟨Gv,Hp,O0,j,g⟩|q
   .exact⟨Gv,Hp,O0,j,λ_=>by rw[hb] at g;exact g⟩
   .exact absurd k (q _ _ _)
  .exact⟨ver,cs,ow,by rw[c s hm];exact hb,λh=>absurd h hm⟩
def Qw{σ σ0 b:BR}{ws W:List Nat}{l:List (Nat×Sh)}(h0:σ0=σ.clear ws)(hv:vp l ws σ=true)(hl:b.length=σ0.length)(h1:∀s,s∉l.map (·.1)->b.at s=σ0.at s)
  (h2:∀s ver cs ow,σ0.at s= .box ver cs ow->∃Gv Hp O0,b.at s= .box Gv Hp O0/\(s∈l.map (·.1)->ver<Gv)) (hW:∀s∈ws,s∈W):HN W σ b:=by
 refine⟨by rw[hl,h0,BR.KI],λs hs=>?_⟩;have ĸ:s∉ws:=λhm=>hs (hW s hm);have e0:σ0.at s=σ.at s:=by rw[h0,BR.I2,Ac ĸ]
 by_cases hm:s∈l.map (·.1)
 .obtain⟨p,hp,rfl⟩:=A7.1 hm;have:=DQ.1 hv p hp;simp only[JY,aHt] at this;rcases this with this|this
  .exact absurd this ĸ
  .cases hx:σ.at p.1 with
   |box ver cs ow=>obtain⟨c,i,d,g,f⟩:=h2 p.1 ver cs ow (by rw[e0];exact hx);have:=f hm;exact⟨c,i,d,g,Ab,λe=>Ab⟩
   |_=>rw[hx] at this;cases this
 .rw[h1 s hm,e0];exact .refl _
def Fk.le{n m:Nat}(h:Fk C (IT.run (Cd C) n))(b:m<=n):Fk C (IT.run (Cd C) m):=⟨h.1,λf args h0 r h' AM=>h.2 f args h0 r h' (IT.Iy b AM)⟩
def yl(hm:C.P.follows .mixedOrders=true):∀(c:Code) (n:Nat),Fk C (IT.run (Cd C) n)->∀{K:Gs->BR->IT} {R:Ku} {σ:BR} {h:Ai} {a:Act} {w:World} {U:Gh} {Z:Nat->Nat} {Q:Exit->Act->World->Prop},
  IT.step (Cd C) (IT.run (Cd C) n) (Gw C fid c σ K) h=some R->Db C U0 w0 U Z σ h a w->
  (∀x f d σ' h' a' w',IT.step (Cd C) (IT.run (Cd C) n) (K x σ') h'=some R->HN (Da c++Cn c) σ σ'->Db C U0 w0 f d σ' h' a' w'->Q (yi x) a' w')->c.wp C.P Q a w:=by
 intro c;induction c with
 |skip=>intro n p K R σ h a w U Z Q AM hr g;exact wp_skip (g .normal U Z σ h a w AM (.refl _ _) hr)
 |region id ops draw=>
  intro n p K R σ h a w U Z Q AM hr g;simp only[Gw] at AM;split at AM;.exact X5 hm p AM hr λf d σ' h' a' w' h1 h2 h3=>g .normal f d σ' h' a' w' h1 h2 h3
  .rename_i l hl;unfold eH at AM;simp only at AM;split at AM
   .rename_i hv;simp only[IT.step] at AM;split at AM
    .rename_i x vs h1 X6;refine X5 hm p X6 hr λf d σ' h' a' w' z u q=>?_;obtain⟨Ih,e,he⟩:=Qv (h:=h') z u (by rw[BR.KI]) (λs hs=>by rw[BR.I2,Af hs]) (λs _=>by rw[BR.I2];split<;>simp) (λs ver cs ow hb=>by
      rw[BR.I2] at hb;split at hb;.cases hb
      .exact⟨ver,cs,ow,hb⟩)
     cases e;obtain⟨k,E,D,J,I,G⟩:=he.next q AM;exact g .normal f d k h1 a' w' E (Qw rfl hv J I G (λs hs=>hs)) D
    .cases AM
   .cases AM
 |seq x y B A=>
  intro n p K R σ h a w U Z Q AM hr g;simp only[Gw] at AM;refine wp_seq (B n p AM hr λe f d σ' h' a' w' h1 h2 h3=>?_);have up:∀j,HN (Da x++Cn x) σ j->HN (Da (.seq x y)++Cn (.seq x y)) σ j:=λj ho=>ho.mono λs hs=>by simp only[Da,Cn,An] at hs⊢;rcases hs with hs|hs<;>simp[hs]
  cases e with
  |normal=>refine A n p h1 h3 λX U2 Z2 j lF a2 Y z u q=>g X U2 Z2 j lF a2 Y z ((up _ h2).trans (u.mono λs hs=>?_)) q;simp only[Da,Cn,An] at hs⊢;rcases hs with hs|hs<;>simp[hs]
  |exit i=>exact g (.exit i) f d σ' h' a' w' h1 (up _ h2) h3
  |ret=>exact g .ret f d σ' h' a' w' h1 (up _ h2) h3
 |cond c x y B A=>
  intro n p K R σ h a w U Z Q AM hr g;have M:∀{o j:BR},HN (Da x++Cn x) o j->HN (Da (.cond c x y)++Cn (.cond c x y)) o j:=λ{o j} ho=>ho.mono λs hs=>by cases c<;>simp only[Da,Cn,An,AE] at hs⊢<;>rcases hs with hs|hs<;>simp[hs]
  have L:∀{o j:BR},HN (Da y++Cn y) o j->HN (Da (.cond c x y)++Cn (.cond c x y)) o j:=λ{o j} ho=>ho.mono λs hs=>by cases c<;>simp only[Da,Cn,An,AE] at hs⊢<;>rcases hs with hs|hs<;>simp[hs]
  simp only[Gw] at AM;split at AM;.rename_i hc;obtain⟨s,h1,_⟩:=Gx hr hc;exact wp_cond_true h1 (B n p AM hr λe f d σ' h' a' w' z u q=>g e f d σ' h' a' w' z (M u) q)
  .rename_i hc;obtain⟨s,h1,_⟩:=Gx hr hc;exact wp_cond_false h1 (A n p AM hr λe f d σ' h' a' w' z u q=>g e f d σ' h' a' w' z (L u) q)
  .rename_i s v hc;have S:σ.at s= .val v:=Hs hc;have h0:=hr.fr.IJ s;rw[S] at h0;have F:∀{O:Gs->BR->IT} {R':Ku} {Q':Exit->Act->World->Prop},IT.step (Cd C) (IT.run (Cd C) n) (.A3 v (Gw C fid x (σ.set s (.P9 true)) O) (Gw C fid y (σ.set s (.P9 false)) O)) h=some R'->
     (∀e f d σ' h' a' w',IT.step (Cd C) (IT.run (Cd C) n) (O e σ') h'=some R'->HN (Da (.cond (.tmp s) x y)++Cn (.cond (.tmp s) x y)) σ σ'->Db C U0 w0 f d σ' h' a' w'->Q' (yi e) a' w')->(Code.cond (.tmp s) x y).wp C.P Q' a w:=by
    intro O R' Q' X4 N;have mz:∀b:Bool,HN (Da (.cond (.tmp s) x y)++Cn (.cond (.tmp s) x y)) σ (σ.set s (.P9 b)):=λb=> .set (by simp[Cn]);simp only[IT.step] at X4;split at X4;.have hv:a.eval (.tmp s)= .bool true:=h0;exact wp_cond_true hv (B n p X4 (hr.lT h0) λe f d σ' h' a' w' z u q=>N e f d σ' h' a' w' z ((mz true).trans (M u)) q)
    .have hv:a.eval (.tmp s)= .bool false:=h0;exact wp_cond_false hv (A n p X4 (hr.lT h0) λe f d σ' h' a' w' z u q=>N e f d σ' h' a' w' z ((mz false).trans (L u)) q)
    .cases X4
   split at AM;.exact F AM g
   .rename_i l hl;unfold eH at AM;simp only at AM;split at AM
    .rename_i hv;simp only[IT.step] at AM;split at AM
     .rename_i e vs h1 X6;refine F X6 λX f d σ' h' a' w' z u q=>?_;obtain⟨Ih,eq,he⟩:=Qv (h:=h') (ws:=s::(Da x++Da y++Cn x++Cn y)) z (u.mono λt ht=>by
        simp only[Da,Cn,An,AE] at ht⊢;rcases ht with(ht|ht)|ht|ht|ht<;>simp[ht]) (by rw[BR.KI]) (λt ht=>by rw[BR.I2,Af ht]) (λt _=>by rw[BR.I2];split<;>simp) (λt ver cs ow hb=>by
       rw[BR.I2] at hb;split at hb;.cases hb
       .exact⟨ver,cs,ow,hb⟩)
      cases eq;obtain⟨k,E,D,J,I,G⟩:=he.next q AM;exact g e f d k h1 a' w' E (Qw rfl hv J I G (λt ht=>by simp only[Da,Cn,An,AE] at ht⊢;rcases ht with ht|((ht|ht)|ht)|ht<;>simp[ht])) D
     .cases AM
    .cases AM
  .cases AM
 |block id b ih=>
  intro n p K R σ h a w U Z Q AM hr g;simp only[Gw] at AM;refine wp_block (ih n p AM hr λe f d σ' h' a' w' h1 h2 h3=>?_);cases e with
  |normal=>exact g .normal f d σ' h' a' w' h1 h2 h3
  |exit i=>
   simp only at h1;show if i=id then Q .normal a' w' else Q (.exit i) a' w'
   by_cases hi:i=id;.rw[Af hi] at h1⊢;exact g .normal f d σ' h' a' w' h1 h2 h3
   .rw[Ac hi] at h1⊢;exact g (.exit i) f d σ' h' a' w' h1 h2 h3
  |ret=>exact g .ret f d σ' h' a' w' h1 h2 h3
 |loop b ih=>
  intro n p K R σ h a w U Z Q AM hr g;simp only[Gw] at AM;generalize hl:C.aCN fid ((Ha b).getD 0)=l at AM;generalize aSl:(Ha b).getD 0=key at AM;generalize h0:σ.clear (Da b++Cn b)=σ0 at AM;split at AM
  .rename_i hv;split at AM;.cases AM
   .rename_i init aHZ;have aH0:σ0.length=σ.length:=by rw[<-h0,BR.KI]
    have ZH:∀s,s∈Da b++Cn b->σ0.at s= .undef:=λs hs=>by rw[<-h0,BR.I2,Af hs]
    refine fC (λm a w=>∃U Z o h vs,Db C U0 w0 U Z o h a w/\yk σ0 (Da b++Cn b) l o vs/\m<=n+1/\
     IT.run (Cd C) m (.loop key vs (λvs=>J6 vs l 0 σ0 λk=>Gw C fid b k λx σ'=>Ds σ0 l x σ') λx vs=>J6 vs l 0 σ0 λσ'=>aBC K x σ') h=some R) ?_ (n+1) a w
     ⟨U,Z,σ,h,init,hr,⟨aHZ,aH0.symm,λs _=>by rw[<-h0,BR.I2];split<;>simp,λs ver cs ow hb=>by
      rw[<-h0,BR.I2] at hb;split at hb;.cases hb
      .exact⟨ver,cs,ow,hb⟩⟩,Ad _,AM⟩
    rintro m a1 w1 ⟨U1,Z1,o,h1,vs,Kv,T,hmn,JB⟩;cases m with
    |zero=>simp[IT.run] at JB
    |succ m=>
     simp only[IT.run,IT.step] at JB;have body:∀{x:Gs} {Ih:List Aa} {h':Ai},IT.step (Cd C) (IT.run (Cd C) m) (J6 vs l 0 σ0 λk=>Gw C fid b k λx σ'=>Ds σ0 l x σ') h1=some (x,Ih,h')->∀{Q':Exit->Act->World->Prop},
       (∀f d σ' a' w',Db C U0 w0 f d σ' h' a' w'->yk σ0 (Da b++Cn b) l σ' Ih->Q' (yi x) a' w')->b.wp C.P Q' a1 w1:=by
      intro x Ih h' hb Q' V;obtain⟨k,E,D,J,I,G⟩:=T.next Kv hb;refine ih m (p.le Ab) E D λy f d σ' h2 a' w' z u q=>?_;obtain⟨vs2,eq,he⟩:=Qv z u J ZH (λs hs=> .inr (I s hs).symm) λs ver cs ow hb=>by obtain⟨v1,c1,o1,e1,_⟩:=G s ver cs ow hb;exact⟨v1,c1,o1,e1⟩
      cases eq;exact V f d σ' a' w' q he
     split at JB;.rename_i Ih h' hb;exact body hb λf d σ' a' w' HY mV=>⟨m,Uf m,f,d,σ',h',Ih,HY,mV,Ab,JB⟩
     .rename_i x Ih h' hne hb;refine body hb λf d σ' a' w' HY mV=>?_;have Vv:=IT.Kg (λt h r=>IT.Iy (fn:=Cd C) (Ab:m<=n)) _ _ _ JB;obtain⟨k,E,D,J,I,G⟩:=mV.next HY Vv;have ho:=Qw h0.symm hv J I G λs hs=>hs;cases x with
      |normal=>exact absurd rfl hne
      |exit i=>exact g _ f d k h' a' w' E ho D
      |ret=>exact g _ f d k h' a' w' E ho D
     .cases JB
  .cases AM
 |exit id=>intro n p K R σ h a w U Z Q AM hr g;exact wp_exit (g (.exit id) U Z σ h a w AM (.refl _ _) hr)
 |ret=>intro n p K R σ h a w U Z Q AM hr g;exact wp_ret (g .ret U Z σ h a w AM (.refl _ _) hr)
 |label l=>intro n p K R σ h a w U Z Q AM hr g;exact wp_label (g .normal U Z σ h a w AM (.refl _ _) hr)
 |scope b ih=>
  intro n p K R σ h a w U Z Q AM hr g;simp only[Gw] at AM;refine wp_scope_straight (ih n p AM hr λe f d σ' h' a' w' h1 h2 h3=>?_);cases e with
  |normal=>exact g .normal f d σ' h' a' w' h1 h2 h3
  |exit i=>exact g (.exit i) f d σ' h' a' w' h1 h2 h3
  |ret=>exact g .ret f d σ' h' a' w' h1 h2 h3
 |_=>intros n p K R σ h a w U Z Q AM hr g;cases AM
end
end Go.Am
end
section
namespace Go.Am
open Go
section
variable{C:Gj}{U0 U:Gh}{w0 w:World}{Z:Nat->Nat}{σ:BR}{h:Ai}{a:Act}{fid:FuncId}{run:IT->Ai->Option Ku}
def I3(tmps:Array Value):ResultVar->Sem Value
 | .tmp t=>pure (tmps.getD t undef)
 | .cell a t=>do loadVar t (<-asAddr (tmps.getD a undef))
def To{P:Program}{t:TypeId}{b o:Nat}{v:Value}(h:(Instr.loadAt t (.pointer (some ⟨b,o,none⟩))).run P w= .ok v w):(loadVar t ⟨b,o,none⟩).run P w= .ok v w:=by simpa[Instr.loadAt,Instr.sureAddr] using h
def Vx{K:List Aa->IT}{R:Ku}:∀{rs:List ResultVar} {D7:List Aa},IT.step (Cd C) run (GS C σ rs D7 K) h=some R->Db C U0 w0 U Z σ h a w->
  ∃vs us,(rs.mapM (I3 a.tmps)).run C.P w= .ok us w/\A8 U vs us/\IT.step (Cd C) run (K (D7.reverse++vs)) h=some R
 |[],D7,AM,hr=>⟨[],[],AB,rfl,by simpa[GS] using AM⟩
 |f::rs,D7,AM,hr=>by
  have one:∀(v:Aa) (u:Value),(I3 a.tmps f).run C.P w= .ok u w->BP U v u->IT.step (Cd C) run (GS C σ rs (v::D7) K) h=some R->
    ∃vs us,((f::rs).mapM (I3 a.tmps)).run C.P w= .ok us w/\A8 U vs us/\IT.step (Cd C) run (K (D7.reverse++vs)) h=some R:=by
   intro v u h1 h2 h3;obtain⟨vs,us,y,x,q⟩:=Vx h3 hr;refine⟨v::vs,u::us,?_,⟨u,us,rfl,h2,x⟩,by simpa using q⟩;simp[List.mapM_cons,h1,y]
  cases f with
  |tmp t=>
   simp only[GS] at AM;split at AM;.rename_i v hv;exact one v _ (by simp[I3]) (Om (hr.fr.IJ t) hv) AM
   .cases AM
  |cell p t=>
   have c:∀(b o:Nat) (v:Aa),a.tmps.getD p undef= .pointer (some ⟨b,o,none⟩)->(∃u,(Instr.loadAt t (.pointer (some ⟨b,o,none⟩))).run C.P w= .ok u w/\BP U v u)->IT.step (Cd C) run (GS C σ rs (v::D7) K) h=some R->
     ∃vs us,((ResultVar.cell p t::rs).mapM (I3 a.tmps)).run C.P w= .ok us w/\A8 U vs us/\IT.step (Cd C) run (K (D7.reverse++vs)) h=some R:=by
    intro b o v hp ⟨u,h1,h2⟩ h3;refine one v u ?_ h2 h3;simp only[I3,hp,asAddr,Sem.run_bind,Sem.run_pure,Result.andThen_ok];exact To h1
   simp only[GS] at AM;split at AM
   .rename_i s off ver cs ow ht ha;split at AM;.rename_i hlt;obtain⟨hs,hx⟩:=L1 hr ha;obtain⟨u,i,g,_⟩:=LN hr ht hs (r:=cs.getD off .nilIface) (off:=off) (by simp[FG,List.getD,Av hlt]);exact c _ _ _ hx ⟨u,i,g⟩ AM
    .cases AM
   .rename_i n s off ver cs ow ht ha;split at AM;.rename_i EU;obtain⟨hs,hx⟩:=L1 hr ha;obtain⟨u,i,g,_⟩:=LN hr ht hs (r:= .agg ((cs.drop off).take n)) (off:=off) (by simp[FG,EU]);exact c _ _ _ hx ⟨u,i,g⟩ AM
    .cases AM
   .rename_i n p' ht ha;simp only[IT.step] at AM;split at AM
    .rename_i v hv;have xB:=Sj hr ha;unfold Bn at hv;split at hv;.rename_i cs;obtain⟨b,k,mI,hm⟩:=xB;obtain⟨us,l,d⟩:=hm.values;exact c b k v mI (I1 (w:=w) ht l (λj u hj=>(hr.Ee.IQ _ _ _ (d j u hj)).1) (λu hu=>by obtain⟨j,hj⟩:=CP hu;exact(hr.Ee.IQ _ _ _ (d j u hj)).2.1) hv) AM
     .rename_i id off;obtain⟨b,hb,mI⟩:=xB;split at hv
      .rename_i cs hcs;obtain⟨us,e,fr,l,pf,d,m⟩:=hr.Ee.cells id cs hcs b hb;refine c b off v mI (I1 (w:=w) (b:=b) (o:=off) ht (d.drop off) (λj u hj=>?_) (λu hu=>m u (AY hu)) (Qp hv)) AM;rw[cell_of_row w _ _ us e fr l];rw[CF,CA] at hj;split at hj;.simpa using hj
       .cases hj
      .cases hv
     .cases hv
    .cases AM
   .cases AM
def Db.IX(hr:Db C U0 w0 U Z σ h a w){p:Aa}{off:Nat}{u:Value}{h':Ai}(hp:BP U p u)(hf:Lg h off p=some h'):∃t,Db C U0 w0 t Z σ h' a w:=by
 unfold Lg at hf;split at hf;.cases hf;exact⟨U,hr⟩
 .rename_i id r;generalize r+off=o at hf;obtain⟨b,hb,_⟩:=hp;split at hf
  .rename_i cs hcs;split at hf
   .rename_i v hv;obtain⟨us,e,fr,c,pf,n,B⟩:=hr.Ee.cells id cs hcs b hb;obtain⟨x,hx,g⟩:=n.get hv;cases hq:LW h v with
    |none=>rw[hq] at hf;cases hf
    |some q=>
     obtain⟨h1,v'⟩:=q;rw[hq] at hf;simp only[Cw] at hf;split at hf
     .rename_i Hp aH1;cases hf;obtain⟨U1,EU,Kv,ŏ⟩:=hr.VY g hq;have Qx:=EU.mu _ _ hb;obtain⟨k,D,s,j,l,r2,m⟩:=Kv.Ee.cells id Hp aH1 b Qx;rw[c] at j;cases j;have mz:A8 U1 (Hp.set o v') (us.toList.take (Hp.set o v').length):=by
       rw[Ch];refine A8.Hr (by simp[r2.length]) λi y z hy hz=>?_;by_cases hi:o=i
       .subst hi;by_cases hlt:o<Hp.length
        .rw[AI hlt] at hy;cases hy;have f:x=z:=by rw[CM hlt] at hz;have aMw:o<cs.length:=(Aj.1 hv).1;rw[CM aMw] at hx;rw[hx] at hz;exact E8 hz
         rw[<-f];exact ŏ
        .rw[En (by simpa using hlt)] at hy;cases hy
       .rw[Aq hi] at hy;obtain⟨A,ZN,d⟩:=r2.get hy;rw[hz] at ZN;cases ZN;exact d
      obtain⟨bR,UB⟩:=Oj Kv.Ee aH1 Qx c us (Hp.set o v') rfl l mz (by rw[Ch];exact m);rw[setRow_self w b us e fr c] at bR UB;exact⟨U1,Kv.Jw bR UB⟩
     .cases hf
   .cases hf
  .cases hf
 .cases hf
def xN{t:IT}{R:Ku}:∀{l:List (Nat×Nat)} {U:Gh} {h:Ai},IT.step (Cd C) run (wQ C σ l t) h=some R->Db C U0 w0 U Z σ h a w->∃b h',Db C U0 w0 b Z σ h' a w/\IT.step (Cd C) run t h'=some R
 |[],U,h,AM,hr=>⟨U,h,hr,AM⟩
 |(s,off)::l,U,h,AM,hr=>by
  simp only[wQ] at AM;split at AM
  .rename_i p hp;simp only[IT.step] at AM;split at AM;.rename_i h1 hf;obtain⟨U1,Kv⟩:=hr.IX (Om (hr.fr.IJ s) hp) hf;exact xN AM Kv
   .cases AM
  .cases AM
def X7{R:Ku}:∀{vs D7:List Aa} {U:Gh} {h:Ai} {us ud:List Value},IT.step (Cd C) run (Qj vs D7 Vk) h=some R->Db C U0 w0 U Z σ h a w->A8 U vs us->A8 U D7.reverse ud->
  ∃c h' Ih,Db C U0 w0 c Z σ h' a w/\A8 c Ih (ud++us)/\IT.step (Cd C) run (Vk Ih) h'=some R
 |[],D7,U,h,us,ud,AM,hr,h1,h2=>by rw[show us=[] from h1,Bg];exact⟨U,h,D7.reverse,hr,h2,AM⟩
 |v::vs,D7,U,h,us,ud,AM,hr,h1,h2=>by
  obtain⟨u,DR,rfl,hv,h1⟩:=h1;simp only[Qj,IT.step] at AM;split at AM
  .rename_i h3 v' hf;obtain⟨U1,EU,Kv,ŏ⟩:=hr.VY hv hf;have i:A8 U1 (v'::D7).reverse (ud++[u]):=by rw[ES];exact(A8.mono EU _ _ h2).append ⟨u,[],rfl,ŏ,rfl⟩
   obtain⟨j,g,b,f,e,d⟩:=X7 AM Kv (A8.mono EU _ _ h1) i;exact⟨j,g,b,f,by rwa [A6] at e,d⟩
  .cases AM
def xO{R:Ku}{vs:List Aa}{us:List Value}{U:Gh}{h:Ai}(AM:IT.step (Cd C) run (Vk vs) h=some R)(hv:A8 U vs us):
  ∃r,R=(.ret,[r],h)/\BP U r (if c:us.toArray.size=1 then us.toArray[0] else .tuple us.toArray):=by
 unfold Vk at AM;split at AM;.rename_i v;obtain⟨u,DR,rfl,b,hnil⟩:=hv;rw[show DR=[] from hnil];simp only[IT.step] at AM;cases AM;exact⟨v,rfl,by simpa using b⟩
 .rename_i hne;simp only[IT.step] at AM;cases AM;have hlen:us.length≠1:=λe=>by have:=hv.length;rw[e] at this;obtain⟨v,hv⟩:=aGX.1 this.symm;exact hne v hv
  refine⟨_,rfl,?_⟩;rw[dif_neg (by simpa using hlen)];exact⟨us.toArray,rfl,by simpa using hv⟩
def Vy{fn:Func}{tmps:Array Value}{us:List Value}(h:(fn.results.toList.mapM (I3 tmps)).run C.P w= .ok us w):(results fn tmps).run C.P w= .ok (if b:us.toArray.size=1 then us.toArray[0] else .tuple us.toArray) w:=by
 have e:fn.results.mapM (I3 tmps)=(do let l<-fn.results.toList.mapM (I3 tmps);pure l.toArray:Sem (Array Value)):=by rw[Array.mapM_eq_mapM_toList];simp
 have c:results fn tmps=(do let vs<-fn.results.mapM (I3 tmps);pure (if b:vs.size=1 then vs[0] else .tuple vs):Sem Value):=by unfold results;congr 2
 rw[c,e];simp only[Sem.run_bind,h,Result.andThen_ok,Sem.run_pure]
def ŝ{fn:Func}{R:Ku}(AM:IT.step (Cd C) run (lS C fid fn σ) h=some R)(hr:Db C U0 w0 U Z σ h a w):
  ∃r h' v f,R=(.ret,[r],h')/\(results fn a.tmps).run C.P w= .ok v w/\Ic f h' w/\M1 U0 w0 f w/\BP f r v/\(C.KC fid=true->∃s c,JO f w0.heap.size w s c v r):=by
 unfold lS at AM;split at AM;.cases AM
 .rename_i FX;obtain⟨U1,h1,Kv,JB⟩:=xN AM hr;by_cases ho:C.KC fid=true
  .have g:∃t x,fn.results.toList=[.tmp t]/\σ.at t= .BT x:=by
    have:Rf σ fn.results.toList=true:=by
     cases hq:Rf σ fn.results.toList with
     |true=>rfl
     |false=>exact absurd (by simp[ho,hq]) FX
    unfold Rf at this;split at this
    .rename_i t K4;split at this;.rename_i x hx;exact⟨t,x,K4,hx⟩
     .cases this
    .cases this
   obtain⟨t,x,d,hx⟩:=g;have h0:=Kv.fr.IJ t;rw[hx] at h0;have Ş:=Vy (C:=C) (w:=w) (fn:=fn) (tmps:=a.tmps) (us:=[a.tmps.getD t undef]) (by rw[d];simp[I3]);rw[d] at JB;simp only[GS,hx,EM.HH,ES,Ue,BA] at JB;have aH2:LW h1 x=some (h1,x):=by rcases h0.2 with(rfl|⟨_,rfl⟩)|⟨_,_,_,_,_,_,_,rfl,_⟩<;>rfl
   have hR:R=(.ret,[x],h1):=by
    split at JB;.simp only[Qj,IT.step,aH2,ES,Ue,BA,Vk] at JB;cases JB;rfl
    .simp only[IT.step,Vk] at JB;cases JB;rfl
   exact⟨x,h1,_,U1,hR,by simpa using Ş,Kv.Ee,Kv.D7,h0.1,λ_=>⟨t,none,h0.2⟩⟩
  .obtain⟨vs,us,n,k,Vv⟩:=Vx JB Kv;simp only[Ue,BA] at Vv;have Ş:=Vy (C:=C) n;split at Vv;.obtain⟨o,h2,l,j,i,m⟩:=X7 Vv Kv k (ud:=[]) rfl;rw[BA] at i;obtain⟨r,hR,b⟩:=xO m i;exact⟨r,h2,_,o,hR,Ş,j.Ee,j.D7,b,λe=>absurd e ho⟩
   .obtain⟨r,hR,b⟩:=xO Vv k;exact⟨r,h1,_,U1,hR,Ş,Kv.Ee,Kv.D7,b,λe=>absurd e ho⟩
def Db.start{U:Gh}{h:Ai}{w:World}(hi:Ic U h w)(hg:∀g cs,C.HB g=some cs->C2 U cs g 0){args:List Aa}{cargs:Array Value}(ha:A8 U args cargs.toList)(n:Nat)(Z:Nat->Nat):
  Db C U w U Z (args.map .val++List.replicate (n-args.length) .undef) h {tmps:=cargs++Array.replicate (n-cargs.size) undef,defers:=[]} w:=by
 have hlen:cargs.size=args.length:=by have:=ha.length;simpa using this
 refine⟨hi,⟨by simp[hlen],λs=>?_⟩,M1.refl U w,rfl,hg⟩;by_cases hs:s<args.length
 .have h1:BR.at (args.map .val++List.replicate (n-args.length) .undef) s= .val args[s]:=by simp[BR.at,List.getD,Al,hs]
  obtain⟨u,hu,hr⟩:=ha.get (Av hs);have h2:(cargs++Array.replicate (n-cargs.size) undef).getD s undef=u:=by
   rw[Hw,Array.getElem?_append_left Ab];have:cargs[s]?=some u:=by simpa using hu
   rw[this];rfl
  rw[h1,h2];exact hr
 .have h1:BR.at (args.map .val++List.replicate (n-args.length) .undef) s= .undef:=by have hm:(args.map EM.val).length=args.length:=AB;simp only[BR.at,List.getD];rw[Bu Ab,List.getElem?_replicate];split<;>rfl
  rw[h1];trivial
def fE(C:Gj):Prop:=
 (∀f,C.Mm f=true->xi C f)/\∀(f:FuncId) (p:List Aa->IT),C.aCO f=some p->∀n,Fk C (IT.run (Cd C) n)->∀(args:List Aa) (h:Ai) (r:Aa) (h':Ai),IT.step (Cd C) (IT.run (Cd C) n) (p args) h=some (.ret,[r],h')->
  (∃fn c,C.P.funcs[Fe f]?=some fn/\(fn.name== "runtime.NumGoroutine")=false/\fn.body=some c)/\
  ∀(U:Gh) (w:World) (cargs:Array Value),Ic U h w->(∀g cs,C.HB g=some cs->C2 U cs g 0)->A8 U args cargs.toList->
   Calls C.P (Fe f) cargs w λe w'=>match e with
    | .returned v=>∃b,Ic b h' w'/\M1 U w b w'/\BP b r v/\(C.KC f=true->∃s c,JO b w.heap.size w' s c v r)
    |_=>False
def mW(hm:C.P.follows .mixedOrders=true)(ş:∀g cs,C.HB g=some cs->cs.all Aa.Nx=true)(Ĺ:fE C):∀n,Fk C (IT.run (Cd C) n)
 |0=>⟨⟨ş,Ĺ.1⟩,λf args h r h' AM=>by simp[IT.run] at AM⟩
 |n+1=>⟨⟨ş,Ĺ.1⟩,λf args h r h' AM=>by
  have ih:=mW hm ş Ĺ n;simp only[IT.run] at AM;unfold Cd at AM;split at AM;.rename_i p hp;exact Ĺ.2 f p hp n ih args h r h' AM
  unfold aHA at AM;split at AM
  .rename_i fn hf;split at AM;.cases AM
   .rename_i hname;unfold vq at AM;split at AM;.cases AM
    .rename_i c hb;refine⟨⟨fn,c,hf,by simpa using hname,hb⟩,λU w cargs hi hg ha=>calls_of_wp hf hb ?_⟩;refine yl (C:=C) (fid:=f) hm c n ih AM (Db.start hi hg ha fn.ntmps (λ_=>0)) λx u t σ' h1 a' w' d _ j=>?_;have Jz:IT.step (Cd C) (IT.run (Cd C) n) (lS C f fn σ') h1=some (.ret,[r],h')->a'.defers=[]/\∃v,(results fn a'.tmps).run C.P w'= .ok v w'/\∃b,Ic b h' w'/\M1 U w b w'/\BP b r v/\(C.KC f=true->∃s c,JO b w.heap.size w' s c v r):=λaMz=>by obtain⟨r',h2,v,b,e,q,o,m,l,k⟩:=ŝ aMz j;cases e;exact⟨j.defers,v,q,b,o,m,l,k⟩
     cases x with
     |normal=>exact Jz d
     |ret=>exact Jz d
     |exit i=>cases d
  .cases AM⟩
end
def Ev.calls{C:Gj}(hm:C.P.follows .mixedOrders=true)(ş:∀g cs,C.HB g=some cs->cs.all Aa.Nx=true)(Ĺ:fE C){f:FuncId}{args:List Aa}{h:Ai}{Q:Aa->Ai->Prop}(Qa:Ev C f args h Q){U:Gh}{w:World}{cargs:Array Value}(hi:Ic U h w)(hg:∀g cs,C.HB g=some cs->C2 U cs g 0)(ha:A8 U args cargs.toList):
  Calls C.P (Fe f) cargs w λe w'=>match e with
   | .returned v=>∃r h' b,Q r h'/\Ic b h' w'/\M1 U w b w'/\BP b r v
   |_=>False:=by
 obtain⟨n,x,vs,h',AM,rfl,r,rfl,hQ⟩:=Qa;refine(((mW hm ş Ĺ n).2 f args h r h' AM).2 U w cargs hi hg ha).mono λe w' he=>?_;cases e with
 |returned v=>obtain⟨b,i,d,c,_⟩:=he;exact⟨r,h',b,hQ,i,d,c⟩
 |_=>exact he
end Go.Am
end
section
namespace Go.Am
open Go
inductive Ty where
 |bool
 |int (k:IntKind)
 |str
 |sl (e:Ty)
 |st (fs:List Ty)
 deriving Inhabited
mutual
def Ty.size:Ty->Nat
 | .bool| .int _| .str| .sl _=>1
 | .st fs=>Ty.NM fs
def Ty.NM:List Ty->Nat
 |[]=>0
 |t::ts=>Ty.size t+Ty.NM ts
end
mutual
def Tp(P:Program):Ty->TypeId->Bool
 | .bool,t=>match P.underlying t with|some .bool=>true|_=>false
 | .int k,t=>match P.underlying t with|some (.int k')=>decide (k'=k)|_=>false
 | .str,t=>match P.underlying t with|some .string=>true|_=>false
 | .sl e,t=>match P.underlying t with
  |some (.slice b)=>P.cellsOf b==Ty.size e&&decide (0<Ty.size e)&&Tp P e b
  |_=>false
 | .st fs,t=>match P.underlying t with
  |some (.struct fields)=>P.cellsOf t==Ty.NM fs&&Qy P fs fields.toList 0
  |_=>false
def Qy(P:Program):List Ty->List Field->Nat->Bool
 |[],[],_=>true
 |ty::tys,f::fs,off=>f.offset==off&&P.cellsOf f.type==Ty.size ty&&Tp P ty f.type&&Qy P tys fs (off+Ty.size ty)
 |_,_,_=>false
end
mutual
def fF:Ty->List Aa->Prop
 | .bool,l=>∃b,l=[.bool b]
 | .int k,l=>∃n,l=[.int k n]/\(Lit.int k n).wf=true
 | .str,l=>∃s:Ah,l=[.str s]/\s.length<=maxLen
 | .sl e,l=>l=[.slnil]\/∃Ax:List (List Aa),l=[.sl (Ty.size e) Ax]/\Ax.length<=maxLen/\∀r∈Ax,fF e r
 | .st fs,l=>ni fs l
def ni:List Ty->List Aa->Prop
 |[],l=>l=[]
 |ty::tys,l=>∃a b,l=a++b/\fF ty a/\ni tys b
end
def Ty.aDg:Ty->Bool
 | .st _=>true
 |_=>false
def ym(ty:Ty)(a:Aa):Prop:=if ty.aDg then∃cs,a= .agg cs/\fF ty cs else fF ty [a]
def WJ:List Ty->List Aa->Prop
 |[],l=>l=[]
 |ty::tys,l=>∃a b,l=a::b/\ym ty a/\WJ tys b
def Gy(W:World):Gh:={IQ:=λb o=>(W.cell? ⟨b,o,none⟩).filter (·.oneCell'),mu:=λ_=>none,BT:=λ_=>none,sz:=λ_=>none}
def yn(W:World):Ic (Gy W) [] W:=by refine⟨λb o v h=>?_,λid x h=>by simp at h,λid cs h=>by simp at h,λid es h=>by simp at h,λid b h=>(by cases h),λb x h=>(by cases h),λb n h=>(by cases h)⟩;simp only[Gy,RK] at h;exact⟨h.1,h.2,.inl rfl⟩
def UD{W:World}{b o:Nat}{v:Value}(h:W.cell? ⟨b,o,none⟩=some v)(h1:v.oneCell'=true):(Gy W).IQ b o=some v:=by simp[Gy,h,h1,Option.filter]
def Vz{V:Type}{p:Nat->V->Prop}:∀(n:Nat),(∀i,i<n->∃x,p i x)->∃l:List V,l.length=n/\∀i x,l[i]?=some x->p i x
 |0,_=>⟨[],rfl,AB⟩
 |n+1,h=>by
  obtain⟨l,hl,hp⟩:=Vz n λi hi=>h i Ab;obtain⟨x,hx⟩:=h n Ab;refine⟨l++[x],by simp[hl],λi y hy=>?_⟩;rw[aKV] at hy;split at hy;.exact hp i y hy
  .have:i-l.length=0:=by
    rcases Ge (i-l.length) with h0|h0
    .exact h0
    .rw[En Et] at hy;cases hy
   rw[this] at hy;simp at hy;subst hy;have:i=n:=Ab;rw[this];exact hx
section
variable{H:Type}{enc:TypeId×Value->H}{P:Program}{W:World}
def RV{a:Addr}{n:Nat}{cs:List Value}(h:W.cells? 0 a n=some cs)(hn:0<n):a.spot=none:=by
 obtain⟨_,hl,hc⟩:=World.cells?_some h;have h0:=hc 0 hn;have hlt:0<cs.length:=Ab;rw[Av hlt] at h0;unfold World.cell? at h0;have ha:a.add 0=a:=by simp[Addr.add]
 rw[ha] at h0;split at h0
 .split at h0;.cases h0
  .rename_i hs;simpa using hs
 .cases h0
mutual
def fG:∀(ty:Ty) {t:TypeId} {fuel:Nat} {cs:List Value} {x:DataW H×List MemPlace},Tp P ty t=true->DataW.trod enc P W 0 (λ_=>true) true fuel t cs=some x->
  ∃as,fF ty as/\A8 (Gy W) as cs/\(∀u∈cs,u.oneCell'=true)/\as.length=Ty.size ty
 | .bool,t,fuel,cs,x,JA,h=>by
  unfold Tp at JA;split at JA;.rename_i ht;obtain⟨b,rfl,_⟩:=DataW.trod_bool ht h;exact⟨[.bool b],⟨b,rfl⟩,⟨_,[],rfl,rfl,rfl⟩,by simp[Value.oneCell'],rfl⟩
  .cases JA
 | .int k,t,fuel,cs,x,JA,h=>by
  unfold Tp at JA;split at JA
  .rename_i k' ht;have hk:k'=k:=by simpa using JA
   subst hk;obtain⟨n,rfl,_,hw⟩:=DataW.trod_int ht h;exact⟨[.int k' n],⟨n,rfl,hw⟩,⟨_,[],rfl,rfl,rfl⟩,by simp[Value.oneCell'],rfl⟩
  .cases JA
 | .str,t,fuel,cs,x,JA,h=>by
  unfold Tp at JA;split at JA
  .rename_i ht;obtain⟨s,rfl,_,hs⟩:=DataW.trod_string ht h;refine⟨[.str s.data.toList],⟨_,rfl,by
    have e:s.data.toList.length=s.size:=by rw[Cp];rfl
    rw[e];exact hs⟩,⟨_,[],rfl,?_,rfl⟩,by simp[Value.oneCell'],rfl⟩
   show Value.string s= .string ⟨⟨s.data.toList⟩⟩;congr 1
  .cases JA
 | .sl e,t,fuel,cs,x,JA,h=>by
  unfold Tp at JA;split at JA
  .rename_i A ht;simp only[Bb,ı,Ct] at JA;obtain⟨⟨hce,hpos⟩,aMA⟩:=JA;rcases DataW.trod_slice ht h with⟨rfl,_⟩|⟨a,len,cap,elems,rest,n,_,rfl,_,_,hl,hm,hlen,c,hsp,_⟩
   .exact⟨[.slnil],.inl rfl,⟨_,[],rfl,rfl,rfl⟩,by simp[Value.oneCell'],rfl⟩
   .have spot:0<cap->a.spot=none:=λhc=>by
     have ha:a.add 0=a:=by simp[Addr.add]
     rcases Ge len with h0|h0
     .obtain⟨Kv,M5⟩:=hsp rfl;have:=M5 0 Ab;rw[Av (Ab:0<rest.length)] at this;have z:(len+0)*P.cellsOf A=0:=by rw[h0];simp
      rw[z,ha] at this;obtain⟨vs,hv,_⟩:=Ug.1 this;exact RV hv Ab
     .have:=c 0 h0;rw[Av (Ab:0<elems.length)] at this;rw[Ns,ha] at this;obtain⟨vs,hv,_⟩:=Ug.1 this;exact RV hv Ab
    obtain⟨Ax,rJ,mM⟩:=Vz (p:=λi (r:List Aa)=>fF e r/\r.length=Ty.size e/\C2 (Gy W) r a.block (a.off+i*Ty.size e)) len λi hi=>by
     have:=c i hi;rw[Av (Ab:i<elems.length)] at this;obtain⟨vs,hv,hd⟩:=Ug.1 this;obtain⟨r,m,g,d,l⟩:=fG e aMA hd;refine⟨r,m,l,C2.Hr λj y hj=>?_⟩;obtain⟨u,hu,q⟩:=g.get hj;obtain⟨_,hvl,v⟩:=World.cells?_some hv;have qI:j<P.cellsOf A:=by have:=(Aj.1 hu).1;omega
     have hc:=v j qI;rw[hu] at hc;have qZ:a=⟨a.block,a.off,none⟩:=by have:=spot Ab;cases a;simp_all
     have M4:(a.add (i*P.cellsOf A)).add j=⟨a.block,a.off+i*Ty.size e+j,none⟩:=by rw[hce];generalize a.block=b at*;generalize a.off=o at*;subst qZ;rw[Addr.add_lit,Addr.add_lit]
     rw[M4] at hc;exact⟨u,UD hc (d u (CH hu)),q⟩
    refine⟨[.sl (Ty.size e) Ax],.inr ⟨Ax,rfl,Ab,λr hr=>?_⟩,⟨_,[],rfl,⟨a,cap,by rw[rJ],Ab,?_,Fb.Hr λi r hr=>?_⟩,rfl⟩,by simp[Value.oneCell'],rfl⟩;.obtain⟨i,hi⟩:=CP hr;exact(mM i r hi).1
    .rcases Ge cap with h0|h0
     .exact .inr h0
     .exact .inl (spot h0)
    .exact⟨(mM i r hr).2.1,(mM i r hr).2.2⟩
  .cases JA
 | .st fs,t,fuel,cs,x,JA,h=>by
  unfold Tp at JA;split at JA
  .rename_i fields ht;simp only[Bb,ı] at JA;obtain⟨hct,hf⟩:=JA;obtain⟨xs,n,_,_,hcl,B,Ny⟩:=DataW.trod_struct ht h;obtain⟨as,m,g,d,l⟩:=VA fs (fields:=fields.toList) (off:=0) (cs:=cs) (n:=n) hf (λi f hi=>by
    have:=Ny i f (by simpa using hi);have hlt:i<fields.size:=by have:=(Aj.1 hi).1;simpa using this
    rw[Av (Ab:i<xs.length)] at this;exact⟨_,this⟩) (by rw[hcl,hct];omega)
   have D:(cs.drop 0).take (Ty.NM fs)=cs:=by rw[FO];exact Bf (by rw[hcl,hct];exact Ad _)
   rw[D] at g d;exact⟨as,m,g,d,l⟩
  .cases JA
def VA:∀(tys:List Ty) {fields:List Field} {off:Nat} {cs:List Value} {n:Nat},Qy P tys fields off=true->
  (∀(i:Nat) (f:Field),fields[i]?=some f->∃y,DataW.trod enc P W 0 (λ_=>true) true n f.type ((cs.drop f.offset).take (P.cellsOf f.type))=some y)->off+Ty.NM tys<=cs.length->
  ∃as,ni tys as/\A8 (Gy W) as ((cs.drop off).take (Ty.NM tys))/\(∀u∈(cs.drop off).take (Ty.NM tys),u.oneCell'=true)/\as.length=Ty.NM tys
 |[],fields,off,cs,n,JA,h,hl=>by refine⟨[],rfl,?_,?_,rfl⟩<;>simp[Ty.NM,A8]
 |ty::tys,fields,off,cs,n,JA,h,hl=>by
  cases fields with
  |nil=>simp[Qy] at JA
  |cons f fs=>
   simp only[Qy,Bb,ı] at JA;obtain⟨⟨⟨ho,hc⟩,bG⟩,xy⟩:=JA;obtain⟨y,hy⟩:=h 0 f rfl;rw[ho,hc] at hy;obtain⟨as,m,l,k,j⟩:=fG ty bG hy;simp only[Ty.NM] at hl;obtain⟨bs,e,d,c,b⟩:=VA tys xy (λi g hi=>h (i+1) g (by simpa using hi)) Ab;have o:(cs.drop off).take (Ty.NM (ty::tys))=(cs.drop off).take (Ty.size ty)++(cs.drop (off+Ty.size ty)).take (Ty.NM tys):=by simp only[Ty.NM];rw[aBu,Ew]
   rw[o];refine⟨as++bs,⟨as,bs,rfl,m,e⟩,l.append d,λu hu=>?_,by simp[j,b,Ty.NM]⟩;rcases An.1 hu with hu|hu
   .exact k u hu
   .exact c u hu
end
def fH{ty:Ty}{t:TypeId}{v:Value}{base:Nat}(JA:Tp P ty t=true)(hv:Value.okWide P W .any base t v):if ty.aDg then∃cs,v= .agg cs else v.cells=#[v]:=by
 cases ty with
 |st fs=>
  unfold Tp at JA;split at JA;.rename_i fields ht;unfold Value.okWide at hv;rw[ht] at hv;obtain⟨cs,e,_⟩:=hv;exact⟨cs,e⟩
  .cases JA
 |_=>
  unfold Tp at JA;split at JA;.rename_i ht;unfold Value.okWide at hv;rw[ht] at hv;simp only[Cell.okWide,ht,Cell.ok] at hv;cases v<;>first|rfl|exact hv.elim
  .cases JA
def bX:∀{tys:List Ty} {ts:List TypeId} {vs:List Value} {ds:List (DataW H)} {ps:List MemPlace} {base:Nat},DataW.TrodAll enc P W 0 (λ_=>true) true ts vs ds ps->tys.length=ts.length->(∀(i:Nat) (ty:Ty) (t:TypeId),tys[i]?=some ty->ts[i]?=some t->Tp P ty t=true)->
  (∀(i:Nat) (t:TypeId) (v:Value),ts[i]?=some t->vs[i]?=some v->Value.okWide P W .any base t v)->∃as,WJ tys as/\A8 (Gy W) as vs
 |[],[],[],[],_,_,_,_,_,_=>⟨[],rfl,rfl⟩
 |ty::tys,t::ts,v::vs,d::ds,ps,base,⟨p,q,⟨fuel,h1⟩,h2,_⟩,hl,JA,RH=>by
  have bG:=JA 0 ty t rfl rfl;obtain⟨cells,f,b,k,l⟩:=fG ty bG h1;obtain⟨bs,j,g⟩:=bX h2 (by simpa using hl) (λi ty t h h'=>JA (i+1) ty t (by simpa using h) (by simpa using h')) (λi t v h h'=>RH (i+1) t v (by simpa using h) (by simpa using h'));have hc:=fH bG (RH 0 t v rfl rfl);have:∃a,ym ty a/\BP (Gy W) a v:=by
   by_cases JM:ty.aDg=true;.rw[Af JM] at hc;obtain⟨us,rfl⟩:=hc;exact⟨.agg cells,(by unfold ym;rw[Af JM];exact⟨cells,rfl,f⟩),us,rfl,by simpa[Value.cells] using b,by simpa[Value.cells] using k⟩
   .rw[Ac JM] at hc;rw[hc] at b;obtain⟨u,us,e,hu,hnil⟩:∃c Hp,cells=c::Hp/\BP (Gy W) c v/\Hp=[]:=by
     cases cells with
     |nil=>cases b
     |cons c Hp=>obtain⟨u,DR,e,h1,h2⟩:=b;simp at e;obtain⟨rfl,rfl⟩:=e;exact⟨c,Hp,rfl,h1,by cases Hp with|nil=>rfl|cons _ _=>obtain⟨_,_,e,_⟩:=h2;cases e⟩
    subst hnil;subst e;exact⟨u,(by unfold ym;rw[Ac JM];exact f),hu⟩
  obtain⟨a,ha,hr⟩:=this;exact⟨a::bs,⟨a,bs,rfl,ha,j⟩,⟨v,vs,rfl,hr,g⟩⟩
 |[],_::_,_,_,_,_,_,hl,_,_=>by simp at hl
 |_::_,[],_,_,_,_,_,hl,_,_=>by simp at hl
 |[],[],_::_,_,_,_,h,_,_,_=>by cases h
 |[],[],[],_::_,_,_,h,_,_,_=>by cases h
 |_::_,_::_,[],_,_,_,h,_,_,_=>by cases h
 |_::_,_::_,_::_,[],_,_,h,_,_,_=>by cases h
def X8{W':World}{may:MemPlace->Prop}(h1:W'.os=W.os)(h2:W'.output=W.output)(hb:∀i,i<W.heap.size->W'.heap[i]?=W.heap[i]?):W.keptBut W' may:=by
 refine⟨h1,h2,λi hi=>?_⟩;rw[hb i hi];split;.rename_i c t fr c' t' lp d b;rw[d] at b;cases b;exact⟨rfl,rfl,rfl,λ_ _=>rfl⟩
 .rename_i d b;rw[d] at b;cases b;exact .inr ⟨rfl,rfl⟩
 .rfl
def RW(hl:laidOutB P=true){W':World}(hb:RowKit.Below W.heap.size W W'):∀{ts:List TypeId} {vs:List Value} {ds:List (DataW H)} {ps:List MemPlace},(∀t∈ts,P.readableRec t=true/\t<P.types.size)->
  DataW.TrodAll enc P W 0 (λ_=>true) true ts vs ds ps->(∀x∈ps,x.block<W.heap.size)->DataW.TrodAll enc P W' 0 (λb=>decide (b<W.heap.size)) true ts vs ds ps
 |[],[],[],ps,_,h,_=>h
 |t::ts,v::vs,d::ds,ps,eO,⟨p,q,h1,h2,e⟩,hlt=>by subst e;have ht:=eO t AB;exact⟨p,q,RowKit.Below.trod hl ht.1 ht.2 h1 hb λx hx=>hlt x (B2 _ hx),RW hl hb (λt' h'=>eO t' (by simp[h'])) h2 λx hx=>hlt x (BI _ hx),rfl⟩
 |[],[],_::_,_,_,h,_=>by cases h
 |[],_::_,_,_,_,h,_=>by cases h
 |_::_,[],_,_,_,h,_=>by cases h
 |_::_,_::_,[],_,_,h,_=>by cases h
end
def fI{C:Gj}(hm:C.P.follows .mixedOrders=true)(ş:∀g cs,C.HB g=some cs->cs.all Aa.Nx=true)(Ĺ:fE C)(hl:laidOutB C.P=true){f:FuncId}{fn:Func}{rt:TypeId}(l:f<=99999)(k:fn.resultTypes=#[rt])(m:C.P.underlying rt=some .bool){tys:List Ty}(hlen:tys.length=fn.params.size)
  (aMB:∀(i:Nat) (ty:Ty) (t:TypeId),tys[i]?=some ty->fn.params[i]?=some t->Tp C.P ty t=true) (aH3:∀t∈fn.params.toList,C.P.readableRec t=true/\t<C.P.types.size)
  (Qa:∀as,WJ tys as->Ev C f as [] λr _=>r= .bool true) {s:ChangeSpec} (c:s.vars=[])
  {H:Type} (xD:∀ds:List (DataW H),ds.length=fn.params.size->s.fn H ds={results:=[.lit (.bool true)],args:=ds})
  {enc:TypeId×Value->H} {W:World} {base:Nat} {args:Array Value} {ds gs:List (DataW H)} {before:List MemPlace} (hg:∀g cs,C.HB g=some cs->C2 (Gy W) cs g 0)
  (RH:∀(j:Nat) (t:TypeId) (v:Value),fn.params[j]?=some t->args[j]?=some v->Value.okWide C.P W .any base t v) (hW:DataW.Whole enc C.P fn.params.toList s.vars false W args.toList ds gs before):
  Calls C.P f args W λe W'=>∃v,e= .returned v/\s.post enc C.P fn false true false false W args v W':=by
 have o:=hW;have hlt:=hW.lt;obtain⟨p,q,y,u,rfl,hfz,rF⟩:=hW;rw[c] at u;have n:gs=[]/\q=[]:=by
  cases gs with
  |nil=>exact⟨rfl,u⟩
  |cons _ _=>cases u
 obtain⟨rfl,rfl⟩:=n;obtain⟨as,yo,UB⟩:=bX y (by simpa using hlen) (λi ty t h h'=>aMB i ty t h (by simpa using h')) (λi t v h h'=>RH i t v (by simpa using h) (by simpa using h'));have rT:ds.length=fn.params.size:=by
  have key:∀{ts:List TypeId} {vs:List Value} {ds:List (DataW H)} {ps:List MemPlace},DataW.TrodAll enc C.P W 0 (λ_=>true) true ts vs ds ps->ds.length=ts.length:=by
   intro ts;induction ts with
   |nil=>intro vs ds ps h;cases vs<;>cases ds<;>first|rfl|cases h
   |cons t ts ih=>
    intro vs ds ps h;cases vs with
    |nil=>cases h
    |cons v vs=>
     cases ds with
     |nil=>cases h
     |cons d ds=>obtain⟨_,_,_,h2,_⟩:=h;simp[ih h2]
  simpa using key y
 have WH:=(Qa as yo).calls hm ş Ĺ (yn W) hg UB;rw[show Fe f=f from Af l] at WH;refine WH.mono λe W' he=>?_;cases e with
 |returned v=>
  obtain⟨r,h',z,rfl,hi,KH,hv⟩:=he;have hvb:v= .bool true:=hv;subst hvb;have hold:∀i,i<W.heap.size->W'.heap[i]?=W.heap[i]?:=λi xr=>(KH.O6 i xr λid h0=>by cases h0).1;have b:RowKit.Below W.heap.size W W':=⟨KH.os,KH.tape,KH.output,KH.size,hold⟩;refine⟨_,rfl,ds,[],p++[],[],p,[],o,?_,?_,?_,X8 KH.os KH.output hold,λh0=>by cases h0⟩;.rw[Bg,xD ds rT,k];exact⟨[],[],RowKit.shut_bool m true,rfl,rfl⟩
  .rw[Bg,xD ds rT];exact RW hl b aH3 y λx hx=>hlt x (by simpa using hx)
  .rw[Bg,xD ds rT,c];rfl
 |_=>exact he.elim
end Go.Am
end
