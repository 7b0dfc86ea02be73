/- Lemmas -/
import Derived.Scope
import Derived.Test.YtbkijlifflhdiaaGreatDoorV6
import Derived.Carry
import Derived.ReadAgain
set_option linter.all false
section
namespace Go.Am
open Go
def fj(x y:Dw):Prop:=
 match x with
 | .box ver cs ow=>∃E0 Fx LV,y= .box E0 Fx LV/\ver<=E0/\(E0=ver->Fx=cs/\LV=ow)
 | .Ed t o=>y= .Ed t o\/y= .undef
 |x=>y=x
def fj.refl(x:Dw):fj x x:=by
 cases x with
 |box ver cs ow=>exact⟨ver,cs,ow,rfl,Af _,λ_=>⟨rfl,rfl⟩⟩
 |Ed t o=>exact .inl rfl
 |_=>rfl
def fj.trans{x y z:Dw}(h:fj x y)(k:fj y z):fj x z:=by
 cases x with
 |box ver cs ow=>obtain⟨b,c1,i,rfl,h1,h2⟩:=h;obtain⟨v2,c2,c,rfl,f,d⟩:=k;refine⟨v2,c2,c,rfl,A5 h1 f,λe=>?_⟩;have e1:b=ver:=Ab;have g:v2=b:=Ab;obtain⟨rfl,rfl⟩:=d g;exact h2 e1
 |Ed t o=>
  rcases h with rfl|rfl
  .exact k
  .exact .inr k
 |_=>rw[show y=_ from h] at k;exact k
def EO(W:List Nat)(σ O:Bq):Prop:=O.length=σ.length/\∀s,s∉W->fj (σ.at s) (O.at s)
def EO.refl(W:List Nat)(σ:Bq):EO W σ σ:=⟨rfl,λ_ _=> .refl _⟩
def EO.trans{W:List Nat}{σ O J:Bq}(h:EO W σ O)(k:EO W O J):EO W σ J:=⟨k.1.trans h.1,λs hs=>(h.2 s hs).trans (k.2 s hs)⟩
def EO.mono{W W':List Nat}{σ O:Bq}(h:EO W σ O)(hw:∀s∈W,s∈W'):EO W' σ O:=⟨h.1,λs hs=>h.2 s λhm=>hs (hw s hm)⟩
def EO.set{W:List Nat}{σ:Bq}{s:Nat}{x:Dw}(hs:s∈W):EO W σ (σ.set s x):=
 ⟨Au,λt ht=>by rw[Bq.EN λe=>ht (by rw[<-e];exact hs)];exact .refl _⟩
def EO.put{W:List Nat}{σ:Bq}{d:Option Nat}{x:Dw}(hs:∀s∈d.toList,s∈W):EO W σ (σ.put d x):=by
 cases d with
 |none=>exact .refl _ _
 |some d=>exact .set (hs d Au)
section
variable{C:E7}{fid:FuncId}{ops:List Oper}{run:IT->Ag->Option IF}{σ σ':Bq}{h h':Ag}{W:List Nat}
def EO.drop(σ:Bq)(ds:List Nat):EO W σ (σ.drop ds):=by
 refine⟨Bq.length_drop σ ds,λs _=>?_⟩;rw[Bq.O7];cases hx:σ.at s with
 |Ed t o=>
  simp only
  split;.exact .inr rfl
  .exact .inl rfl
 |_=>exact .refl _
def bK{r:DK}{ds:List Nat}(hd:r.Lw C run (σ.drop ds) h σ' h')(hw:∀s∈r.wf,s∈W):EO W σ σ':=by obtain⟨ws,rfl,h1,_⟩:=Vy hd;refine(EO.drop σ ds).trans ⟨Bq.H0 ws _,λs hs=>?_⟩;rw[Bq.Fp ws _ s λp hp e=>hs (hw s (by rw[<-e];exact h1 p hp))];exact .refl _
def NB{x:Operand}{d:Nat}{take:Bool}{r:DK}(h:IK C σ x d take=some r):∀s∈r.wf,s=d\/(take=true/\x= .tmp s):=by
 unfold IK at h;split at h;.cases h;simp[DK.wf]
 .cases h;simp[DK.wf]
 .split at h
  .rename_i ht;cases h;intro s hs;simp only[DK.wf,B3,Al] at hs;rcases hs with hs|hs
   .revert hs;generalize b:OU _ _=c;intro hs;unfold OU at b;split at b;.subst b;simp at hs;exact .inr ⟨ht,by rw[hs]⟩
    .subst b;simp at hs
   .exact .inl (by simpa using hs)
  .cases hc:GJ _ with
   |none=>rw[hc] at h;cases h
   |some sl=>rw[hc] at h;cases h;simp[DK.wf]
 .cases hc:GJ _ with
  |none=>rw[hc] at h;cases h
  |some sl=>rw[hc] at h;cases h;simp[DK.wf]
 .cases h
def Pf{x:Operand}{p:Nat×Aa}(h:CA σ x=some p):x= .tmp p.1:=by
 cases x with
 |tmp t=>
  simp only[CA] at h;cases hx:σ.at t with
  |Bn v=>rw[hx] at h;cases h;rfl
  |_=>rw[hx] at h;cases h
 |_=>cases h
def YC{t:TypeId}{v:Aa}{d:Nat}{r:DK}(h:QS C fid t v d=some r):r.wf=[d]:=by
 unfold QS at h;split at h;.cases h
 .split at h;.cases h
  .split at h<;>(cases h;rfl)
def Li:∀{xs:List Operand} {vs:List Aa} {fz:List (Nat×List Aa)},EY C σ xs=some (vs,fz)->∀p∈fz,p.1∈Ii xs
 |[],vs,fz,hc=>by cases hc;simp
 |x::xs,vs,fz,hc=>by
  unfold EY at hc;split at hc;.cases hc
  .rename_i Gu c b;have ih:=Li b;have up:∀p∈c,p.1∈Ii (x::xs):=λp hp=>by obtain⟨y,hy,he⟩:=BR.1 (ih p hp);exact BR.2 ⟨y,D9 _ hy,he⟩
   split at hc
   .rename_i s ver cs ow hs;split at hc;.cases hc
    .cases hc;intro p hp;rcases Az.1 hp with rfl|hp
     .simp[Ii]
     .exact up p hp
   .rename_i sl _ hs;cases hv:sl.FM with
    |none=>rw[hv] at hc;cases hc
    |some u=>rw[hv] at hc;cases hc;exact up
   .cases hc
def gJ{o:Oper}{r:DK}(hc:EZ C fid ops σ o=some r)(hd:r.Lw C run (σ.drop r.news) h σ' h'):EO (Dz ops o) σ σ':=by
 have Pe:∀s∈o.dst.toList,s∈Dz ops o:=λs hs=>B7 _ hs
 have hwf:(∀s∈r.wf,s∈Dz ops o)->EO (Dz ops o) σ σ':=bK hd
 have Us:r.wf=o.dst.toList->EO (Dz ops o) σ σ':=λe=>hwf (by rw[e];exact Pe)
 have Q5:∀{m x},P7 m o.dst x=some r->EO (Dz ops o) σ σ':=λ{m x} he=>by
  obtain⟨_,_,rfl⟩:=FT he
  exact Us rfl
 have F6:∀{p x},P6 p o.dst x=some r->EO (Dz ops o) σ σ':=λ{p x} he=>by
  obtain⟨args,_,rfl⟩:=C5 he
  exact Us (by simp[DK.wf])
 unfold EZ at hc
 split at hc
 .rename_i x ho
  split at hc
  .rename_i d EL
   refine hwf λs hs=>?_
   rcases NB hc s hs with rfl|⟨ht,rfl⟩
   .exact Pe s (by rw[EL];simp)
   .refine Br _ ?_
    simp[ho,EL,ht]
  .cases hc
 .rename_i x ho
  split at hc
  .rename_i d EL
   refine hwf λs hs=>?_
   rcases NB hc s hs with rfl|⟨ht,rfl⟩
   .exact Pe s (by rw[EL];simp)
   .refine Br _ ?_
    simp[ho]
  .cases hc
 .rename_i c x y ho
  split at hc
  .rename_i d _ EL
   refine hwf λs hs=>?_
   rcases NB hc s hs with rfl|⟨ht,rfl⟩
   .exact Pe s (by rw[EL];simp)
   .cases ht
  .rename_i d _ EL
   refine hwf λs hs=>?_
   rcases NB hc s hs with rfl|⟨ht,rfl⟩
   .exact Pe s (by rw[EL];simp)
   .cases ht
  .exact F6 hc
 .split at hc
  .rename_i d z EL hz
   split at hc
   .split at hc
    .cases hc;exact Us (by rw[EL];rfl)
    .cases hc
   .exact Us (by rw[YC hc,EL];rfl)
  .cases hc
 .split at hc
  .rename_i d v EL hz
   exact Us (by rw[YC hc,EL];rfl)
  .cases hc
 .split at hc
  .split at hc
   .exact F6 hc
   .cases hc
  .cases hc
 .split at hc
  .split at hc
   .split at hc
    .split at hc
     .cases hc;exact Us (by simp[DK.wf])
     .cases ha:A0 C σ _ with
      |none=>rw[ha] at hc;cases hc
      |some args=>rw[ha] at hc;cases hc;exact Us (by simp[DK.wf])
    .cases hc
   .cases hc
  .cases hc
 .split at hc
  .rename_i d EL
   unfold Jv at hc
   split at hc
   .cases hc;exact Us (by rw[EL];rfl)
   .rename_i s off ver cs ow ht ha
    split at hc
    .simp only at hc
     split at hc
     .cases hc
      rw[L1 Au] at hd
      obtain⟨rfl,rfl⟩:=hd
      have hs:σ.at s= .box ver cs ow:=by
       unfold EX at ha
       split at ha
       .rename_i hs;cases ha;exact FA hs
       .split at ha
        .rename_i hb;cases ha;exact hb
        .cases ha
       .exact absurd ha (by cases hv:Dw.FM _<;>simp)
       .cases ha
      refine⟨by simp[Bq.drop,Bq.Dr],λt b=>?_⟩
      have f:t≠d:=λe=>b (Pe t (by rw[EL,e];simp))
      have wX:s<σ.length:=Bq.MO (by rw[hs];simp)
      show fj (σ.at t) (Bq.at ((σ.set s _).set d _) t)
      rw[Bq.EN (λe=>f e.symm)]
      by_cases Wt:s=t
      .subst Wt
       rw[Bq.Em wX,hs]
       exact⟨_,_,_,rfl,D7 _,λe=>absurd e Ab⟩
      .rw[Bq.EN Wt];exact .refl _
     .cases hc;exact Us (by rw[EL];rfl)
    .cases hc
   .split at hc
    .cases hc;exact Us (by rw[EL];rfl)
    .cases hc
   .cases hc
  .cases hc
 .rename_i t x y ho
  split at hc
  .rename_i EL
   unfold HJ at hc
   split at hc
   .cases hc;exact hwf (by simp[DK.wf])
   .rename_i m g s off ver cs ow v hsz Z3 ha hv
    split at hc
    .cases hc
     obtain⟨_,rfl,rfl⟩:=hd
     have hs:σ.at s= .box ver cs ow:=by
      unfold EX at ha
      split at ha
      .rename_i hs;cases ha;exact FA hs
      .split at ha
       .rename_i hb;cases ha;exact hb
       .cases ha
      .exact absurd ha (by cases hv:Dw.FM _<;>simp)
      .cases ha
     have UB:∀(D:Option (Nat×Aa)),(∀p,D=some p->p.1∈Dz ops o/\p.1≠s)->∀X:List Aa×List Nat,EO (Dz ops o) σ ((σ.CU D).set s (.box (ver+1) X.1 X.2)):=by
      intro D j X
      refine⟨by cases D<;>simp[Bq.CU],λt b=>?_⟩
      have hlen:s<(σ.CU D).length:=by
       have:s<σ.length:=Bq.MO (by rw[hs];simp)
       cases D<;>simpa[Bq.CU] using this
      by_cases Wt:s=t
      .subst Wt
       rw[Bq.Em hlen,hs]
       exact⟨_,_,_,rfl,D7 _,λe=>absurd e Ab⟩
      .rw[Bq.EN Wt]
       cases D with
       |none=>exact .refl _
       |some p=>
        obtain⟨i,k⟩:=j p rfl
        simp only[Bq.CU]
        rw[Bq.EN (λe=>b (by rw[<-e];exact i))]
        exact .refl _
     refine UB _ (λp hp=>?_) (_,_)
     split at hp
     .have hy:=Pf hp
      subst hy
      refine⟨Br _ (by simp[ho]),λe=>?_⟩
      simp only[CA] at hp
      rw[e,hs] at hp
      cases hp
     .cases hp
    .cases hc
   .cases hc
  .cases hc
 .split at hc
  .rename_i EL _ _
   cases hc;exact Us (by rw[EL];rfl)
  .rename_i EL _ _
   cases hc;exact Us (by rw[EL];rfl)
  .exact F6 hc
 .split at hc
  .exact F6 hc
  .cases hc
 .exact F6 hc
 .split at hc
  .cases hv:DX C σ _ with
   |none=>rw[hv] at hc;cases hc
   |some v=>rw[hv] at hc;cases hc;exact Us rfl
  .split at hc
   .cases hv:DX C σ _ with
    |none=>rw[hv] at hc;cases hc
    |some v=>rw[hv] at hc;cases hc;exact Us rfl
   .exact F6 hc
  .exact F6 hc
  .cases hc
 .rename_i fn first captured ho
  split at hc
  .rename_i d as bs fz EL ha hb
   cases hc
   refine hwf λs hs=>?_
   simp only[DK.wf,Az] at hs
   rcases hs with rfl|hs
   .exact Pe s (by rw[EL];simp)
   .obtain⟨p,hp,rfl⟩:=AR.1 hs
    refine Br _ ?_
    simp only[ho]
    exact Li hb p hp
  .cases hc
 .cases hc;exact Us rfl
 .split at hc
  .split at hc
   .cases hc;exact Us rfl
   .cases hc
  .cases hc
 .split at hc
  .split at hc
   .cases hc;exact hwf (by simp[DK.wf])
   .cases hc;exact hwf (by simp[DK.wf])
   .cases hc
  .cases hc
 .split at hc
  .split at hc
   .cases hc;exact hwf (by simp[DK.wf])
   .cases hc;exact hwf (by simp[DK.wf])
   .cases hc
  .cases hc
 .split at hc
  .split at hc
   .cases hc;exact Us rfl
   .cases hc;exact Us rfl
   .cases hc
  .cases hc
 .split at hc
  .split at hc
   .exact Q5 hc
   .cases hc
  .cases hc
 .split at hc
  .cases hc
  .exact Q5 hc
  .cases hc
 .split at hc
  .split at hc<;>first|exact Q5 hc|cases hc
  .cases hc
 .split at hc
  .rename_i EL
   exact Q5 (by rw[EL];exact hc)
  .cases hc
 .split at hc
  .exact F6 hc
  .split at hc
   .split at hc
    .exact Q5 hc
    .exact F6 hc
   .cases hc
  .cases hc
 .split at hc
  .rename_i off g d hf EL
   split at hc
   .cases hc;exact Us (by rw[EL];rfl)
   .cases hc;exact Us (by rw[EL];rfl)
   .exact F6 (by rw[EL];exact hc)
  .cases hc
 .split at hc
  .exact F6 hc
  .cases hc
 .split at hc
  .split at hc
   .exact F6 hc
   .cases hc
  .split at hc
   .split at hc
    .cases hc
    .exact F6 hc
   .cases hc
  .cases hc
 .split at hc
  .exact F6 hc
  .split at hc
   .exact F6 hc
   .cases hc
  .cases hc
 .exact F6 hc
 .rename_i c ho
  unfold Oe at hc
  split at hc
  .split at hc
   .split at hc
    .exact F6 hc
    .exact F6 hc
    .cases hc
   .cases hc
  .rename_i hcl
   split at hc
   .rename_i t t' s x h0 h1 DN
    have UB:∀p,CA σ s=some p->p.1∈Dz ops o:=λp hp=>by
     have:=Pf hp
     subst this
     refine Br _ ?_
     simp only[ho,hcl,DN]
     simp[Ii]
    split at hc
    all_goals first
     |(cases hc;done)
     | (split at hc
        . split at hc
          . split at hc
            . split at hc
              . split at hc
                . cases hc
                  refine hwf fun q hq => ?_
                  simp only [DK.wf, Al] at hq
                  rcases hq with hq | hq
                  . exact Pe q hq
                  . cases bL : CA σ s with
                    | none => rw [bL] at hq; simp at hq
                    | some p => rw [bL] at hq; simp at hq; rw [hq]; exact UB p bL
                . split at hc
                  . cases hc
                    refine hwf fun q hq => ?_
                    simp only [DK.wf, Al] at hq
                    rcases hq with hq | hq
                    . exact Pe q hq
                    . cases bL : CA σ s with
                      | none => rw [bL] at hq; simp at hq
                      | some p => rw [bL] at hq; simp at hq; rw [hq]; exact UB p bL
                  . cases hc
                    refine hwf fun q hq => ?_
                    simp only [DK.wf, Al] at hq
                    rcases hq with hq | hq
                    . exact Pe q hq
                    . cases bL : CA σ s with
                      | none => rw [bL] at hq; simp at hq
                      | some p => rw [bL] at hq; simp at hq; rw [hq]; exact UB p bL
              . split at hc
                . cases hc
                  refine hwf fun q hq => Pe q (by simpa [DK.wf] using hq)
                . cases hc
            . cases hc
          . cases hc
        . cases hc)
   .cases hc
  .split at hc
   .split at hc
    all_goals first
     |(cases hc;done)
     | (split at hc
        . exact Q5 hc
        . cases hc)
   .cases hc
  .split at hc
   .split at hc
    .split at hc
     .exact Q5 hc
     .cases hc
    .cases hc
   .cases hc
  .split at hc
   .exact F6 hc
   .cases hc
  .split at hc
   .exact F6 hc
   .cases hc
  .split at hc
   .split at hc
    .split at hc
     .exact Q5 hc
     .cases hc
    .cases hc
   split at hc
   .cases ha:A0 C σ c.args.toList with
    |none=>rw[ha] at hc;cases hc
    |some args=>
     rw[ha] at hc
     simp only[BM,Bv] at hc
     split at hc<;>(cases hc;exact Us rfl)
   .cases hc
  .split at hc
   .cases hc;exact Us rfl
   .cases hc
  .cases hc
 .cases hc
end
end Go.Am
end
section
namespace Go.Am
open Go
def q9:EW->Exit
 | .normal=> .normal
 | .exit i=> .exit i
 | .ret=> .ret
def Mc:∀{l m:List Nat},l.Nodup->(∀x∈l,x∈m)->l.length<=m.length
 |[],_,_,_=>A8 _
 |x::l,m,hn,hs=>by have hx:=hs x Au;have h1:=Mc (l:=l) (m:=m.erase x) (By.1 hn).2 λy hy=>(List.mem_erase_of_ne λe=>(By.1 hn).1 (by rw[<-e];exact hy)).2 (hs y (by simp[hy]));rw[List.length_erase_of_mem hx] at h1;have:0<m.length:=List.length_pos_of_mem hx;simp;omega
def WD{P:Program}{c:Code}{Q:Exit->Act->World->Prop}(T:Nat->Act->World->Prop)(round:∀n a w,T n a w->c.wp P (Exit.then (λa' w'=>∃m,m<n/\T m a' w') Q) a w)(n:Nat)(a:Act)(w:World)(h0:T n a w):(Code.loop c).wp P Q a w:=by
 intro b k cs;have key:∀n a w,T n a w->∃e a' w',Q e a' w'/\Arrives P (lone (b.at a (.code c:: .inLoop c::k)) cs w) b k cs e a' w':=by
  intro n;induction n using Nat.strongRecOn with
  |_ n ih=>
   intro a w i;obtain⟨e,a1,w1,hq,xI⟩:=round n a w i b (.inLoop c::k) cs;by_cases he:e= .normal;.subst he;obtain⟨m,hm,d⟩:=hq;obtain⟨j,a2,f,g,r2⟩:=ih m hm a1 w1 d;exact⟨j,a2,f,g,.of_steps (Go.Steps.trans xI (.one step_inLoop)) r2⟩
   .exact⟨e,a1,w1,by cases e<;>first|exact hq|exact absurd rfl he,.pass (x:= .inLoop c) rfl (λ_ _=> .inl he) xI⟩
 obtain⟨e,a',w',hq,xI⟩:=key n a w h0;exact⟨e,a',w',hq,.of_steps (.one step_loop) xI⟩
section
variable{C:E7}{U0 U:Gh}{w0 w:World}{Z:Nat->Nat}{σ:Bq}{h:Ag}{a:Act}{fid:FuncId}{run:IT->Ag->Option IF}
def WE{ops:List Oper}{o:Oper}{K:Bq->IT}{R:IF}(hr:IT.step (BK C) run (P8 C fid ops σ o K) h=some R):
  ∃d,(d=σ\/∃s b,s∈Et ops o/\σ.at s= .val (.bool b)/\d=σ.set s (.MC b))/\
   ((Hc ops d o= .Lt true/\IT.step (BK C) run (pJ C fid ops d o K) h=some R)\/(Hc ops d o= .Lt false/\IT.step (BK C) run (K (d.put o.dst .skip)) h=some R)):=by
 unfold P8 at hr;split at hr;.rename_i hg;exact⟨σ,.inl rfl,.inl ⟨hg,hr⟩⟩
 .rename_i hg;exact⟨σ,.inl rfl,.inr ⟨hg,hr⟩⟩
 .rename_i s v want hg;have lz:s∈Et ops o/\σ.at s= .val v/\∀b,Hc ops (σ.set s (.MC b)) o= .Lt (b==want):=by
   unfold Hc at hg⊢;unfold Et;cases ho:o.guard with
   |none=>rw[ho] at hg;cases hg
   |some g=>
    obtain⟨j,want'⟩:=g;rw[ho] at hg;simp only at hg⊢;cases hd:(ops[j]?).bind (·.dst) with
    |none=>rw[hd] at hg;cases hg
    |some s'=>
     rw[hd] at hg;simp only at hg⊢;cases hx:σ.at s' with
     |val v'=>rw[hx] at hg;cases hg;refine⟨Au,hx,λb=>?_⟩;rw[Bq.Em (Bq.MO (by rw[hx];simp))]
     |MC c=>rw[hx] at hg;cases hg
     |skip=>rw[hx] at hg;cases hg
     |_=>rw[hx] at hg;cases hg
  obtain⟨g1,g2,g3⟩:=lz;simp only[IT.step] at hr;split at hr
  .refine⟨σ.set s (.MC true),.inr ⟨s,true,g1,g2,rfl⟩,?_⟩;rw[g3];cases want with
   |true=>exact .inl ⟨rfl,hr⟩
   |false=>exact .inr ⟨rfl,hr⟩
  .refine⟨σ.set s (.MC false),.inr ⟨s,false,g1,g2,rfl⟩,?_⟩;rw[g3];cases want with
   |true=>exact .inr ⟨rfl,hr⟩
   |false=>exact .inl ⟨rfl,hr⟩
  .cases hr
 .cases hr
def lV(a:Act){ops:List Oper}{o:Oper}:(∀p∈OW C σ o,∃ver ow,σ.at p.1= .box ver p.2 ow)/\((OW C σ o).map (·.1)).Nodup/\∀p∈OW C σ o,p.1∈Dz ops o:=by
 have no:∀l:List (Nat×List Aa),l=[]->(∀p∈l,∃ver ow,σ.at p.1= .box ver p.2 ow)/\(l.map (·.1)).Nodup/\∀p∈l,p.1∈Dz ops o:=by rintro l rfl;exact⟨(λp hp=>nomatch hp),GZ,λp hp=>nomatch hp⟩
 cases ho:o.op with
 |call c=>
  cases hc:c.callee with
  |value g=>
   cases g with
   |func f=>
    cases hf:P9 f with
    |true=>
     cases hx:EY C σ c.args.toList with
     |some q=>
      obtain⟨vs,fz⟩:=q;have e:OW C σ o=fz:=by unfold OW;simp only[ho,hc,hf,hx,BB]
      rw[e];obtain⟨h1,h2,_⟩:=Lh (a:=a) hx;refine⟨h1,h2,λp hp=>Br _ ?_⟩;simp only[ho,hc,hf,BB];exact Li hx p hp
     |none=>exact no _ (by unfold OW;simp only[ho,hc,hf,hx,BB])
    |false=>exact no _ (by unfold OW;simp[ho,hc,hf])
   |_=>exact no _ (by unfold OW;simp only[ho,hc])
  |_=>exact no _ (by unfold OW;simp only[ho,hc])
 |_=>exact no _ (by unfold OW;simp only[ho])
def EO.Dr{W:List Nat}:∀{l:List (Nat×Dw)} {σ:Bq},(∀p∈l,p.1∈W)->EO W σ (σ.Dr l)
 |[],σ,_=> .refl _ _
 |(s,x)::l,σ,h=>(EO.set (h (s,x) Au)).trans (EO.Dr λp hp=>h p (by simp[hp]))
def rA{ops:List Oper}{o:Oper}{W:List Nat}(hr:Ct C U0 w0 U Z σ h a w)(hw:∀s∈Dz ops o,s∈W):∃b,Ct C U0 w0 b Z (js C σ o) h a w/\EO W σ (js C σ o):=by
 obtain⟨h1,h2,c⟩:=lV (C:=C) (σ:=σ) a (ops:=ops) (o:=o);obtain⟨b,_,FH,_⟩:=(hr.drop ((OW C σ o).map (·.1))).Qf (fz:=OW C σ o) (λp hp=>by obtain⟨ver,ow,hs⟩:=h1 p hp;exact⟨ver,ow,by rw[Bq.O7,hs]⟩) h2
 refine⟨b,FH,(EO.drop σ _).trans (EO.Dr λp hp=>?_)⟩;obtain⟨q,hq,rfl⟩:=AR.1 hp;exact hw _ (c q hq)
def gK(hS:DO C run){ops:Array Oper}{Q:Exit->Act->World->Prop}{W:List Nat}{K:Bq->IT}{R:IF}:∀(rest:List Oper) (k:Nat) (U:Gh) (Z:Nat->Nat) (σ:Bq) (h:Ag) (a:Act) (w:World),
  ops.toList.drop k=rest->(∀o∈rest,(∀s∈Dz ops.toList o,s∈W)/\∀s∈Et ops.toList o,s∈W)->IT.step (BK C) run (fU C fid ops.toList rest σ K) h=some R->Ct C U0 w0 U Z σ h a w->
  (∀g f σ' h' a' w',IT.step (BK C) run (K σ') h'=some R->EO W σ σ'->Ct C U0 w0 g f σ' h' a' w'->Q .normal a' w')->wpOps C.P ops Q (List.range' k rest.length) a w
 |[],k,U,Z,σ,h,a,w,_,_,Ay,hr,hQ=>by simp only[Bd,List.range'_zero,wpOps];exact hQ U Z σ h a w Ay (.refl _ _) hr
 |o::rest,k,U,Z,σ,h,a,w,hk,hW,Ay,hr,hQ=>by
  have ho:ops[k]?=some o:=by
   have:ops.toList[k]?=some o:=by have h0:=B1 (·[0]?) hk;simpa[Cc] using h0
   simpa using this
  have l:ops.toList.drop (k+1)=rest:=by have h0:=B1 (List.drop 1) hk;simpa[DU] using h0
  obtain⟨fk,lT⟩:=hW o Au;simp only[AH,List.range'_succ,wpOps,ho];obtain⟨U1,e,c⟩:=rA hr fk;obtain⟨i,j,Hn⟩:=WE Ay;have Ij:Ct C U0 w0 U1 Z i h a w/\EO W σ i:=by
   rcases j with rfl|⟨s,b,g1,g2,rfl⟩
   .exact⟨e,c⟩
   .have h0:=e.fr.GB s;rw[g2] at h0;exact⟨e.Yc h0,c.trans (.set (lT s g1))⟩
  obtain⟨Ij,yc⟩:=Ij;have next:∀g f σ' h' a' w',IT.step (BK C) run (fU C fid ops.toList rest σ' K) h'=some R->EO W σ σ'->Ct C U0 w0 g f σ' h' a' w'->wpOps C.P ops Q (List.range' (k+1) rest.length) a' w':=λg f σ' h' a' w' S7 lF FH=>gK hS rest (k+1) g f σ' h' a' w' l (λo ho=>hW o (by simp[ho])) S7 FH λp n d h2 a2 m JT aAz yd=>hQ p n d h2 a2 m JT (lF.trans aAz) yd
  rcases Hn with⟨hg,Ho⟩|⟨hg,Ho⟩
  .rw[Ad (JW Ij hg)];unfold pJ at Ho;split at Ho;.rename_i r hc;obtain⟨d,h2,hd,Q6⟩:=Vj Ho;exact .inl (qW hS hc hd Ij λg f a' w' FH=>next g f d h2 a' w' Q6 (yc.trans ((gJ hc hd).mono fk)) FH)
   .cases Ho
  .rw[Ac (by rw[JW Ij hg];simp)];exact next U1 Z _ h _ w Ho (yc.trans (.put λs hs=>fk s (B7 _ hs))) (Ij.put λ_ _=>rfl)
def bM{W:List Nat}{d:Option Nat}{σ σ':Bq}(h:KR d σ σ')(hd:∀s∈d.toList,s∈W):EO W σ σ':=by
 unfold KR at h;cases d with
 |none=>simp only at h;rw[h];exact .refl _ _
 |some d=>
  simp only at h;split at h;.obtain⟨b,_,rfl⟩:=h;exact .set (hd d Au)
  .rw[h];exact .refl _ _
def bN{ops:List Oper}{an:List Nat}{W:List Nat}(hW:∀o∈ops,∀s∈Dz ops o,s∈W){fl:List IG}{L:List St}{σ σf:Bq}{h hf:Ag}(hs:Steps C fid ops run an fl L σ h σf hf):EO W σ σf:=by
 induction hs with
 |nil=>exact .refl _ _
 |cons h1 _ _ ih=>
  refine EO.trans ?_ ih;obtain⟨o,ho,⟨_,_,_,rfl,rfl⟩|⟨r,b,hg,hc,_,hd,_,ha⟩⟩:=h1;.exact .put λs hs=>hW o (B6 ho) s (B7 _ hs)
  .refine((gJ hc hd).mono λs hs=>hW o (B6 ho) s hs).trans (bM ha λs hs=>?_);split at hs;.exact hW o (B6 ho) s (B7 _ hs)
   .simp at hs
def S8(hm:C.P.follows .mixedOrders=true)(hS:DO C run){id:Nat}{ops:Array Oper}{draw:Bool}{Q:Exit->Act->World->Prop}{K:Bq->IT}{R:IF}(Ay:IT.step (BK C) run (OZ C fid ops.toList draw σ K) h=some R)(hr:Ct C U0 w0 U Z σ h a w)
  (hQ:∀c b σ' h' a' w',IT.step (BK C) run (K σ') h'=some R->EO (ops.toList.flatMap (Dz ops.toList)++ops.toList.flatMap (Et ops.toList)) σ σ'->Ct C U0 w0 c b σ' h' a' w'->Q .normal a' w'):(Code.region id ops draw).wp C.P Q a w:=by
 unfold OZ at Ay;cases draw with
 |false=>refine wp_region ?_;have:=gK (W:=ops.toList.flatMap (Dz ops.toList)++ops.toList.flatMap (Et ops.toList)) hS ops.toList 0 U Z σ h a w rfl (λo ho=>⟨λs hs=>B7 _ (Lp.2 ⟨o,ho,hs⟩),λs hs=>Br _ (Lp.2 ⟨o,ho,hs⟩)⟩) Ay hr hQ;simpa[ń] using this
 |true=>
  simp only[BB] at Ay;split at Ay
  .rename_i EL;obtain⟨L,σf,hf,h1,h2,g⟩:=Oo Ay;refine wp_region_any hm ?_;have l_:=h2;unfold SC at l_;simp only[PU,Bj,Bi] at l_;have ye:gI (SA ops.toList) L:=by have:=VA l_.1;rw[aEY] at this;exact this
   have hlt:=h1.lt;have Qc:∀i,i<ops.size->i∈L.map (·.idx):=λi hi=>by have:=D8.1 l_.2 i (by simpa using hi);simpa using this
   have va:(L.map (·.idx)).Nodup:=by rw[List.Nodup,aEY];exact ye.imp λh=>h.1
   have hlen:L.length=ops.size:=by
    have f:(L.map (·.idx)).length<=(List.range ops.size).length:=Mc va (λi hi=>by obtain⟨s,hs,rfl⟩:=AR.1 hi;simpa using hlt s hs)
    have d:(List.range ops.size).length<=(L.map (·.idx)).length:=Mc List.nodup_range λi hi=>Qc i (by simpa using hi);simp at f d;omega
   have lF:=bN (W:=ops.toList.flatMap (Dz ops.toList)++ops.toList.flatMap (Et ops.toList)) (λo ho s hs=>B7 _ (Lp.2 ⟨o,ho,hs⟩)) h1;refine lU hS EL (λc b a' w' FH=>hQ c b σf hf a' w' g lF FH) ops.size L _ U Z σ h a w.drew hlen h1 ye ⟨Au,λi hi=>⟨λ_=>Qc i hi,λ_=>by simp[Array.getD,hi]⟩,λj hj e _=>?_⟩ hr.drew;exfalso;rcases BH j ops.size with hlt|HK
   .simp[Array.getD,hlt] at hj
   .simp[Array.getD,Nat.not_lt.2 HK] at hj
  .cases Ay
end
end Go.Am
end
section
namespace Go.Am
open Go
def NC(x y:Dw):Prop:=
 (∃u,x.FM=some u/\y= .val u)\/(∃v,x= .Bn v/\y= .Bn v)\/∃ver cs ow E0 LV,x= .box ver cs ow/\y= .box E0 cs LV/\∀o∈LV,o∈ow
def Bq.GL:∀(ws:List Nat) (σ:Bq) (s:Nat),(σ.clear ws).at s=if s∈ws then .undef else σ.at s
 |[],σ,s=>by simp[Bq.clear]
 |t::ws,σ,s=>by
  rw[Bq.clear,Bq.GL ws];by_cases h:s∈ws;.simp[h]
  .by_cases h2:s=t
   .subst h2;rw[Bq.S2];by_cases hl:s<σ.length;.simp[hl]
    .have:σ.at s= .undef:=by simp[Bq.at,List.getD,hl]
     simp[h,hl,this]
   .rw[Bq.EN λe=>h2 e.symm];simp[h,h2]
def Bq.Io:∀(ws:List Nat) (σ:Bq),(σ.clear ws).length=σ.length
 |[],σ=>rfl
 |t::ws,σ=>by rw[Bq.clear,Bq.Io ws];simp
section
variable{C:E7}{U0 U:Gh}{w0 w:World}{Z:Nat->Nat}{σ:Bq}{h:Ag}{a:Act}{fid:FuncId}{run:IT->Ag->Option IF}
def NC.rel{B s:Nat}{x y:Dw}{v:Value}(hx:Jw U Z B w s x v)(hf:NC x y):Jw U Z B w s y v:=by
 rcases hf with⟨u,hu,rfl⟩|⟨u,rfl,rfl⟩|⟨ver,cs,ow,E0,LV,rfl,rfl,S6⟩
 .exact Lx hx hu
 .exact hx
 .obtain⟨j,i,g,us,e,f,d,c,b⟩:=hx;exact⟨j,i,g,us,e,f,d,c,λo ho=>b o (S6 o ho)⟩
def Q7{σs:Bq}{G:Bq->IT}{R:IF}{vs:List Aa}:∀{l:List (Nat×Sh)} {i:Nat} {σa:Bq},SD σs l=some (vs.drop i)->σa.length=σs.length->IT.step (BK C) run (HQ vs l i σa G) h=some R->
  ∃b,IT.step (BK C) run (G b) h=some R/\b.length=σa.length/\(∀s,s∉l.map (·.1)->b.at s=σa.at s)/\(∀s,s∈l.map (·.1)->NC (σs.at s) (b.at s)/\
   ((∃E0 Fx LV,b.at s= .box E0 Fx LV/\Vh (σa.at s)<E0)\/∀ver cs ow,σs.at s≠ .box ver cs ow))
 |[],i,σa,_,_,hr=>⟨σa,hr,rfl,λ_ _=>rfl,Au⟩
 |(s,c)::l,i,σa,hv,hl,hr=>by
  have hd:∃v Gu,vs.drop i=v::Gu/\vs.drop (i+1)=Gu/\vs.getD i .nilIface=v/\SD σs l=some Gu/\
    (match(generalizing:=false) c,σs.at s with| .val,x=>x.FM| .Bn,.Bn v=>some v| .box n ow,.box _ cs LV=>if cs.length=n/\ow.all (LV.contains ·) then some (.agg cs) else none|_,_=>none)=some v:=by
   unfold SD at hv;simp only at hv;split at hv
   .rename_i v Gu h1 h2;simp only[Bv] at hv;refine⟨v,Gu,hv.symm,?_,?_,h2,h1⟩;.have:=B1 (List.drop 1) hv;simpa[DU] using this.symm
    .have:=B1 (·[0]?) hv;simp only[JP,Cc,A9] at this;simp[List.getD,<-this]
   .cases hv
  obtain⟨v,Gu,q,aAA,Wx,SN,Pg⟩:=hd;have hlt:s<σa.length:=by rw[hl];refine Bq.MO λe=>?_;rw[e] at Pg;cases c<;>simp[Dw.FM] at Pg
  have go:∀(y:Dw),NC (σs.at s) y->((∃E0 Fx LV,y= .box E0 Fx LV/\Vh (σa.at s)<E0)\/∀ver cs ow,σs.at s≠ .box ver cs ow)->IT.step (BK C) run (HQ vs l (i+1) (σa.set s y) G) h=some R->
    ∃b,IT.step (BK C) run (G b) h=some R/\b.length=σa.length/\(∀t,t∉((s,c)::l).map (·.1)->b.at t=σa.at t)/\(∀t,t∈((s,c)::l).map (·.1)->NC (σs.at t) (b.at t)/\
     ((∃E0 Fx LV,b.at t= .box E0 Fx LV/\Vh (σa.at t)<E0)\/∀ver cs ow,σs.at t≠ .box ver cs ow)):=by
   intro y hy d FH;obtain⟨b,p,m,k3,k⟩:=Q7 (l:=l) (i:=i+1) (σa:=σa.set s y) (by rw[aAA];exact SN) (by simpa using hl) FH;refine⟨b,p,by simpa using m,λt ht=>?_,λt ht=>?_⟩;.simp only[AZ,Az,OO] at ht;rw[k3 t ht.2,Bq.EN λe=>ht.1 e.symm]
   .by_cases hm:t∈l.map (·.1)
    .obtain⟨g,j⟩:=k t hm;refine⟨g,j.imp (λ⟨E0,Fx,LV,e1,f⟩=>⟨E0,Fx,LV,e1,?_⟩) id⟩;by_cases Wt:s=t
     .subst Wt;rw[Bq.Em hlt] at f;rcases d with⟨r,c1,z,rfl,h1⟩|hn
      .simp only[Vh] at f;omega
      .rcases g with⟨u,_,e⟩|⟨u,_,e⟩|⟨ver,cs,ow,_,_,e,_⟩
       .rw[e1] at e;cases e
       .rw[e1] at e;cases e
       .exact absurd e (hn _ _ _)
     .rwa [Bq.EN Wt] at f
    .have Wt:t=s:=by simp only[AZ,Az] at ht;exact ht.resolve_right hm
     subst Wt;rw[k3 t hm,Bq.Em hlt];exact⟨hy,d⟩
  cases c with
  |val=>
   simp only[HQ,Wx] at hr;have rB:(σs.at s).FM=some v:=by simpa using Pg
   refine go (.val v) (.inl ⟨v,rB,rfl⟩) (.inr λver cs ow e=>?_) hr;rw[e] at rB;cases rB
  |Bn=>
   simp only[HQ,Wx] at hr;cases hx:σs.at s with
   |Bn u=>rw[hx] at Pg;cases Pg;exact go (.Bn v) (.inr (.inl ⟨v,hx,rfl⟩)) (.inr λver cs ow e=>by rw[hx] at e;cases e) hr
   |_=>rw[hx] at Pg;cases Pg
  |box n ow=>
   simp only[HQ,Wx,IT.step] at hr;cases hx:σs.at s with
   |box ver cs LV=>
    rw[hx] at Pg;simp only at Pg;split at Pg
    .rename_i Gg;cases Pg;split at hr;.rename_i hn;rw[Qd hn] at hr;refine go (.box (Vh (σa.at s)+1) cs ow) (.inr (.inr ⟨ver,cs,LV,_,ow,hx,rfl,λo ho=>?_⟩)) (.inl ⟨_,_,_,rfl,ID _⟩) hr;have:=D8.1 Gg.2 o ho;simpa using this
     .cases hr
    .cases Pg
   |_=>rw[hx] at Pg;cases Pg
def Ct.ma(hr:Ct C U0 w0 U Z σ h a w){O:Bq}(hl:O.length=σ.length)(hs:∀s,O.at s= .undef\/O.at s=σ.at s\/NC (σ.at s) (O.at s)):Ct C U0 w0 U Z O h a w:=by
 refine⟨hr.Db,⟨by rw[hl];exact hr.fr.size,λs=>?_⟩,hr.C2,hr.defers,hr.Fl⟩;have h0:=hr.fr.GB s;rcases hs s with e|e|e
 .rw[e];trivial
 .rw[e];exact h0
 .exact e.rel h0
structure rC(σ0:Bq)(ws:List Nat)(l:List (Nat×Sh))(σ':Bq)(vs:List Aa):Prop where
 vec:SD σ' l=some vs
 len:σ'.length=σ0.length
 same:∀s,s∉l.map (·.1)->σ0.at s= .undef\/σ0.at s=σ'.at s
 box:∀s ver cs ow,σ0.at s= .box ver cs ow->∃E0 Fx LV,σ'.at s= .box E0 Fx LV
def YD{σ0 σ':Bq}{l:List (Nat×Sh)}(hk:aG σ0 σ' l=true){s:Nat}(hs:s∉l.map (·.1)):(∀ver cs ow,σ0.at s= .box ver cs ow->∃Fx LV,σ'.at s= .box ver Fx LV)/\(∀t o,σ0.at s= .Ed t o->∃t' o',σ'.at s= .Ed t' o'):=by
 have hc:(l.map (·.1)).contains s=false:=by
  cases hc:(l.map (·.1)).contains s with
  |false=>rfl
  |true=>exact absurd (by simpa using hc) hs
 have WG:s<σ0.length->(match σ0.at s with
   | .box ver _ _=>(l.map (·.1)).contains s||(match σ'.at s with| .box E0 _ _=>E0==ver|_=>false)
   | .Ed _ _=>(l.map (·.1)).contains s||(match σ'.at s with| .Ed _ _=>true|_=>false)
   |_=>true)=true:=λhl=>by
  unfold aG at hk;exact D8.1 hk s (by simpa using hl)
 constructor
 .intro ver cs ow hx;have:=WG (Bq.MO (by rw[hx];simp));rw[hx] at this;simp only[hc,OP] at this;split at this
  .rename_i E0 Fx LV hy;have e:E0=ver:=by simpa using this
   subst e;exact⟨Fx,LV,hy⟩
  .cases this
 .intro t o hx;have:=WG (Bq.MO (by rw[hx];simp));rw[hx] at this;simp only[hc,OP] at this;split at this;.rename_i t' o' hy;exact⟨t',o',hy⟩
  .cases this
def MY{σ0 b σ':Bq}{ws:List Nat}{l:List (Nat×Sh)}{x:EW}{R:IF}(RI:IT.step (BK C) run (finish σ0 l x σ') h=some R)(lF:EO ws b σ')(hlen:b.length=σ0.length)
  (R5:∀s,s∈ws->σ0.at s= .undef) (Lv:∀s,s∉l.map (·.1)->σ0.at s= .undef\/σ0.at s=b.at s) (aAB:∀s ver cs ow,σ0.at s= .box ver cs ow->∃E0 Fx LV,b.at s= .box E0 Fx LV):
  ∃vs,R=(x,vs,h)/\rC σ0 ws l σ' vs:=by
 unfold finish at RI;split at RI
 .rename_i hk;split at RI
  .rename_i vs hv;cases RI;refine⟨vs,rfl,hv,lF.1.trans hlen,λs hs=>?_,λs ver cs ow hb=>?_⟩
   .by_cases hw:s∈ws;.exact .inl (R5 s hw)
    .rcases Lv s hs with e|e
     .exact .inl e
     .right;have RJ:=lF.2 s hw;obtain⟨g,f⟩:=YD hk hs;rw[e] at g f⊢;cases hx:b.at s with
      |box ver cs ow=>rw[hx] at RJ;obtain⟨j,c1,k,e1,_,c⟩:=RJ;obtain⟨c2,d,i⟩:=g ver cs ow hx;rw[e1] at i;cases i;obtain⟨rfl,rfl⟩:=c rfl;exact e1.symm
      |Ed t o=>
       rw[hx] at RJ;rcases RJ with e1|e1
       .exact e1.symm
       .obtain⟨t',o',c⟩:=f t o hx;rw[e1] at c;cases c
      |_=>rw[hx] at RJ;exact(show σ'.at s=_ from RJ).symm
   .have hw:s∉ws:=λhw=>by rw[R5 s hw] at hb;cases hb
    obtain⟨j,c1,k,e1⟩:=aAB s ver cs ow hb;have RJ:=lF.2 s hw;rw[e1] at RJ;obtain⟨v2,c2,d,c,_⟩:=RJ;exact⟨v2,c2,d,c⟩
  .cases RI
 .cases RI
def rC.next{σ0 σ':Bq}{ws:List Nat}{l:List (Nat×Sh)}{vs:List Aa}(he:rC σ0 ws l σ' vs){G:Bq->IT}{R:IF}(hr:Ct C U0 w0 U Z σ' h a w)(Ay:IT.step (BK C) run (HQ vs l 0 σ0 G) h=some R):
  ∃b,IT.step (BK C) run (G b) h=some R/\Ct C U0 w0 U Z b h a w/\b.length=σ0.length/\(∀s,s∉l.map (·.1)->b.at s=σ0.at s)/\(∀s ver cs ow,σ0.at s= .box ver cs ow->∃E0 Fx LV,b.at s= .box E0 Fx LV/\(s∈l.map (·.1)->ver<E0)):=by
 obtain⟨b,g,d,k3,c⟩:=Q7 (σs:=σ') (by simpa using he.vec) he.len.symm Ay;refine⟨b,g,hr.ma (d.trans he.len.symm) λs=>?_,d,k3,λs ver cs ow hb=>?_⟩
 .by_cases hm:s∈l.map (·.1);.exact .inr (.inr (c s hm).1)
  .rw[k3 s hm];rcases he.same s hm with e|e
   .exact .inl e
   .exact .inr (.inl e)
 .by_cases hm:s∈l.map (·.1)
  .obtain⟨_,q⟩:=c s hm;obtain⟨j,c1,k,e1⟩:=he.box s ver cs ow hb;rcases q with⟨E0,Fx,LV,i,f⟩|q
   .exact⟨E0,Fx,LV,i,λ_=>by rw[hb] at f;exact f⟩
   .exact absurd e1 (q _ _ _)
  .exact⟨ver,cs,ow,by rw[k3 s hm];exact hb,λh=>absurd h hm⟩
def MZ{σ σ0 b:Bq}{ws W:List Nat}{l:List (Nat×Sh)}(h0:σ0=σ.clear ws)(hv:pK l ws σ=true)(hl:b.length=σ0.length)(h1:∀s,s∉l.map (·.1)->b.at s=σ0.at s)
  (h2:∀s ver cs ow,σ0.at s= .box ver cs ow->∃E0 Fx LV,b.at s= .box E0 Fx LV/\(s∈l.map (·.1)->ver<E0)) (hW:∀s∈ws,s∈W):EO W σ b:=by
 refine⟨by rw[hl,h0,Bq.Io],λs hs=>?_⟩;have c:s∉ws:=λhm=>hs (hW s hm);have e0:σ0.at s=σ.at s:=by rw[h0,Bq.GL,Ac c]
 by_cases hm:s∈l.map (·.1)
 .obtain⟨p,hp,rfl⟩:=AR.1 hm;have:=D8.1 hv p hp;simp only[Ru,wo] at this;rcases this with this|this
  .exact absurd this c
  .cases hx:σ.at p.1 with
   |box ver cs ow=>obtain⟨d,c1,f,e1,g⟩:=h2 p.1 ver cs ow (by rw[e0];exact hx);have:=g hm;exact⟨d,c1,f,e1,Ab,λe=>Ab⟩
   |_=>rw[hx] at this;cases this
 .rw[h1 s hm,e0];exact .refl _
def DO.le{n m:Nat}(h:DO C (IT.run (BK C) n))(rD:m<=n):DO C (IT.run (BK C) m):=⟨h.1,λf args h0 r h' Ay=>h.2 f args h0 r h' (IT.Hp rD Ay)⟩
def rE(hm:C.P.follows .mixedOrders=true):∀(c:Code) (n:Nat),DO C (IT.run (BK C) n)->∀{K:EW->Bq->IT} {R:IF} {σ:Bq} {h:Ag} {a:Act} {w:World} {U:Gh} {Z:Nat->Nat} {Q:Exit->Act->World->Prop},
  IT.step (BK C) (IT.run (BK C) n) (E1 C fid c σ K) h=some R->Ct C U0 w0 U Z σ h a w->
  (∀x f d σ' h' a' w',IT.step (BK C) (IT.run (BK C) n) (K x σ') h'=some R->EO (Cv c++BP c) σ σ'->Ct C U0 w0 f d σ' h' a' w'->Q (q9 x) a' w')->c.wp C.P Q a w:=by
 intro c;induction c with
 |skip=>intro n hS K R σ h a w U Z Q Ay hr hK;exact wp_skip (hK .normal U Z σ h a w Ay (.refl _ _) hr)
 |region id ops draw=>
  intro n hS K R σ h a w U Z Q Ay hr hK;simp only[E1] at Ay;split at Ay;.exact S8 hm hS Ay hr λf d σ' h' a' w' h1 h2 q=>hK .normal f d σ' h' a' w' h1 h2 q
  .rename_i l hl;unfold Wo at Ay;simp only at Ay;split at Ay
   .rename_i hv;simp only[IT.step] at Ay;split at Ay
    .rename_i x vs h1 M0;refine S8 hm hS M0 hr λf d σ' h' a' w' p o k3=>?_;obtain⟨Gu,e,he⟩:=MY (h:=h') p o (by rw[Bq.Io]) (λs hs=>by rw[Bq.GL,Ad hs]) (λs _=>by rw[Bq.GL];split<;>simp) (λs ver cs ow hb=>by
      rw[Bq.GL] at hb;split at hb;.cases hb
      .exact⟨ver,cs,ow,hb⟩)
     cases e;obtain⟨j,B,A,G,F,E⟩:=he.next k3 Ay;exact hK .normal f d j h1 a' w' B (MZ rfl hv G F E (λs hs=>hs)) A
    .cases Ay
   .cases Ay
 |seq x y z u=>
  intro n hS K R σ h a w U Z Q Ay hr hK;simp only[E1] at Ay;refine wp_seq (z n hS Ay hr λe f d σ' h' a' w' h1 h2 q=>?_);have up:∀g,EO (Cv x++BP x) σ g->EO (Cv (.seq x y)++BP (.seq x y)) σ g:=λg ho=>ho.mono λs hs=>by simp only[Cv,BP,Al] at hs⊢;rcases hs with hs|hs<;>simp[hs]
  cases e with
  |normal=>refine u n hS h1 q λS U2 Z2 g X1 a2 T p o k3=>hK S U2 Z2 g X1 a2 T p ((up _ h2).trans (o.mono λs hs=>?_)) k3;simp only[Cv,BP,Al] at hs⊢;rcases hs with hs|hs<;>simp[hs]
  |exit i=>exact hK (.exit i) f d σ' h' a' w' h1 (up _ h2) q
  |ret=>exact hK .ret f d σ' h' a' w' h1 (up _ h2) q
 |cond c x y z u=>
  intro n hS K R σ h a w U Z Q Ay hr hK;have J:∀{k g:Bq},EO (Cv x++BP x) k g->EO (Cv (.cond c x y)++BP (.cond c x y)) k g:=λ{k g} ho=>ho.mono λs hs=>by cases c<;>simp only[Cv,BP,Al,Az] at hs⊢<;>rcases hs with hs|hs<;>simp[hs]
  have I:∀{k g:Bq},EO (Cv y++BP y) k g->EO (Cv (.cond c x y)++BP (.cond c x y)) k g:=λ{k g} ho=>ho.mono λs hs=>by cases c<;>simp only[Cv,BP,Al,Az] at hs⊢<;>rcases hs with hs|hs<;>simp[hs]
  simp only[E1] at Ay;split at Ay;.rename_i hc;obtain⟨s,h1,_⟩:=E2 hr hc;exact wp_cond_true h1 (z n hS Ay hr λe f d σ' h' a' w' p o k3=>hK e f d σ' h' a' w' p (J o) k3)
  .rename_i hc;obtain⟨s,h1,_⟩:=E2 hr hc;exact wp_cond_false h1 (u n hS Ay hr λe f d σ' h' a' w' p o k3=>hK e f d σ' h' a' w' p (I o) k3)
  .rename_i s v hc;have ee:σ.at s= .val v:=FA hc;have h0:=hr.fr.GB s;rw[ee] at h0;have D:∀{M:EW->Bq->IT} {R':IF} {Q':Exit->Act->World->Prop},IT.step (BK C) (IT.run (BK C) n) (.A4 v (E1 C fid x (σ.set s (.MC true)) M) (E1 C fid y (σ.set s (.MC false)) M)) h=some R'->
     (∀e f d σ' h' a' w',IT.step (BK C) (IT.run (BK C) n) (M e σ') h'=some R'->EO (Cv (.cond (.tmp s) x y)++BP (.cond (.tmp s) x y)) σ σ'->Ct C U0 w0 f d σ' h' a' w'->Q' (q9 e) a' w')->(Code.cond (.tmp s) x y).wp C.P Q' a w:=by
    intro M R' Q' S7 L;have lP:∀b:Bool,EO (Cv (.cond (.tmp s) x y)++BP (.cond (.tmp s) x y)) σ (σ.set s (.MC b)):=λb=> .set (by simp[BP]);simp only[IT.step] at S7;split at S7;.have hv:a.eval (.tmp s)= .bool true:=h0;exact wp_cond_true hv (z n hS S7 (hr.Yc h0) λe f d σ' h' a' w' p o k3=>L e f d σ' h' a' w' p ((lP true).trans (J o)) k3)
    .have hv:a.eval (.tmp s)= .bool false:=h0;exact wp_cond_false hv (u n hS S7 (hr.Yc h0) λe f d σ' h' a' w' p o k3=>L e f d σ' h' a' w' p ((lP false).trans (I o)) k3)
    .cases S7
   split at Ay;.exact D Ay hK
   .rename_i l hl;unfold Wo at Ay;simp only at Ay;split at Ay
    .rename_i hv;simp only[IT.step] at Ay;split at Ay
     .rename_i e vs h1 M0;refine D M0 λS f d σ' h' a' w' p o k3=>?_;obtain⟨Gu,eq,he⟩:=MY (h:=h') (ws:=s::(Cv x++Cv y++BP x++BP y)) p (o.mono λt ht=>by
        simp only[Cv,BP,Al,Az] at ht⊢;rcases ht with(ht|ht)|ht|ht|ht<;>simp[ht]) (by rw[Bq.Io]) (λt ht=>by rw[Bq.GL,Ad ht]) (λt _=>by rw[Bq.GL];split<;>simp) (λt ver cs ow hb=>by
       rw[Bq.GL] at hb;split at hb;.cases hb
       .exact⟨ver,cs,ow,hb⟩)
      cases eq;obtain⟨j,B,A,G,F,E⟩:=he.next k3 Ay;exact hK e f d j h1 a' w' B (MZ rfl hv G F E (λt ht=>by simp only[Cv,BP,Al,Az] at ht⊢;rcases ht with ht|((ht|ht)|ht)|ht<;>simp[ht])) A
     .cases Ay
    .cases Ay
  .cases Ay
 |block id b ih=>
  intro n hS K R σ h a w U Z Q Ay hr hK;simp only[E1] at Ay;refine wp_block (ih n hS Ay hr λe f d σ' h' a' w' h1 h2 q=>?_);cases e with
  |normal=>exact hK .normal f d σ' h' a' w' h1 h2 q
  |exit i=>
   simp only at h1;show if i=id then Q .normal a' w' else Q (.exit i) a' w'
   by_cases hi:i=id;.rw[Ad hi] at h1⊢;exact hK .normal f d σ' h' a' w' h1 h2 q
   .rw[Ac hi] at h1⊢;exact hK (.exit i) f d σ' h' a' w' h1 h2 q
  |ret=>exact hK .ret f d σ' h' a' w' h1 h2 q
 |loop b ih=>
  intro n hS K R σ h a w U Z Q Ay hr hK;simp only[E1] at Ay;generalize hl:C.jn fid ((Fm b).getD 0)=l at Ay;generalize aFx:(Fm b).getD 0=key at Ay;generalize h0:σ.clear (Cv b++BP b)=σ0 at Ay;split at Ay
  .rename_i hv;split at Ay;.cases Ay
   .rename_i init yf;have yg:σ0.length=σ.length:=by rw[<-h0,Bq.Io]
    have R5:∀s,s∈Cv b++BP b->σ0.at s= .undef:=λs hs=>by rw[<-h0,Bq.GL,Ad hs]
    refine WD (λm a w=>∃U Z k h vs,Ct C U0 w0 U Z k h a w/\rC σ0 (Cv b++BP b) l k vs/\m<=n+1/\
     IT.run (BK C) m (.loop key vs (λvs=>HQ vs l 0 σ0 λj=>E1 C fid b j λx σ'=>finish σ0 l x σ') λx vs=>HQ vs l 0 σ0 λσ'=>dx K x σ') h=some R) ?_ (n+1) a w
     ⟨U,Z,σ,h,init,hr,⟨yf,yg.symm,λs _=>by rw[<-h0,Bq.GL];split<;>simp,λs ver cs ow hb=>by
      rw[<-h0,Bq.GL] at hb;split at hb;.cases hb
      .exact⟨ver,cs,ow,hb⟩⟩,Af _,Ay⟩
    rintro m a1 w1 ⟨U1,Z1,k,h1,vs,Ij,N,rD,Ho⟩;cases m with
    |zero=>simp[IT.run] at Ho
    |succ m=>
     simp only[IT.run,IT.step] at Ho;have body:∀{x:EW} {Gu:List Aa} {h':Ag},IT.step (BK C) (IT.run (BK C) m) (HQ vs l 0 σ0 λj=>E1 C fid b j λx σ'=>finish σ0 l x σ') h1=some (x,Gu,h')->∀{Q':Exit->Act->World->Prop},
       (∀f d σ' a' w',Ct C U0 w0 f d σ' h' a' w'->rC σ0 (Cv b++BP b) l σ' Gu->Q' (q9 x) a' w')->b.wp C.P Q' a1 w1:=by
      intro x Gu h' hb Q' O;obtain⟨j,B,A,G,F,E⟩:=N.next Ij hb;refine ih m (hS.le Ab) B A λy f d σ' h2 a' w' p o k3=>?_;obtain⟨V,eq,he⟩:=MY p o G R5 (λs hs=> .inr (F s hs).symm) λs ver cs ow hb=>by obtain⟨X,c1,Y,e1,_⟩:=E s ver cs ow hb;exact⟨X,c1,Y,e1⟩
      cases eq;exact O f d σ' a' w' k3 he
     split at Ho;.rename_i Gu h' hb;exact body hb λf d σ' a' w' FH YE=>⟨m,ID m,f,d,σ',h',Gu,FH,YE,Ab,Ho⟩
     .rename_i x Gu h' hne hb;refine body hb λf d σ' a' w' FH YE=>?_;have Q6:=IT.IL (λt h r=>IT.Hp (fn:=BK C) (Ab:m<=n)) _ _ _ Ho;obtain⟨j,B,A,G,F,E⟩:=YE.next FH Q6;have ho:=MZ h0.symm hv G F E λs hs=>hs;cases x with
      |normal=>exact absurd rfl hne
      |exit i=>exact hK _ f d j h' a' w' B ho A
      |ret=>exact hK _ f d j h' a' w' B ho A
     .cases Ho
  .cases Ay
 |exit id=>intro n hS K R σ h a w U Z Q Ay hr hK;exact wp_exit (hK (.exit id) U Z σ h a w Ay (.refl _ _) hr)
 |ret=>intro n hS K R σ h a w U Z Q Ay hr hK;exact wp_ret (hK .ret U Z σ h a w Ay (.refl _ _) hr)
 |label l=>intro n hS K R σ h a w U Z Q Ay hr hK;exact wp_label (hK .normal U Z σ h a w Ay (.refl _ _) hr)
 |scope b ih=>
  intro n hS K R σ h a w U Z Q Ay hr hK;simp only[E1] at Ay;refine wp_scope_straight (ih n hS Ay hr λe f d σ' h' a' w' h1 h2 q=>?_);cases e with
  |normal=>exact hK .normal f d σ' h' a' w' h1 h2 q
  |exit i=>exact hK (.exit i) f d σ' h' a' w' h1 h2 q
  |ret=>exact hK .ret f d σ' h' a' w' h1 h2 q
 |_=>intros n hS K R σ h a w U Z Q Ay hr hK;cases Ay
end
end Go.Am
end
section
namespace Go.Am
open Go
section
variable{C:E7}{U0 U:Gh}{w0 w:World}{Z:Nat->Nat}{σ:Bq}{h:Ag}{a:Act}{fid:FuncId}{run:IT->Ag->Option IF}
def GM(tmps:Array Value):ResultVar->Sem Value
 | .tmp t=>pure (tmps.getD t undef)
 | .cell a t=>do loadVar t (<-asAddr (tmps.getD a undef))
def Ph{P:Program}{t:TypeId}{b o:Nat}{v:Value}(h:(Instr.loadAt t (.pointer (some ⟨b,o,none⟩))).run P w= .ok v w):(loadVar t ⟨b,o,none⟩).run P w= .ok v w:=by simpa[Instr.loadAt,Instr.sureAddr] using h
def Q8{K:List Aa->IT}{R:IF}:∀{rs:List ResultVar} {C2:List Aa},IT.step (BK C) run (Ff C σ rs C2 K) h=some R->Ct C U0 w0 U Z σ h a w->
  ∃vs us,(rs.mapM (GM a.tmps)).run C.P w= .ok us w/\AK U vs us/\IT.step (BK C) run (K (C2.reverse++vs)) h=some R
 |[],C2,Ay,hr=>⟨[],[],Au,rfl,by simpa[Ff] using Ay⟩
 |d::rs,C2,Ay,hr=>by
  have one:∀(v:Aa) (u:Value),(GM a.tmps d).run C.P w= .ok u w->Bp U v u->IT.step (BK C) run (Ff C σ rs (v::C2) K) h=some R->
    ∃vs us,((d::rs).mapM (GM a.tmps)).run C.P w= .ok us w/\AK U vs us/\IT.step (BK C) run (K (C2.reverse++vs)) h=some R:=by
   intro v u h1 h2 l;obtain⟨vs,us,x,q,k3⟩:=Q8 l hr;refine⟨v::vs,u::us,?_,⟨u,us,rfl,h2,q⟩,by simpa using k3⟩;simp[List.mapM_cons,h1,x]
  cases d with
  |tmp t=>
   simp only[Ff] at Ay;split at Ay;.rename_i v hv;exact one v _ (by simp[GM]) (Lx (hr.fr.GB t) hv) Ay
   .cases Ay
  |cell p t=>
   have mb:∀(b o:Nat) (v:Aa),a.tmps.getD p undef= .pointer (some ⟨b,o,none⟩)->(∃u,(Instr.loadAt t (.pointer (some ⟨b,o,none⟩))).run C.P w= .ok u w/\Bp U v u)->IT.step (BK C) run (Ff C σ rs (v::C2) K) h=some R->
     ∃vs us,((ResultVar.cell p t::rs).mapM (GM a.tmps)).run C.P w= .ok us w/\AK U vs us/\IT.step (BK C) run (K (C2.reverse++vs)) h=some R:=by
    intro b o v hp ⟨u,h1,h2⟩ l;refine one v u ?_ h2 l;simp only[GM,hp,asAddr,Sem.run_bind,Sem.run_pure,Result.andThen_ok];exact Ph h1
   simp only[Ff] at Ay;split at Ay
   .rename_i s off ver cs ow ht ha;split at Ay;.rename_i hlt;obtain⟨hs,hx⟩:=Jg hr ha;obtain⟨u,g,f,_⟩:=I5 hr ht hs (r:=cs.getD off .nilIface) (off:=off) (by simp[Ek,List.getD,Ap hlt]);exact mb _ _ _ hx ⟨u,g,f⟩ Ay
    .cases Ay
   .rename_i n s off ver cs ow ht ha;split at Ay;.rename_i DG;obtain⟨hs,hx⟩:=Jg hr ha;obtain⟨u,g,f,_⟩:=I5 hr ht hs (r:= .agg ((cs.drop off).take n)) (off:=off) (by simp[Ek,DG]);exact mb _ _ _ hx ⟨u,g,f⟩ Ay
    .cases Ay
   .rename_i n p' ht ha;simp only[IT.step] at Ay;split at Ay
    .rename_i v hv;have gC:=Ol hr ha;unfold BE at hv;split at hv;.rename_i cs;obtain⟨b,k,Yr,hm⟩:=gC;obtain⟨us,i,c⟩:=hm.values;exact mb b k v Yr (GK (w:=w) ht i (λj u hj=>(hr.Db.GA _ _ _ (c j u hj)).1) (λu hu=>by obtain⟨j,hj⟩:=Cf hu;exact(hr.Db.GA _ _ _ (c j u hj)).2.1) hv) Ay
     .rename_i id off;obtain⟨b,hb,Yr⟩:=gC;split at hv
      .rename_i cs hcs;obtain⟨us,e,fr,i,pf,c,m⟩:=hr.Db.cells id cs hcs b hb;refine mb b off v Yr (GK (w:=w) (b:=b) (o:=off) ht (c.drop off) (λj u hj=>?_) (λu hu=>m u (A7 hu)) (MS hv)) Ay;rw[cell_of_row w _ _ us e fr i];rw[Cc,BV] at hj;split at hj;.simpa using hj
       .cases hj
      .cases hv
     .cases hv
    .cases Ay
   .cases Ay
def Ct.HA(hr:Ct C U0 w0 U Z σ h a w){p:Aa}{off:Nat}{u:Value}{h':Ag}(hp:Bp U p u)(hf:Kb h off p=some h'):∃r,Ct C U0 w0 r Z σ h' a w:=by
 unfold Kb at hf;split at hf;.cases hf;exact⟨U,hr⟩
 .rename_i id m;generalize m+off=o at hf;obtain⟨b,hb,_⟩:=hp;split at hf
  .rename_i cs hcs;split at hf
   .rename_i v hv;obtain⟨us,e,fr,c,pf,l,t⟩:=hr.Db.cells id cs hcs b hb;obtain⟨x,hx,kj⟩:=l.get hv;cases hq:La h v with
    |none=>rw[hq] at hf;cases hf
    |some q=>
     obtain⟨h1,v'⟩:=q;rw[hq] at hf;simp only[BU] at hf;split at hf
     .rename_i Fx yh;cases hf;obtain⟨U1,DG,Ij,oO⟩:=hr.Sn kj hq;have MI:=DG.mu _ _ hb;obtain⟨k_,e1,n,g,j,r2,k⟩:=Ij.Db.cells id Fx yh b MI;rw[c] at g;cases g;have lP:AK U1 (Fx.set o v') (us.toList.take (Fx.set o v').length):=by
       rw[Bz];refine AK.Fz (by simp[r2.length]) λi y z hy hz=>?_;by_cases hi:o=i
       .subst hi;by_cases hlt:o<Fx.length
        .rw[AA hlt] at hy;cases hy;have f:x=z:=by rw[Ca hlt] at hz;have aAD:o<cs.length:=(Ae.1 hv).1;rw[Ca aAD] at hx;rw[hx] at hz;exact Da hz
         rw[<-f];exact oO
        .rw[Dd (by simpa using hlt)] at hy;cases hy
       .rw[Aj hi] at hy;obtain⟨s,Uv,d⟩:=r2.get hy;rw[hz] at Uv;cases Uv;exact d
      obtain⟨NR,KI⟩:=Lu Ij.Db yh MI c us (Fx.set o v') rfl j lP (by rw[Bz];exact k);rw[setRow_self w b us e fr c] at NR KI;exact⟨U1,Ij.world NR KI⟩
     .cases hf
   .cases hf
  .cases hf
 .cases hf
def gL{t:IT}{R:IF}:∀{l:List (Nat×Nat)} {U:Gh} {h:Ag},IT.step (BK C) run (fX C σ l t) h=some R->Ct C U0 w0 U Z σ h a w->∃b h',Ct C U0 w0 b Z σ h' a w/\IT.step (BK C) run t h'=some R
 |[],U,h,Ay,hr=>⟨U,h,hr,Ay⟩
 |(s,off)::l,U,h,Ay,hr=>by
  simp only[fX] at Ay;split at Ay
  .rename_i p hp;simp only[IT.step] at Ay;split at Ay;.rename_i h1 hf;obtain⟨U1,Ij⟩:=hr.HA (Lx (hr.fr.GB s) hp) hf;exact gL Ay Ij
   .cases Ay
  .cases Ay
def S9{R:IF}:∀{vs C2:List Aa} {U:Gh} {h:Ag} {us oM:List Value},IT.step (BK C) run (MN vs C2 QU) h=some R->Ct C U0 w0 U Z σ h a w->AK U vs us->AK U C2.reverse oM->
  ∃c h' Gu,Ct C U0 w0 c Z σ h' a w/\AK c Gu (oM++us)/\IT.step (BK C) run (QU Gu) h'=some R
 |[],C2,U,h,us,oM,Ay,hr,h1,h2=>by rw[show us=[] from h1,BN];exact⟨U,h,C2.reverse,hr,h2,Ay⟩
 |v::vs,C2,U,h,us,oM,Ay,hr,h1,h2=>by
  obtain⟨u,CS,rfl,hv,h1⟩:=h1;simp only[MN,IT.step] at Ay;split at Ay
  .rename_i k v' hf;obtain⟨U1,DG,Ij,oO⟩:=hr.Sn hv hf;have i:AK U1 (v'::C2).reverse (oM++[u]):=by rw[Ib];exact(AK.mono DG _ _ h2).append ⟨u,[],rfl,oO,rfl⟩
   obtain⟨j,g,b,f,e,d⟩:=S9 Ay Ij (AK.mono DG _ _ h1) i;exact⟨j,g,b,f,by rwa [AI] at e,d⟩
  .cases Ay
def gM{R:IF}{vs:List Aa}{us:List Value}{U:Gh}{h:Ag}(Ay:IT.step (BK C) run (QU vs) h=some R)(hv:AK U vs us):
  ∃r,R=(.ret,[r],h)/\Bp U r (if b:us.toArray.size=1 then us.toArray[0] else .tuple us.toArray):=by
 unfold QU at Ay;split at Ay;.rename_i v;obtain⟨u,CS,rfl,ſ,hnil⟩:=hv;rw[show CS=[] from hnil];simp only[IT.step] at Ay;cases Ay;exact⟨v,rfl,by simpa using ſ⟩
 .rename_i hne;simp only[IT.step] at Ay;cases Ay;have hlen:us.length≠1:=λe=>by have:=hv.length;rw[e] at this;obtain⟨v,hv⟩:=uj.1 this.symm;exact hne v hv
  refine⟨_,rfl,?_⟩;rw[dif_neg (by simpa using hlen)];exact⟨us.toArray,rfl,by simpa using hv⟩
def Q9{fn:Func}{tmps:Array Value}{us:List Value}(h:(fn.results.toList.mapM (GM tmps)).run C.P w= .ok us w):(results fn tmps).run C.P w= .ok (if b:us.toArray.size=1 then us.toArray[0] else .tuple us.toArray) w:=by
 have e:fn.results.mapM (GM tmps)=(do let l<-fn.results.toList.mapM (GM tmps);pure l.toArray:Sem (Array Value)):=by rw[Array.mapM_eq_mapM_toList];simp
 have c:results fn tmps=(do let vs<-fn.results.mapM (GM tmps);pure (if b:vs.size=1 then vs[0] else .tuple vs):Sem Value):=by unfold results;congr 2
 rw[c,e];simp only[Sem.run_bind,h,Result.andThen_ok,Sem.run_pure]
def xJ{fn:Func}{R:IF}(Ay:IT.step (BK C) run (Yb C fid fn σ) h=some R)(hr:Ct C U0 w0 U Z σ h a w):
  ∃r h' v d,R=(.ret,[r],h')/\(results fn a.tmps).run C.P w= .ok v w/\Fg d h' w/\IB U0 w0 d w/\Bp d r v/\(C.HP fid=true->∃s c,Hq d w0.heap.size w s c v r):=by
 unfold Yb at Ay;split at Ay;.cases Ay
 .rename_i hown;obtain⟨U1,h1,Ij,Ho⟩:=gL Ay hr;by_cases ho:C.HP fid=true
  .have Ŏ:∃t x,fn.results.toList=[.tmp t]/\σ.at t= .Bn x:=by
    have:Nx σ fn.results.toList=true:=by
     cases hq:Nx σ fn.results.toList with
     |true=>rfl
     |false=>exact absurd (by simp[ho,hq]) hown
    unfold Nx at this;split at this
    .rename_i t Hy;split at this;.rename_i x hx;exact⟨t,x,Hy,hx⟩
     .cases this
    .cases this
   obtain⟨t,x,vf,hx⟩:=Ŏ;have h0:=Ij.fr.GB t;rw[hx] at h0;have xK:=Q9 (C:=C) (w:=w) (fn:=fn) (tmps:=a.tmps) (us:=[a.tmps.getD t undef]) (by rw[vf];simp[GM]);rw[vf] at Ho;simp only[Ff,hx,Dw.FM,Ib,PU,Bj] at Ho;have yi:La h1 x=some (h1,x):=by rcases h0.2 with(rfl|⟨_,rfl⟩)|⟨_,_,_,_,_,_,_,rfl,_⟩<;>rfl
   have hR:R=(.ret,[x],h1):=by
    split at Ho;.simp only[MN,IT.step,yi,Ib,PU,Bj,QU] at Ho;cases Ho;rfl
    .simp only[IT.step,QU] at Ho;cases Ho;rfl
   exact⟨x,h1,_,U1,hR,by simpa using xK,Ij.Db,Ij.C2,h0.1,λ_=>⟨t,none,h0.2⟩⟩
  .obtain⟨vs,us,l,i,Q6⟩:=Q8 Ho Ij;simp only[PU,Bj] at Q6;have xK:=Q9 (C:=C) l;split at Q6;.obtain⟨m,h2,j,g,f,k⟩:=S9 Q6 Ij i (oM:=[]) rfl;rw[Bj] at f;obtain⟨r,hR,b⟩:=gM k f;exact⟨r,h2,_,m,hR,xK,g.Db,g.C2,b,λe=>absurd e ho⟩
   .obtain⟨r,hR,b⟩:=gM Q6 i;exact⟨r,h1,_,U1,hR,xK,Ij.Db,Ij.C2,b,λe=>absurd e ho⟩
def Ct.start{U:Gh}{h:Ag}{w:World}(hi:Fg U h w)(hg:∀g cs,C.Fl g=some cs->Co U cs g 0){args:List Aa}{cargs:Array Value}(ha:AK U args cargs.toList)(n:Nat)(Z:Nat->Nat):
  Ct C U w U Z (args.map .val++List.replicate (n-args.length) .undef) h {tmps:=cargs++Array.replicate (n-cargs.size) undef,defers:=[]} w:=by
 have hlen:cargs.size=args.length:=by have:=ha.length;simpa using this
 refine⟨hi,⟨by simp[hlen],λs=>?_⟩,IB.refl U w,rfl,hg⟩;by_cases hs:s<args.length
 .have h1:Bq.at (args.map .val++List.replicate (n-args.length) .undef) s= .val args[s]:=by simp[Bq.at,List.getD,Ai,hs]
  obtain⟨u,hu,hr⟩:=ha.get (Ap hs);have h2:(cargs++Array.replicate (n-cargs.size) undef).getD s undef=u:=by
   rw[FB,Array.getElem?_append_left Ab];have:cargs[s]?=some u:=by simpa using hu
   rw[this];rfl
  rw[h1,h2];exact hr
 .have h1:Bq.at (args.map .val++List.replicate (n-args.length) .undef) s= .undef:=by have hm:(args.map Dw.val).length=args.length:=Au;simp only[Bq.at,List.getD];rw[BG Ab,List.getElem?_replicate];split<;>rfl
  rw[h1];trivial
def WH(C:E7):Prop:=
 (∀f,C.Mr f=true->qG C f)/\∀(f:FuncId) (p:List Aa->IT),C.jo f=some p->∀n,DO C (IT.run (BK C) n)->∀(args:List Aa) (h:Ag) (r:Aa) (h':Ag),IT.step (BK C) (IT.run (BK C) n) (p args) h=some (.ret,[r],h')->
  (∃fn c,C.P.funcs[DE f]?=some fn/\(fn.name== "runtime.NumGoroutine")=false/\fn.body=some c)/\
  ∀(U:Gh) (w:World) (cargs:Array Value),Fg U h w->(∀g cs,C.Fl g=some cs->Co U cs g 0)->AK U args cargs.toList->
   Calls C.P (DE f) cargs w λe w'=>match e with
    | .returned v=>∃b,Fg b h' w'/\IB U w b w'/\Bp b r v/\(C.HP f=true->∃s c,Hq b w.heap.size w' s c v r)
    |_=>False
def YF(hm:C.P.follows .mixedOrders=true)(xL:∀g cs,C.Fl g=some cs->cs.all Aa.KE=true)(fm:WH C):∀n,DO C (IT.run (BK C) n)
 |0=>⟨⟨xL,fm.1⟩,λf args h r h' Ay=>by simp[IT.run] at Ay⟩
 |n+1=>⟨⟨xL,fm.1⟩,λf args h r h' Ay=>by
  have ih:=YF hm xL fm n;simp only[IT.run] at Ay;unfold BK at Ay;split at Ay;.rename_i p hp;exact fm.2 f p hp n ih args h r h' Ay
  unfold xb at Ay;split at Ay
  .rename_i fn hf;split at Ay;.cases Ay
   .rename_i hname;unfold pL at Ay;split at Ay;.cases Ay
    .rename_i c hb;refine⟨⟨fn,c,hf,by simpa using hname,hb⟩,λU w cargs hi hg ha=>calls_of_wp hf hb ?_⟩;refine rE (C:=C) (fid:=f) hm c n ih Ay (Ct.start hi hg ha fn.ntmps (λ_=>0)) λx t q σ' h1 a' w' d _ k3=>?_;have II:IT.step (BK C) (IT.run (BK C) n) (Yb C f fn σ') h1=some (.ret,[r],h')->a'.defers=[]/\∃v,(results fn a'.tmps).run C.P w'= .ok v w'/\∃b,Fg b h' w'/\IB U w b w'/\Bp b r v/\(C.HP f=true->∃s c,Hq b w.heap.size w' s c v r):=λaAF=>by obtain⟨r',h2,v,b,e,o,m,l,k,j⟩:=xJ aAF k3;cases e;exact⟨k3.defers,v,o,b,m,l,k,j⟩
     cases x with
     |normal=>exact II d
     |ret=>exact II d
     |exit i=>cases d
  .cases Ay⟩
end
def Ev.calls{C:E7}(hm:C.P.follows .mixedOrders=true)(xL:∀g cs,C.Fl g=some cs->cs.all Aa.KE=true)(fm:WH C){f:FuncId}{args:List Aa}{h:Ag}{Q:Aa->Ag->Prop}(Oq:Ev C f args h Q){U:Gh}{w:World}{cargs:Array Value}(hi:Fg U h w)(hg:∀g cs,C.Fl g=some cs->Co U cs g 0)(ha:AK U args cargs.toList):
  Calls C.P (DE f) cargs w λe w'=>match e with
   | .returned v=>∃r h' b,Q r h'/\Fg b h' w'/\IB U w b w'/\Bp b r v
   |_=>False:=by
 obtain⟨n,x,vs,h',Ay,rfl,r,rfl,hQ⟩:=Oq;refine(((YF hm xL fm n).2 f args h r h' Ay).2 U w cargs hi hg ha).mono λe w' he=>?_;cases e with
 |returned v=>obtain⟨b,i,d,c,_⟩:=he;exact⟨r,h',b,hQ,i,d,c⟩
 |_=>exact he
end Go.Am
end
section
namespace Go.Am
open Go
inductive Ty where
 |bool
 |int (k:IntKind)
 |str
 |sl (e:Ty)
 |st (fs:List Ty)
 deriving Inhabited
mutual
def Ty.size:Ty->Nat
 | .bool| .int _| .str| .sl _=>1
 | .st fs=>Ty.KS fs
def Ty.KS:List Ty->Nat
 |[]=>0
 |t::ts=>Ty.size t+Ty.KS ts
end
mutual
def Ot(P:Program):Ty->TypeId->Bool
 | .bool,t=>match P.underlying t with|some .bool=>true|_=>false
 | .int k,t=>match P.underlying t with|some (.int k')=>decide (k'=k)|_=>false
 | .str,t=>match P.underlying t with|some .string=>true|_=>false
 | .sl e,t=>match P.underlying t with
  |some (.slice b)=>P.cellsOf b==Ty.size e&&decide (0<Ty.size e)&&Ot P e b
  |_=>false
 | .st fs,t=>match P.underlying t with
  |some (.struct fields)=>P.cellsOf t==Ty.KS fs&&M1 P fs fields.toList 0
  |_=>false
def M1(P:Program):List Ty->List Field->Nat->Bool
 |[],[],_=>true
 |ty::tys,f::fs,off=>f.offset==off&&P.cellsOf f.type==Ty.size ty&&Ot P ty f.type&&M1 P tys fs (off+Ty.size ty)
 |_,_,_=>false
end
mutual
def WI:Ty->List Aa->Prop
 | .bool,l=>∃b,l=[.bool b]
 | .int k,l=>∃n,l=[.int k n]/\(Lit.int k n).wf=true
 | .str,l=>∃s:Aq,l=[.str s]/\s.length<=maxLen
 | .sl e,l=>l=[.slnil]\/∃An:List (List Aa),l=[.sl (Ty.size e) An]/\An.length<=maxLen/\∀r∈An,WI e r
 | .st fs,l=>lW fs l
def lW:List Ty->List Aa->Prop
 |[],l=>l=[]
 |ty::tys,l=>∃a b,l=a++b/\WI ty a/\lW tys b
end
def Ty.mc:Ty->Bool
 | .st _=>true
 |_=>false
def lX(ty:Ty)(a:Aa):Prop:=if ty.mc then∃cs,a= .agg cs/\WI ty cs else WI ty [a]
def R7:List Ty->List Aa->Prop
 |[],l=>l=[]
 |ty::tys,l=>∃a b,l=a::b/\lX ty a/\R7 tys b
def E3(W:World):Gh:={GA:=λb o=>(W.cell? ⟨b,o,none⟩).filter (·.oneCell'),mu:=λ_=>none,Bn:=λ_=>none,sz:=λ_=>none}
def rF(W:World):Fg (E3 W) [] W:=by refine⟨λb o v h=>?_,λid x h=>by simp at h,λid cs h=>by simp at h,λid es h=>by simp at h,λid b h=>(by cases h),λb x h=>(by cases h),λb n h=>(by cases h)⟩;simp only[E3,NU] at h;exact⟨h.1,h.2,.inl rfl⟩
def Ql{W:World}{b o:Nat}{v:Value}(h:W.cell? ⟨b,o,none⟩=some v)(h1:v.oneCell'=true):(E3 W).GA b o=some v:=by simp[E3,h,h1,Option.filter]
def Ra{V:Type}{p:Nat->V->Prop}:∀(n:Nat),(∀i,i<n->∃x,p i x)->∃l:List V,l.length=n/\∀i x,l[i]?=some x->p i x
 |0,_=>⟨[],rfl,Au⟩
 |n+1,h=>by
  obtain⟨l,hl,hp⟩:=Ra n λi hi=>h i Ab;obtain⟨x,hx⟩:=h n Ab;refine⟨l++[x],by simp[hl],λi y hy=>?_⟩;rw[Ń] at hy;split at hy;.exact hp i y hy
  .have:i-l.length=0:=by
    rcases JH (i-l.length) with h0|h0
    .exact h0
    .rw[Dd D5] at hy;cases hy
   rw[this] at hy;simp at hy;subst hy;have:i=n:=Ab;rw[this];exact hx
section
variable{H:Type}{enc:TypeId×Value->H}{P:Program}{W:World}
def N3{a:Addr}{n:Nat}{cs:List Value}(h:W.cells? 0 a n=some cs)(hn:0<n):a.spot=none:=by
 obtain⟨_,hl,hc⟩:=World.cells?_some h;have h0:=hc 0 hn;have hlt:0<cs.length:=Ab;rw[Ap hlt] at h0;unfold World.cell? at h0;have ha:a.add 0=a:=by simp[Addr.add]
 rw[ha] at h0;split at h0
 .split at h0;.cases h0
  .rename_i hs;simpa using hs
 .cases h0
mutual
def WJ:∀(ty:Ty) {t:TypeId} {fuel:Nat} {cs:List Value} {x:DataW H×List MemPlace},Ot P ty t=true->DataW.trod enc P W 0 (λ_=>true) true fuel t cs=some x->
  ∃as,WI ty as/\AK (E3 W) as cs/\(∀u∈cs,u.oneCell'=true)/\as.length=Ty.size ty
 | .bool,t,fuel,cs,x,JK,h=>by
  unfold Ot at JK;split at JK;.rename_i ht;obtain⟨b,rfl,_⟩:=DataW.trod_bool ht h;exact⟨[.bool b],⟨b,rfl⟩,⟨_,[],rfl,rfl,rfl⟩,by simp[Value.oneCell'],rfl⟩
  .cases JK
 | .int k,t,fuel,cs,x,JK,h=>by
  unfold Ot at JK;split at JK
  .rename_i k' ht;have hk:k'=k:=by simpa using JK
   subst hk;obtain⟨n,rfl,_,hw⟩:=DataW.trod_int ht h;exact⟨[.int k' n],⟨n,rfl,hw⟩,⟨_,[],rfl,rfl,rfl⟩,by simp[Value.oneCell'],rfl⟩
  .cases JK
 | .str,t,fuel,cs,x,JK,h=>by
  unfold Ot at JK;split at JK
  .rename_i ht;obtain⟨s,rfl,_,hs⟩:=DataW.trod_string ht h;refine⟨[.str s.data.toList],⟨_,rfl,by
    have e:s.data.toList.length=s.size:=by rw[BQ];rfl
    rw[e];exact hs⟩,⟨_,[],rfl,?_,rfl⟩,by simp[Value.oneCell'],rfl⟩
   show Value.string s= .string ⟨⟨s.data.toList⟩⟩;congr 1
  .cases JK
 | .sl e,t,fuel,cs,x,JK,h=>by
  unfold Ot at JK;split at JK
  .rename_i z ht;simp only[Bi,vZ,Df] at JK;obtain⟨⟨hce,hpos⟩,aAG⟩:=JK;rcases DataW.trod_slice ht h with⟨rfl,_⟩|⟨a,len,cap,elems,rest,n,_,rfl,_,_,hl,hm,hlen,c,hsp,_⟩
   .exact⟨[.slnil],.inl rfl,⟨_,[],rfl,rfl,rfl⟩,by simp[Value.oneCell'],rfl⟩
   .have spot:0<cap->a.spot=none:=λhc=>by
     have ha:a.add 0=a:=by simp[Addr.add]
     rcases JH len with h0|h0
     .obtain⟨Ij,JT⟩:=hsp rfl;have:=JT 0 Ab;rw[Ap (Ab:0<rest.length)] at this;have fo:(len+0)*P.cellsOf z=0:=by rw[h0];simp
      rw[fo,ha] at this;obtain⟨vs,hv,_⟩:=JQ.1 this;exact N3 hv Ab
     .have:=c 0 h0;rw[Ap (Ab:0<elems.length)] at this;rw[KA,ha] at this;obtain⟨vs,hv,_⟩:=JQ.1 this;exact N3 hv Ab
    obtain⟨An,bA,Yv⟩:=Ra (p:=λi (r:List Aa)=>WI e r/\r.length=Ty.size e/\Co (E3 W) r a.block (a.off+i*Ty.size e)) len λi hi=>by
     have:=c i hi;rw[Ap (Ab:i<elems.length)] at this;obtain⟨vs,hv,hd⟩:=JQ.1 this;obtain⟨r,m,g,d,l⟩:=WJ e aAG hd;refine⟨r,m,l,Co.Fz λj y hj=>?_⟩;obtain⟨u,hu,q⟩:=g.get hj;obtain⟨_,hvl,v⟩:=World.cells?_some hv;have qF:j<P.cellsOf z:=by have:=(Ae.1 hu).1;omega
     have hc:=v j qF;rw[hu] at hc;have aR:a=⟨a.block,a.off,none⟩:=by have:=spot Ab;cases a;simp_all
     have LA:(a.add (i*P.cellsOf z)).add j=⟨a.block,a.off+i*Ty.size e+j,none⟩:=by rw[hce];generalize a.block=b at*;generalize a.off=o at*;subst aR;rw[Addr.add_lit,Addr.add_lit]
     rw[LA] at hc;exact⟨u,Ql hc (d u (B6 hu)),q⟩
    refine⟨[.sl (Ty.size e) An],.inr ⟨An,rfl,Ab,λr hr=>?_⟩,⟨_,[],rfl,⟨a,cap,by rw[bA],Ab,?_,DY.Fz λi r hr=>?_⟩,rfl⟩,by simp[Value.oneCell'],rfl⟩;.obtain⟨i,hi⟩:=Cf hr;exact(Yv i r hi).1
    .rcases JH cap with h0|h0
     .exact .inr h0
     .exact .inl (spot h0)
    .exact⟨(Yv i r hr).2.1,(Yv i r hr).2.2⟩
  .cases JK
 | .st fs,t,fuel,cs,x,JK,h=>by
  unfold Ot at JK;split at JK
  .rename_i fields ht;simp only[Bi,vZ] at JK;obtain⟨hct,hf⟩:=JK;obtain⟨xs,n,_,_,hcl,A,Qc⟩:=DataW.trod_struct ht h;obtain⟨as,m,g,d,l⟩:=Rb fs (fields:=fields.toList) (off:=0) (cs:=cs) (n:=n) hf (λi f hi=>by
    have:=Qc i f (by simpa using hi);have hlt:i<fields.size:=by have:=(Ae.1 hi).1;simpa using this
    rw[Ap (Ab:i<xs.length)] at this;exact⟨_,this⟩) (by rw[hcl,hct];omega)
   have e1:(cs.drop 0).take (Ty.KS fs)=cs:=by rw[Ky];exact AT (by rw[hcl,hct];exact Af _)
   rw[e1] at g d;exact⟨as,m,g,d,l⟩
  .cases JK
def Rb:∀(tys:List Ty) {fields:List Field} {off:Nat} {cs:List Value} {n:Nat},M1 P tys fields off=true->
  (∀(i:Nat) (f:Field),fields[i]?=some f->∃y,DataW.trod enc P W 0 (λ_=>true) true n f.type ((cs.drop f.offset).take (P.cellsOf f.type))=some y)->off+Ty.KS tys<=cs.length->
  ∃as,lW tys as/\AK (E3 W) as ((cs.drop off).take (Ty.KS tys))/\(∀u∈(cs.drop off).take (Ty.KS tys),u.oneCell'=true)/\as.length=Ty.KS tys
 |[],fields,off,cs,n,JK,h,hl=>by refine⟨[],rfl,?_,?_,rfl⟩<;>simp[Ty.KS,AK]
 |ty::tys,fields,off,cs,n,JK,h,hl=>by
  cases fields with
  |nil=>simp[M1] at JK
  |cons f fs=>
   simp only[M1,Bi,vZ] at JK;obtain⟨⟨⟨ho,hc⟩,Vl⟩,qR⟩:=JK;obtain⟨y,hy⟩:=h 0 f rfl;rw[ho,hc] at hy;obtain⟨as,m,l,k,j⟩:=WJ ty Vl hy;simp only[Ty.KS] at hl;obtain⟨bs,e,d,c,b⟩:=Rb tys qR (λi g hi=>h (i+1) g (by simpa using hi)) Ab;have e1:(cs.drop off).take (Ty.KS (ty::tys))=(cs.drop off).take (Ty.size ty)++(cs.drop (off+Ty.size ty)).take (Ty.KS tys):=by simp only[Ty.KS];rw[dk,DU]
   rw[e1];refine⟨as++bs,⟨as,bs,rfl,m,e⟩,l.append d,λu hu=>?_,by simp[j,b,Ty.KS]⟩;rcases Al.1 hu with hu|hu
   .exact k u hu
   .exact c u hu
end
def WK{ty:Ty}{t:TypeId}{v:Value}{base:Nat}(JK:Ot P ty t=true)(hv:Value.okWide P W .any base t v):if ty.mc then∃cs,v= .agg cs else v.cells=#[v]:=by
 cases ty with
 |st fs=>
  unfold Ot at JK;split at JK;.rename_i fields ht;unfold Value.okWide at hv;rw[ht] at hv;obtain⟨cs,e,_⟩:=hv;exact⟨cs,e⟩
  .cases JK
 |_=>
  unfold Ot at JK;split at JK;.rename_i ht;unfold Value.okWide at hv;rw[ht] at hv;simp only[Cell.okWide,ht,Cell.ok] at hv;cases v<;>first|rfl|exact hv.elim
  .cases JK
def VB:∀{tys:List Ty} {ts:List TypeId} {vs:List Value} {ds:List (DataW H)} {ps:List MemPlace} {base:Nat},DataW.TrodAll enc P W 0 (λ_=>true) true ts vs ds ps->tys.length=ts.length->(∀(i:Nat) (ty:Ty) (t:TypeId),tys[i]?=some ty->ts[i]?=some t->Ot P ty t=true)->
  (∀(i:Nat) (t:TypeId) (v:Value),ts[i]?=some t->vs[i]?=some v->Value.okWide P W .any base t v)->∃as,R7 tys as/\AK (E3 W) as vs
 |[],[],[],[],_,_,_,_,_,_=>⟨[],rfl,rfl⟩
 |ty::tys,t::ts,v::vs,d::ds,ps,base,⟨p,q,⟨fuel,h1⟩,h2,_⟩,hl,JK,Ou=>by
  have Vl:=JK 0 ty t rfl rfl;obtain⟨cells,f,b,k,l⟩:=WJ ty Vl h1;obtain⟨bs,j,g⟩:=VB h2 (by simpa using hl) (λi ty t h h'=>JK (i+1) ty t (by simpa using h) (by simpa using h')) (λi t v h h'=>Ou (i+1) t v (by simpa using h) (by simpa using h'));have hc:=WK Vl (Ou 0 t v rfl rfl);have:∃a,lX ty a/\Bp (E3 W) a v:=by
   by_cases Hz:ty.mc=true;.rw[Ad Hz] at hc;obtain⟨us,rfl⟩:=hc;exact⟨.agg cells,(by unfold lX;rw[Ad Hz];exact⟨cells,rfl,f⟩),us,rfl,by simpa[Value.cells] using b,by simpa[Value.cells] using k⟩
   .rw[Ac Hz] at hc;rw[hc] at b;obtain⟨u,us,e,hu,hnil⟩:∃c Fx,cells=c::Fx/\Bp (E3 W) c v/\Fx=[]:=by
     cases cells with
     |nil=>cases b
     |cons c Fx=>obtain⟨u,CS,e,h1,h2⟩:=b;simp at e;obtain⟨rfl,rfl⟩:=e;exact⟨c,Fx,rfl,h1,by cases Fx with|nil=>rfl|cons _ _=>obtain⟨_,_,e,_⟩:=h2;cases e⟩
    subst hnil;subst e;exact⟨u,(by unfold lX;rw[Ac Hz];exact f),hu⟩
  obtain⟨a,ha,hr⟩:=this;exact⟨a::bs,⟨a,bs,rfl,ha,j⟩,⟨v,vs,rfl,hr,g⟩⟩
 |[],_::_,_,_,_,_,_,hl,_,_=>by simp at hl
 |_::_,[],_,_,_,_,_,hl,_,_=>by simp at hl
 |[],[],_::_,_,_,_,h,_,_,_=>by cases h
 |[],[],[],_::_,_,_,h,_,_,_=>by cases h
 |_::_,_::_,[],_,_,_,h,_,_,_=>by cases h
 |_::_,_::_,_::_,[],_,_,h,_,_,_=>by cases h
def Ta{W':World}{may:MemPlace->Prop}(h1:W'.os=W.os)(h2:W'.output=W.output)(hb:∀i,i<W.heap.size->W'.heap[i]?=W.heap[i]?):W.keptBut W' may:=by
 refine⟨h1,h2,λi hi=>?_⟩;rw[hb i hi];split;.rename_i c t fr c' t' kQ e1 b;rw[e1] at b;cases b;exact⟨rfl,rfl,rfl,λ_ _=>rfl⟩
 .rename_i e1 b;rw[e1] at b;cases b;exact .inr ⟨rfl,rfl⟩
 .rfl
def N4(hl:laidOutB P=true){W':World}(hb:RowKit.Below W.heap.size W W'):∀{ts:List TypeId} {vs:List Value} {ds:List (DataW H)} {ps:List MemPlace},(∀t∈ts,P.readableRec t=true/\t<P.types.size)->
  DataW.TrodAll enc P W 0 (λ_=>true) true ts vs ds ps->(∀x∈ps,x.block<W.heap.size)->DataW.TrodAll enc P W' 0 (λb=>decide (b<W.heap.size)) true ts vs ds ps
 |[],[],[],ps,_,h,_=>h
 |t::ts,v::vs,d::ds,ps,Wt,⟨p,q,h1,h2,e⟩,hlt=>by subst e;have ht:=Wt t Au;exact⟨p,q,RowKit.Below.trod hl ht.1 ht.2 h1 hb λx hx=>hlt x (B7 _ hx),N4 hl hb (λt' h'=>Wt t' (by simp[h'])) h2 λx hx=>hlt x (Br _ hx),rfl⟩
 |[],[],_::_,_,_,h,_=>by cases h
 |[],_::_,_,_,_,h,_=>by cases h
 |_::_,[],_,_,_,h,_=>by cases h
 |_::_,_::_,[],_,_,h,_=>by cases h
end
def WL{C:E7}(hm:C.P.follows .mixedOrders=true)(xL:∀g cs,C.Fl g=some cs->cs.all Aa.KE=true)(fm:WH C)(hl:laidOutB C.P=true){f:FuncId}{fn:Func}{rt:TypeId}(k:f<=99999)(c:fn.resultTypes=#[rt])(l:C.P.underlying rt=some .bool){tys:List Ty}(hlen:tys.length=fn.params.size)
  (aAH:∀(i:Nat) (ty:Ty) (t:TypeId),tys[i]?=some ty->fn.params[i]?=some t->Ot C.P ty t=true) (yj:∀t∈fn.params.toList,C.P.readableRec t=true/\t<C.P.types.size)
  (Oq:∀as,R7 tys as->Ev C f as [] λr _=>r= .bool true) {s:ChangeSpec} (ee:s.vars=[])
  {H:Type} (qI:∀ds:List (DataW H),ds.length=fn.params.size->s.fn H ds={results:=[.lit (.bool true)],args:=ds})
  {enc:TypeId×Value->H} {W:World} {base:Nat} {args:Array Value} {ds gs:List (DataW H)} {before:List MemPlace} (hg:∀g cs,C.Fl g=some cs->Co (E3 W) cs g 0)
  (Ou:∀(j:Nat) (t:TypeId) (v:Value),fn.params[j]?=some t->args[j]?=some v->Value.okWide C.P W .any base t v) (hW:DataW.Whole enc C.P fn.params.toList s.vars false W args.toList ds gs before):
  Calls C.P f args W λe W'=>∃v,e= .returned v/\s.post enc C.P fn false true false false W args v W':=by
 have m:=hW;have hlt:=hW.lt;obtain⟨p,q,o,n,rfl,hfz,va⟩:=hW;rw[ee] at n;have lz:gs=[]/\q=[]:=by
  cases gs with
  |nil=>exact⟨rfl,n⟩
  |cons _ _=>cases n
 obtain⟨rfl,rfl⟩:=lz;obtain⟨as,bO,KI⟩:=VB o (by simpa using hlen) (λi ty t h h'=>aAH i ty t h (by simpa using h')) (λi t v h h'=>Ou i t v (by simpa using h) (by simpa using h'));have bL:ds.length=fn.params.size:=by
  have key:∀{ts:List TypeId} {vs:List Value} {ds:List (DataW H)} {ps:List MemPlace},DataW.TrodAll enc C.P W 0 (λ_=>true) true ts vs ds ps->ds.length=ts.length:=by
   intro ts;induction ts with
   |nil=>intro vs ds ps h;cases vs<;>cases ds<;>first|rfl|cases h
   |cons t ts ih=>
    intro vs ds ps h;cases vs with
    |nil=>cases h
    |cons v vs=>
     cases ds with
     |nil=>cases h
     |cons d ds=>obtain⟨_,_,_,h2,_⟩:=h;simp[ih h2]
  simpa using key o
 have QZ:=(Oq as bO).calls hm xL fm (rF W) hg KI;rw[show DE f=f from Ad k] at QZ;refine QZ.mono λe W' he=>?_;cases e with
 |returned v=>
  obtain⟨r,h',u,rfl,hi,Im,hv⟩:=he;have hvb:v= .bool true:=hv;subst hvb;have hold:∀i,i<W.heap.size->W'.heap[i]?=W.heap[i]?:=λi lM=>(Im.KF i lM λid h0=>by cases h0).1;have b:RowKit.Below W.heap.size W W':=⟨Im.os,Im.tape,Im.output,Im.size,hold⟩;refine⟨_,rfl,ds,[],p++[],[],p,[],m,?_,?_,?_,Ta Im.os Im.output hold,λh0=>by cases h0⟩;.rw[BN,qI ds bL,c];exact⟨[],[],RowKit.shut_bool l true,rfl,rfl⟩
  .rw[BN,qI ds bL];exact N4 hl b yj o λx hx=>hlt x (by simpa using hx)
  .rw[BN,qI ds bL,ee];rfl
 |_=>exact he.elim
end Go.Am
end
