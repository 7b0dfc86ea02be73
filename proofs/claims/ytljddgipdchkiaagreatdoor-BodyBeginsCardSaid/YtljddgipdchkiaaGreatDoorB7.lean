/- Lemmas -/
import Derived.Scope
import Derived.Test.YtljddgipdchkiaaGreatDoorB6
import Derived.Carry
import Derived.ReadAgain
set_option linter.all false
section
namespace Go.Am
open Go
def Ŏ(x y:En):Prop:=
 match x with
 | .box ver cs ow=>∃Gm GX NX,y= .box Gm GX NX/\ver<=Gm/\(Gm=ver->GX=cs/\NX=ow)
 | .Fk t o=>y= .Fk t o\/y= .undef
 |x=>y=x
def Ŏ.refl(x:En):Ŏ x x:=by
 cases x with
 |box ver cs ow=>exact⟨ver,cs,ow,rfl,Ag _,λ_=>⟨rfl,rfl⟩⟩
 |Fk t o=>exact .inl rfl
 |_=>rfl
def Ŏ.trans{x y z:En}(h:Ŏ x y)(k:Ŏ y z):Ŏ x z:=by
 cases x with
 |box ver cs ow=>obtain⟨b,m,l,rfl,h1,h2⟩:=h;obtain⟨v2,j,c,rfl,f,d⟩:=k;refine⟨v2,j,c,rfl,Bu h1 f,λe=>?_⟩;have i:b=ver:=Ab;have g:v2=b:=Ab;obtain⟨rfl,rfl⟩:=d g;exact h2 i
 |Fk t o=>
  rcases h with rfl|rfl
  .exact k
  .exact .inr k
 |_=>rw[show y=_ from h] at k;exact k
def Ge(W:List Nat)(σ O:BR):Prop:=O.length=σ.length/\∀s,s∉W->Ŏ (σ.at s) (O.at s)
def Ge.refl(W:List Nat)(σ:BR):Ge W σ σ:=⟨rfl,λ_ _=> .refl _⟩
def Ge.trans{W:List Nat}{σ O J:BR}(h:Ge W σ O)(k:Ge W O J):Ge W σ J:=⟨k.1.trans h.1,λs hs=>(h.2 s hs).trans (k.2 s hs)⟩
def Ge.mono{W W':List Nat}{σ O:BR}(h:Ge W σ O)(hw:∀s∈W,s∈W'):Ge W' σ O:=⟨h.1,λs hs=>h.2 s λhm=>hs (hw s hm)⟩
def Ge.set{W:List Nat}{σ:BR}{s:Nat}{x:En}(hs:s∈W):Ge W σ (σ.set s x):=
 ⟨AH,λt ht=>by rw[BR.Gd λe=>ht (by rw[<-e];exact hs)];exact .refl _⟩
def Ge.put{W:List Nat}{σ:BR}{d:Option Nat}{x:En}(hs:∀s∈d.toList,s∈W):Ge W σ (σ.put d x):=by
 cases d with
 |none=>exact .refl _ _
 |some d=>exact .set (hs d AH)
section
variable{C:FW}{fid:FuncId}{ops:List Oper}{run:IT->Ah->Option J6}{σ σ':BR}{h h':Ah}{W:List Nat}
def Ge.drop(σ:BR)(ds:List Nat):Ge W σ (σ.drop ds):=by
 refine⟨BR.length_drop σ ds,λs _=>?_⟩;rw[BR.R6];cases hx:σ.at s with
 |Fk t o=>
  simp only
  split;.exact .inr rfl
  .exact .inl rfl
 |_=>exact .refl _
def qN{r:EJ}{ds:List Nat}(hd:r.Np C run (σ.drop ds) h σ' h')(hw:∀s∈r.wf,s∈W):Ge W σ σ':=by obtain⟨ws,rfl,h1,_⟩:=ZT hd;refine(Ge.drop σ ds).trans ⟨BR.JZ ws _,λs hs=>?_⟩;rw[BR.GO ws _ s λp hp e=>hs (hw s (by rw[<-e];exact h1 p hp))];exact .refl _
def Qc{x:Operand}{d:Nat}{take:Bool}{r:EJ}(h:KG C σ x d take=some r):∀s∈r.wf,s=d\/(take=true/\x= .tmp s):=by
 unfold KG at h;split at h;.cases h;simp[EJ.wf]
 .cases h;simp[EJ.wf]
 .split at h
  .rename_i ht;cases h;intro s hs;simp only[EJ.wf,BF,Ax] at hs;rcases hs with hs|hs
   .revert hs;generalize b:RP _ _=c;intro hs;unfold RP at b;split at b;.subst b;simp at hs;exact .inr ⟨ht,by rw[hs]⟩
    .subst b;simp at hs
   .exact .inl (by simpa using hs)
  .cases hc:Iu _ with
   |none=>rw[hc] at h;cases h
   |some sl=>rw[hc] at h;cases h;simp[EJ.wf]
 .cases hc:Iu _ with
  |none=>rw[hc] at h;cases h
  |some sl=>rw[hc] at h;cases h;simp[EJ.wf]
 .cases h
def Sg{x:Operand}{p:Nat×Aa}(h:Dj σ x=some p):x= .tmp p.1:=by
 cases x with
 |tmp t=>
  simp only[Dj] at h;cases hx:σ.at t with
  |Bt v=>rw[hx] at h;cases h;rfl
  |_=>rw[hx] at h;cases h
 |_=>cases h
def lM{t:TypeId}{v:Aa}{d:Nat}{r:EJ}(h:T5 C fid t v d=some r):r.wf=[d]:=by
 unfold T5 at h;split at h;.cases h
 .split at h;.cases h
  .split at h<;>(cases h;rfl)
def Nc:∀{xs:List Operand} {vs:List Aa} {fz:List (Nat×List Aa)},Gk C σ xs=some (vs,fz)->∀p∈fz,p.1∈Kb xs
 |[],vs,fz,hc=>by cases hc;simp
 |x::xs,vs,fz,hc=>by
  unfold Gk at hc;split at hc;.cases hc
  .rename_i HQ c b;have ih:=Nc b;have up:∀p∈c,p.1∈Kb (x::xs):=λp hp=>by obtain⟨y,hy,he⟩:=Ci.1 (ih p hp);exact Ci.2 ⟨y,YL _ hy,he⟩
   split at hc
   .rename_i s ver cs ow hs;split at hc;.cases hc
    .cases hc;intro p hp;rcases AT.1 hp with rfl|hp
     .simp[Kb]
     .exact up p hp
   .rename_i sl _ hs;cases hv:sl.Hq with
    |none=>rw[hv] at hc;cases hc
    |some u=>rw[hv] at hc;cases hc;exact up
   .cases hc
def vU{o:Oper}{r:EJ}(hc:Gl C fid ops σ o=some r)(hd:r.Np C run (σ.drop r.news) h σ' h'):Ge (Ep ops o) σ σ':=by
 have Sf:∀s∈o.dst.toList,s∈Ep ops o:=λs hs=>CD _ hs
 have hwf:(∀s∈r.wf,s∈Ep ops o)->Ge (Ep ops o) σ σ':=qN hd
 have YO:r.wf=o.dst.toList->Ge (Ep ops o) σ σ':=λe=>hwf (by rw[e];exact Sf)
 have Ui:∀{m x},Th m o.dst x=some r->Ge (Ep ops o) σ σ':=λ{m x} he=>by
  obtain⟨_,_,rfl⟩:=Ht he
  exact YO rfl
 have HD:∀{p x},Tg p o.dst x=some r->Ge (Ep ops o) σ σ':=λ{p x} he=>by
  obtain⟨args,_,rfl⟩:=DZ he
  exact YO (by simp[EJ.wf])
 unfold Gl at hc
 split at hc
 .rename_i x ho
  split at hc
  .rename_i d F9
   refine hwf λs hs=>?_
   rcases Qc hc s hs with rfl|⟨ht,rfl⟩
   .exact Sf s (by rw[F9];simp)
   .refine BT _ ?_
    simp[ho,F9,ht]
  .cases hc
 .rename_i x ho
  split at hc
  .rename_i d F9
   refine hwf λs hs=>?_
   rcases Qc hc s hs with rfl|⟨ht,rfl⟩
   .exact Sf s (by rw[F9];simp)
   .refine BT _ ?_
    simp[ho]
  .cases hc
 .rename_i c x y ho
  split at hc
  .rename_i d _ F9
   refine hwf λs hs=>?_
   rcases Qc hc s hs with rfl|⟨ht,rfl⟩
   .exact Sf s (by rw[F9];simp)
   .cases ht
  .rename_i d _ F9
   refine hwf λs hs=>?_
   rcases Qc hc s hs with rfl|⟨ht,rfl⟩
   .exact Sf s (by rw[F9];simp)
   .cases ht
  .exact HD hc
 .split at hc
  .rename_i d z F9 hz
   split at hc
   .split at hc
    .cases hc;exact YO (by rw[F9];rfl)
    .cases hc
   .exact YO (by rw[lM hc,F9];rfl)
  .cases hc
 .split at hc
  .rename_i d v F9 hz
   exact YO (by rw[lM hc,F9];rfl)
  .cases hc
 .split at hc
  .split at hc
   .exact HD hc
   .cases hc
  .cases hc
 .split at hc
  .split at hc
   .split at hc
    .split at hc
     .cases hc;exact YO (by simp[EJ.wf])
     .cases ha:Bx C σ _ with
      |none=>rw[ha] at hc;cases hc
      |some args=>rw[ha] at hc;cases hc;exact YO (by simp[EJ.wf])
    .cases hc
   .cases hc
  .cases hc
 .split at hc
  .rename_i d F9
   unfold LA at hc
   split at hc
   .cases hc;exact YO (by rw[F9];rfl)
   .rename_i s off ver cs ow ht ha
    split at hc
    .simp only at hc
     split at hc
     .cases hc
      rw[N5 AH] at hd
      obtain⟨rfl,rfl⟩:=hd
      have hs:σ.at s= .box ver cs ow:=by
       unfold Gj at ha
       split at ha
       .rename_i hs;cases ha;exact Hd hs
       .split at ha
        .rename_i hb;cases ha;exact hb
        .cases ha
       .exact absurd ha (by cases hv:En.Hq _<;>simp)
       .cases ha
      refine⟨by simp[BR.drop,BR.Eh],λt b=>?_⟩
      have f:t≠d:=λe=>b (Sf t (by rw[F9,e];simp))
      have me:s<σ.length:=BR.Pe (by rw[hs];simp)
      show Ŏ (σ.at t) (BR.at ((σ.set s _).set d _) t)
      rw[BR.Gd (λe=>f e.symm)]
      by_cases bR:s=t
      .subst bR
       rw[BR.Fv me,hs]
       exact⟨_,_,_,rfl,Fi _,λe=>absurd e Ab⟩
      .rw[BR.Gd bR];exact .refl _
     .cases hc;exact YO (by rw[F9];rfl)
    .cases hc
   .split at hc
    .cases hc;exact YO (by rw[F9];rfl)
    .cases hc
   .cases hc
  .cases hc
 .rename_i t x y ho
  split at hc
  .rename_i F9
   unfold JC at hc
   split at hc
   .cases hc;exact hwf (by simp[EJ.wf])
   .rename_i m sh s off ver cs ow v KW oX ha hv
    split at hc
    .cases hc
     obtain⟨_,rfl,rfl⟩:=hd
     have hs:σ.at s= .box ver cs ow:=by
      unfold Gj at ha
      split at ha
      .rename_i hs;cases ha;exact Hd hs
      .split at ha
       .rename_i hb;cases ha;exact hb
       .cases ha
      .exact absurd ha (by cases hv:En.Hq _<;>simp)
      .cases ha
     have Y4:∀(D:Option (Nat×Aa)),(∀p,D=some p->p.1∈Ep ops o/\p.1≠s)->∀X:List Aa×List Nat,Ge (Ep ops o) σ ((σ.DL D).set s (.box (ver+1) X.1 X.2)):=by
      intro D i X
      refine⟨by cases D<;>simp[BR.DL],λt b=>?_⟩
      have hlen:s<(σ.DL D).length:=by
       have:s<σ.length:=BR.Pe (by rw[hs];simp)
       cases D<;>simpa[BR.DL] using this
      by_cases bR:s=t
      .subst bR
       rw[BR.Fv hlen,hs]
       exact⟨_,_,_,rfl,Fi _,λe=>absurd e Ab⟩
      .rw[BR.Gd bR]
       cases D with
       |none=>exact .refl _
       |some p=>
        obtain⟨g,j⟩:=i p rfl
        simp only[BR.DL]
        rw[BR.Gd (λe=>b (by rw[<-e];exact g))]
        exact .refl _
     refine Y4 _ (λp hp=>?_) (_,_)
     split at hp
     .have hy:=Sg hp
      subst hy
      refine⟨BT _ (by simp[ho]),λe=>?_⟩
      simp only[Dj] at hp
      rw[e,hs] at hp
      cases hp
     .cases hp
    .cases hc
   .cases hc
  .cases hc
 .split at hc
  .rename_i F9 _ _
   cases hc;exact YO (by rw[F9];rfl)
  .rename_i F9 _ _
   cases hc;exact YO (by rw[F9];rfl)
  .exact HD hc
 .split at hc
  .exact HD hc
  .cases hc
 .exact HD hc
 .split at hc
  .cases hv:E5 C σ _ with
   |none=>rw[hv] at hc;cases hc
   |some v=>rw[hv] at hc;cases hc;exact YO rfl
  .split at hc
   .cases hv:E5 C σ _ with
    |none=>rw[hv] at hc;cases hc
    |some v=>rw[hv] at hc;cases hc;exact YO rfl
   .exact HD hc
  .exact HD hc
  .cases hc
 .rename_i fn first captured ho
  split at hc
  .rename_i d as bs fz F9 ha hb
   cases hc
   refine hwf λs hs=>?_
   simp only[EJ.wf,AT] at hs
   rcases hs with rfl|hs
   .exact Sf s (by rw[F9];simp)
   .obtain⟨p,hp,rfl⟩:=Bj.1 hs
    refine BT _ ?_
    simp only[ho]
    exact Nc hb p hp
  .cases hc
 .cases hc;exact YO rfl
 .split at hc
  .split at hc
   .cases hc;exact YO rfl
   .cases hc
  .cases hc
 .split at hc
  .split at hc
   .cases hc;exact hwf (by simp[EJ.wf])
   .cases hc;exact hwf (by simp[EJ.wf])
   .cases hc
  .cases hc
 .split at hc
  .split at hc
   .cases hc;exact hwf (by simp[EJ.wf])
   .cases hc;exact hwf (by simp[EJ.wf])
   .cases hc
  .cases hc
 .split at hc
  .split at hc
   .cases hc;exact YO rfl
   .cases hc;exact YO rfl
   .cases hc
  .cases hc
 .split at hc
  .split at hc
   .exact Ui hc
   .cases hc
  .cases hc
 .split at hc
  .cases hc
  .exact Ui hc
  .cases hc
 .split at hc
  .split at hc<;>first|exact Ui hc|cases hc
  .cases hc
 .split at hc
  .rename_i F9
   exact Ui (by rw[F9];exact hc)
  .cases hc
 .split at hc
  .exact HD hc
  .split at hc
   .split at hc
    .exact Ui hc
    .exact HD hc
   .cases hc
  .cases hc
 .split at hc
  .rename_i off sh d hf F9
   split at hc
   .cases hc;exact YO (by rw[F9];rfl)
   .cases hc;exact YO (by rw[F9];rfl)
   .exact HD (by rw[F9];exact hc)
  .cases hc
 .split at hc
  .exact HD hc
  .cases hc
 .split at hc
  .split at hc
   .exact HD hc
   .cases hc
  .split at hc
   .split at hc
    .cases hc
    .exact HD hc
   .cases hc
  .cases hc
 .split at hc
  .exact HD hc
  .split at hc
   .exact HD hc
   .cases hc
  .cases hc
 .exact HD hc
 .rename_i c ho
  unfold Q6 at hc
  split at hc
  .split at hc
   .split at hc
    .exact HD hc
    .exact HD hc
    .cases hc
   .cases hc
  .rename_i hcl
   split at hc
   .rename_i t t' s x h0 h1 EM
    have Y4:∀p,Dj σ s=some p->p.1∈Ep ops o:=λp hp=>by
     have:=Sg hp
     subst this
     refine BT _ ?_
     simp only[ho,hcl,EM]
     simp[Kb]
    split at hc
    all_goals first
     |(cases hc;done)
     | (split at hc
        . split at hc
          . split at hc
            . split at hc
              . split at hc
                . cases hc
                  refine hwf fun q hq => ?_
                  simp only [EJ.wf, Ax] at hq
                  rcases hq with hq | hq
                  . exact Sf q hq
                  . cases qO : Dj σ s with
                    | none => rw [qO] at hq; simp at hq
                    | some p => rw [qO] at hq; simp at hq; rw [hq]; exact Y4 p qO
                . split at hc
                  . cases hc
                    refine hwf fun q hq => ?_
                    simp only [EJ.wf, Ax] at hq
                    rcases hq with hq | hq
                    . exact Sf q hq
                    . cases qO : Dj σ s with
                      | none => rw [qO] at hq; simp at hq
                      | some p => rw [qO] at hq; simp at hq; rw [hq]; exact Y4 p qO
                  . cases hc
                    refine hwf fun q hq => ?_
                    simp only [EJ.wf, Ax] at hq
                    rcases hq with hq | hq
                    . exact Sf q hq
                    . cases qO : Dj σ s with
                      | none => rw [qO] at hq; simp at hq
                      | some p => rw [qO] at hq; simp at hq; rw [hq]; exact Y4 p qO
              . split at hc
                . cases hc
                  refine hwf fun q hq => Sf q (by simpa [EJ.wf] using hq)
                . cases hc
            . cases hc
          . cases hc
        . cases hc)
   .cases hc
  .split at hc
   .split at hc
    all_goals first
     |(cases hc;done)
     | (split at hc
        . exact Ui hc
        . cases hc)
   .cases hc
  .split at hc
   .split at hc
    .split at hc
     .exact Ui hc
     .cases hc
    .cases hc
   .cases hc
  .split at hc
   .exact HD hc
   .cases hc
  .split at hc
   .exact HD hc
   .cases hc
  .split at hc
   .split at hc
    .split at hc
     .exact Ui hc
     .cases hc
    .cases hc
   split at hc
   .cases ha:Bx C σ c.args.toList with
    |none=>rw[ha] at hc;cases hc
    |some args=>
     rw[ha] at hc
     simp only[B9,Bz] at hc
     split at hc<;>(cases hc;exact YO rfl)
   .cases hc
  .split at hc
   .cases hc;exact YO rfl
   .cases hc
  .cases hc
 .cases hc
end
end Go.Am
end
section
namespace Go.Am
open Go
def n_:DQ->Exit
 | .normal=> .normal
 | .exit i=> .exit i
 | .ret=> .ret
def Og:∀{l m:List Nat},l.Nodup->(∀x∈l,x∈m)->l.length<=m.length
 |[],_,_,_=>AQ _
 |x::l,m,hn,hs=>by have hx:=hs x AH;have h1:=Og (l:=l) (m:=m.erase x) (B5.1 hn).2 λy hy=>(List.mem_erase_of_ne λe=>(B5.1 hn).1 (by rw[<-e];exact hy)).2 (hs y (by simp[hy]));rw[List.length_erase_of_mem hx] at h1;have:0<m.length:=List.length_pos_of_mem hx;simp;omega
def cC{P:Program}{c:Code}{Q:Exit->Act->World->Prop}(T:Nat->Act->World->Prop)(round:∀n a w,T n a w->c.wp P (Exit.then (λa' w'=>∃m,m<n/\T m a' w') Q) a w)(n:Nat)(a:Act)(w:World)(h0:T n a w):(Code.loop c).wp P Q a w:=by
 intro b k cs;have key:∀n a w,T n a w->∃e a' w',Q e a' w'/\Arrives P (lone (b.at a (.code c:: .inLoop c::k)) cs w) b k cs e a' w':=by
  intro n;induction n using Nat.strongRecOn with
  |_ n ih=>
   intro a w i;obtain⟨e,a1,w1,hq,yl⟩:=round n a w i b (.inLoop c::k) cs;by_cases he:e= .normal;.subst he;obtain⟨m,hm,d⟩:=hq;obtain⟨j,a2,f,g,r2⟩:=ih m hm a1 w1 d;exact⟨j,a2,f,g,.of_steps (Go.Steps.trans yl (.one step_inLoop)) r2⟩
   .exact⟨e,a1,w1,by cases e<;>first|exact hq|exact absurd rfl he,.pass (x:= .inLoop c) rfl (λ_ _=> .inl he) yl⟩
 obtain⟨e,a',w',hq,yl⟩:=key n a w h0;exact⟨e,a',w',hq,.of_steps (.one step_loop) yl⟩
section
variable{C:FW}{U0 U:Gh}{w0 w:World}{Z:Nat->Nat}{σ:BR}{h:Ah}{a:Act}{fid:FuncId}{run:IT->Ah->Option J6}
def cD{ops:List Oper}{o:Oper}{K:BR->IT}{R:J6}(hr:IT.step (Ca C) run (Ti C fid ops σ o K) h=some R):
  ∃d,(d=σ\/∃s b,s∈FC ops o/\σ.at s= .val (.bool b)/\d=σ.set s (.OS b))/\
   ((IS ops d o= .Nl true/\IT.step (Ca C) run (kf C fid ops d o K) h=some R)\/(IS ops d o= .Nl false/\IT.step (Ca C) run (K (d.put o.dst .skip)) h=some R)):=by
 unfold Ti at hr;split at hr;.rename_i hg;exact⟨σ,.inl rfl,.inl ⟨hg,hr⟩⟩
 .rename_i hg;exact⟨σ,.inl rfl,.inr ⟨hg,hr⟩⟩
 .rename_i s v want hg;have e:s∈FC ops o/\σ.at s= .val v/\∀b,IS ops (σ.set s (.OS b)) o= .Nl (b==want):=by
   unfold IS at hg⊢;unfold FC;cases ho:o.guard with
   |none=>rw[ho] at hg;cases hg
   |some g=>
    obtain⟨j,want'⟩:=g;rw[ho] at hg;simp only at hg⊢;cases hd:(ops[j]?).bind (·.dst) with
    |none=>rw[hd] at hg;cases hg
    |some s'=>
     rw[hd] at hg;simp only at hg⊢;cases hx:σ.at s' with
     |val v'=>rw[hx] at hg;cases hg;refine⟨AH,hx,λb=>?_⟩;rw[BR.Fv (BR.Pe (by rw[hx];simp))]
     |OS c=>rw[hx] at hg;cases hg
     |skip=>rw[hx] at hg;cases hg
     |_=>rw[hx] at hg;cases hg
  obtain⟨g1,g2,g3⟩:=e;simp only[IT.step] at hr;split at hr
  .refine⟨σ.set s (.OS true),.inr ⟨s,true,g1,g2,rfl⟩,?_⟩;rw[g3];cases want with
   |true=>exact .inl ⟨rfl,hr⟩
   |false=>exact .inr ⟨rfl,hr⟩
  .refine⟨σ.set s (.OS false),.inr ⟨s,false,g1,g2,rfl⟩,?_⟩;rw[g3];cases want with
   |true=>exact .inr ⟨rfl,hr⟩
   |false=>exact .inl ⟨rfl,hr⟩
  .cases hr
 .cases hr
def c_(a:Act){ops:List Oper}{o:Oper}:(∀p∈RR C σ o,∃ver ow,σ.at p.1= .box ver p.2 ow)/\((RR C σ o).map (·.1)).Nodup/\∀p∈RR C σ o,p.1∈Ep ops o:=by
 have no:∀l:List (Nat×List Aa),l=[]->(∀p∈l,∃ver ow,σ.at p.1= .box ver p.2 ow)/\(l.map (·.1)).Nodup/\∀p∈l,p.1∈Ep ops o:=by rintro l rfl;exact⟨(λp hp=>nomatch hp),MC,λp hp=>nomatch hp⟩
 cases ho:o.op with
 |call c=>
  cases hc:c.callee with
  |value g=>
   cases g with
   |func f=>
    cases hf:Tj f with
    |true=>
     cases hx:Gk C σ c.args.toList with
     |some q=>
      obtain⟨vs,fz⟩:=q;have e:RR C σ o=fz:=by unfold RR;simp only[ho,hc,hf,hx,BL]
      rw[e];obtain⟨h1,h2,_⟩:=Nb (a:=a) hx;refine⟨h1,h2,λp hp=>BT _ ?_⟩;simp only[ho,hc,hf,BL];exact Nc hx p hp
     |none=>exact no _ (by unfold RR;simp only[ho,hc,hf,hx,BL])
    |false=>exact no _ (by unfold RR;simp[ho,hc,hf])
   |_=>exact no _ (by unfold RR;simp only[ho,hc])
  |_=>exact no _ (by unfold RR;simp only[ho,hc])
 |_=>exact no _ (by unfold RR;simp only[ho])
def Ge.Eh{W:List Nat}:∀{l:List (Nat×En)} {σ:BR},(∀p∈l,p.1∈W)->Ge W σ (σ.Eh l)
 |[],σ,_=> .refl _ _
 |(s,x)::l,σ,h=>(Ge.set (h (s,x) AH)).trans (Ge.Eh λp hp=>h p (by simp[hp]))
def oa{ops:List Oper}{o:Oper}{W:List Nat}(hr:C9 C U0 w0 U Z σ h a w)(hw:∀s∈Ep ops o,s∈W):∃b,C9 C U0 w0 b Z (aAz C σ o) h a w/\Ge W σ (aAz C σ o):=by
 obtain⟨h1,h2,c⟩:=c_ (C:=C) (σ:=σ) a (ops:=ops) (o:=o);obtain⟨b,_,FX,_⟩:=(hr.drop ((RR C σ o).map (·.1))).Tp (fz:=RR C σ o) (λp hp=>by obtain⟨ver,ow,hs⟩:=h1 p hp;exact⟨ver,ow,by rw[BR.R6,hs]⟩) h2
 refine⟨b,FX,(Ge.drop σ _).trans (Ge.Eh λp hp=>?_)⟩;obtain⟨q,hq,rfl⟩:=Bj.1 hp;exact hw _ (c q hq)
def vV(m:Fe C run){ops:Array Oper}{Q:Exit->Act->World->Prop}{W:List Nat}{K:BR->IT}{R:J6}:∀(rest:List Oper) (k:Nat) (U:Gh) (Z:Nat->Nat) (σ:BR) (h:Ah) (a:Act) (w:World),
  ops.toList.drop k=rest->(∀o∈rest,(∀s∈Ep ops.toList o,s∈W)/\∀s∈FC ops.toList o,s∈W)->IT.step (Ca C) run (uZ C fid ops.toList rest σ K) h=some R->C9 C U0 w0 U Z σ h a w->
  (∀g f σ' h' a' w',IT.step (Ca C) run (K σ') h'=some R->Ge W σ σ'->C9 C U0 w0 g f σ' h' a' w'->Q .normal a' w')->wpOps C.P ops Q (List.range' k rest.length) a w
 |[],k,U,Z,σ,h,a,w,_,_,A0,hr,hQ=>by simp only[BP,List.range'_zero,wpOps];exact hQ U Z σ h a w A0 (.refl _ _) hr
 |o::rest,k,U,Z,σ,h,a,w,hk,hW,A0,hr,hQ=>by
  have ho:ops[k]?=some o:=by
   have:ops.toList[k]?=some o:=by have h0:=Cb (·[0]?) hk;simpa[Cr] using h0
   simpa using this
  have l:ops.toList.drop (k+1)=rest:=by have h0:=Cb (List.drop 1) hk;simpa[Eg] using h0
  obtain⟨qP,np⟩:=hW o AH;simp only[A9,List.range'_succ,wpOps,ho];obtain⟨U1,e,c⟩:=oa hr qP;obtain⟨i,j,Jc⟩:=cD A0;have Kt:C9 C U0 w0 U1 Z i h a w/\Ge W σ i:=by
   rcases j with rfl|⟨s,b,g1,g2,rfl⟩
   .exact⟨e,c⟩
   .have h0:=e.fr.Ii s;rw[g2] at h0;exact⟨e.kK h0,c.trans (.set (np s g1))⟩
  obtain⟨Kt,aEh⟩:=Kt;have next:∀g f σ' h' a' w',IT.step (Ca C) run (uZ C fid ops.toList rest σ' K) h'=some R->Ge W σ σ'->C9 C U0 w0 g f σ' h' a' w'->wpOps C.P ops Q (List.range' (k+1) rest.length) a' w':=λg f σ' h' a' w' QL bw FX=>vV m rest (k+1) g f σ' h' a' w' l (λo ho=>hW o (by simp[ho])) QL FX λq p d h2 a2 n LQ aJl aEi=>hQ q p d h2 a2 n LQ (bw.trans aJl) aEi
  rcases Jc with⟨hg,Jd⟩|⟨hg,Jd⟩
  .rw[Ae (LU Kt hg)];unfold kf at Jd;split at Jd;.rename_i r hc;obtain⟨d,h2,hd,Uj⟩:=ZF Jd;exact .inl (nl m hc hd Kt λg f a' w' FX=>next g f d h2 a' w' Uj (aEh.trans ((vU hc hd).mono qP)) FX)
   .cases Jd
  .rw[Ac (by rw[LU Kt hg];simp)];exact next U1 Z _ h _ w Jd (aEh.trans (.put λs hs=>qP s (CD _ hs))) (Kt.put λ_ _=>rfl)
def qQ{W:List Nat}{d:Option Nat}{σ σ':BR}(h:MR d σ σ')(hd:∀s∈d.toList,s∈W):Ge W σ σ':=by
 unfold MR at h;cases d with
 |none=>simp only at h;rw[h];exact .refl _ _
 |some d=>
  simp only at h;split at h;.obtain⟨b,_,rfl⟩:=h;exact .set (hd d AH)
  .rw[h];exact .refl _ _
def qR{ops:List Oper}{an:List Nat}{W:List Nat}(hW:∀o∈ops,∀s∈Ep ops o,s∈W){fl:List KB}{L:List St}{σ σf:BR}{h hf:Ah}(hs:Steps C fid ops run an fl L σ h σf hf):Ge W σ σf:=by
 induction hs with
 |nil=>exact .refl _ _
 |cons h1 _ _ ih=>
  refine Ge.trans ?_ ih;obtain⟨o,ho,⟨_,_,_,rfl,rfl⟩|⟨r,b,hg,hc,_,hd,_,ha⟩⟩:=h1;.exact .put λs hs=>hW o (CC ho) s (CD _ hs)
  .refine((vU hc hd).mono λs hs=>hW o (CC ho) s hs).trans (qQ ha λs hs=>?_);split at hs;.exact hW o (CC ho) s (CD _ hs)
   .simp at hs
def Xc(hm:C.P.follows .mixedOrders=true)(f:Fe C run){id:Nat}{ops:Array Oper}{draw:Bool}{Q:Exit->Act->World->Prop}{K:BR->IT}{R:J6}(A0:IT.step (Ca C) run (RU C fid ops.toList draw σ K) h=some R)(hr:C9 C U0 w0 U Z σ h a w)
  (hQ:∀d c σ' h' a' w',IT.step (Ca C) run (K σ') h'=some R->Ge (ops.toList.flatMap (Ep ops.toList)++ops.toList.flatMap (FC ops.toList)) σ σ'->C9 C U0 w0 d c σ' h' a' w'->Q .normal a' w'):(Code.region id ops draw).wp C.P Q a w:=by
 unfold RU at A0;cases draw with
 |false=>refine wp_region ?_;have:=vV (W:=ops.toList.flatMap (Ep ops.toList)++ops.toList.flatMap (FC ops.toList)) f ops.toList 0 U Z σ h a w rfl (λo ho=>⟨λs hs=>CD _ (uQ.2 ⟨o,ho,hs⟩),λs hs=>BT _ (uQ.2 ⟨o,ho,hs⟩)⟩) A0 hr hQ;simpa[aHZ] using this
 |true=>
  simp only[BL] at A0;split at A0
  .rename_i F9;obtain⟨L,σf,hf,h1,h2,l⟩:=Rh A0;refine wp_region_any hm ?_;have b:=h2;unfold Wz at b;simp only[S5,BQ,Bq] at b;have aEj:vT (Wx ops.toList) L:=by have:=ZW b.1;rw[aOl] at this;exact this
   have hlt:=h1.lt;have bM:∀i,i<ops.size->i∈L.map (·.idx):=λi hi=>by have:=Dv.1 b.2 i (by simpa using hi);simpa using this
   have xd:(L.map (·.idx)).Nodup:=by rw[List.Nodup,aOl];exact aEj.imp λh=>h.1
   have hlen:L.length=ops.size:=by
    have k:(L.map (·.idx)).length<=(List.range ops.size).length:=Og xd (λi hi=>by obtain⟨s,hs,rfl⟩:=Bj.1 hi;simpa using hlt s hs)
    have g:(List.range ops.size).length<=(L.map (·.idx)).length:=Og List.nodup_range λi hi=>bM i (by simpa using hi);simp at k g;omega
   have bw:=qR (W:=ops.toList.flatMap (Ep ops.toList)++ops.toList.flatMap (FC ops.toList)) (λo ho s hs=>CD _ (uQ.2 ⟨o,ho,hs⟩)) h1;refine cz f F9 (λd c a' w' FX=>hQ d c σf hf a' w' l bw FX) ops.size L _ U Z σ h a w.drew hlen h1 aEj ⟨AH,λi hi=>⟨λ_=>bM i hi,λ_=>by simp[Array.getD,hi]⟩,λj hj e _=>?_⟩ hr.drew;exfalso;rcases AN j ops.size with hlt|D6
   .simp[Array.getD,hlt] at hj
   .simp[Array.getD,Nat.not_lt.2 D6] at hj
  .cases A0
end
end Go.Am
end
section
namespace Go.Am
open Go
def Qd(x y:En):Prop:=
 (∃u,x.Hq=some u/\y= .val u)\/(∃v,x= .Bt v/\y= .Bt v)\/∃ver cs ow Gm NX,x= .box ver cs ow/\y= .box Gm cs NX/\∀o∈NX,o∈ow
def BR.Iw:∀(ws:List Nat) (σ:BR) (s:Nat),(σ.clear ws).at s=if s∈ws then .undef else σ.at s
 |[],σ,s=>by simp[BR.clear]
 |t::ws,σ,s=>by
  rw[BR.clear,BR.Iw ws];by_cases h:s∈ws;.simp[h]
  .by_cases h2:s=t
   .subst h2;rw[BR.W8];by_cases hl:s<σ.length;.simp[hl]
    .have:σ.at s= .undef:=by simp[BR.at,List.getD,hl]
     simp[h,hl,this]
   .rw[BR.Gd λe=>h2 e.symm];simp[h,h2]
def BR.Kg:∀(ws:List Nat) (σ:BR),(σ.clear ws).length=σ.length
 |[],σ=>rfl
 |t::ws,σ=>by rw[BR.clear,BR.Kg ws];simp
section
variable{C:FW}{U0 U:Gh}{w0 w:World}{Z:Nat->Nat}{σ:BR}{h:Ah}{a:Act}{fid:FuncId}{run:IT->Ah->Option J6}
def Qd.rel{B s:Nat}{x y:En}{v:Value}(hx:LB U Z B w s x v)(hf:Qd x y):LB U Z B w s y v:=by
 rcases hf with⟨u,hu,rfl⟩|⟨u,rfl,rfl⟩|⟨ver,cs,ow,Gm,NX,rfl,rfl,OW⟩
 .exact Nq hx hu
 .exact hx
 .obtain⟨j,i,g,us,e,f,d,c,b⟩:=hx;exact⟨j,i,g,us,e,f,d,c,λo ho=>b o (OW o ho)⟩
def Uk{σs:BR}{G:BR->IT}{R:J6}{vs:List Aa}:∀{l:List (Nat×Sh)} {i:Nat} {σa:BR},WA σs l=some (vs.drop i)->σa.length=σs.length->IT.step (Ca C) run (JJ vs l i σa G) h=some R->
  ∃b,IT.step (Ca C) run (G b) h=some R/\b.length=σa.length/\(∀s,s∉l.map (·.1)->b.at s=σa.at s)/\(∀s,s∈l.map (·.1)->Qd (σs.at s) (b.at s)/\
   ((∃Gm GX NX,b.at s= .box Gm GX NX/\ZC (σa.at s)<Gm)\/∀ver cs ow,σs.at s≠ .box ver cs ow))
 |[],i,σa,_,_,hr=>⟨σa,hr,rfl,λ_ _=>rfl,AH⟩
 |(s,sh)::l,i,σa,hv,hl,hr=>by
  have hd:∃v HQ,vs.drop i=v::HQ/\vs.drop (i+1)=HQ/\vs.getD i .nilIface=v/\WA σs l=some HQ/\
    (match(generalizing:=false) sh,σs.at s with| .val,x=>x.Hq| .Bt,.Bt v=>some v| .box n ow,.box _ cs NX=>if cs.length=n/\ow.all (NX.contains ·) then some (.agg cs) else none|_,_=>none)=some v:=by
   unfold WA at hv;simp only at hv;split at hv
   .rename_i v HQ h1 h2;simp only[Bz] at hv;refine⟨v,HQ,hv.symm,?_,?_,h2,h1⟩;.have:=Cb (List.drop 1) hv;simpa[Eg] using this.symm
    .have:=Cb (·[0]?) hv;simp only[IK,Cr,Bs] at this;simp[List.getD,<-this]
   .cases hv
  obtain⟨v,HQ,r,aJm,bW,WN,Si⟩:=hd;have hlt:s<σa.length:=by rw[hl];refine BR.Pe λe=>?_;rw[e] at Si;cases sh<;>simp[En.Hq] at Si
  have go:∀(y:En),Qd (σs.at s) y->((∃Gm GX NX,y= .box Gm GX NX/\ZC (σa.at s)<Gm)\/∀ver cs ow,σs.at s≠ .box ver cs ow)->IT.step (Ca C) run (JJ vs l (i+1) (σa.set s y) G) h=some R->
    ∃b,IT.step (Ca C) run (G b) h=some R/\b.length=σa.length/\(∀t,t∉((s,sh)::l).map (·.1)->b.at t=σa.at t)/\(∀t,t∈((s,sh)::l).map (·.1)->Qd (σs.at t) (b.at t)/\
     ((∃Gm GX NX,b.at t= .box Gm GX NX/\ZC (σa.at t)<Gm)\/∀ver cs ow,σs.at t≠ .box ver cs ow)):=by
   intro y hy c FX;obtain⟨b,q,p,j,m⟩:=Uk (l:=l) (i:=i+1) (σa:=σa.set s y) (by rw[aJm];exact WN) (by simpa using hl) FX;refine⟨b,q,by simpa using p,λt ht=>?_,λt ht=>?_⟩;.simp only[Bk,AT,Nh] at ht;rw[j t ht.2,BR.Gd λe=>ht.1 e.symm]
   .by_cases hm:t∈l.map (·.1)
    .obtain⟨g,k⟩:=m t hm;refine⟨g,k.imp (λ⟨Gm,GX,NX,f,d⟩=>⟨Gm,GX,NX,f,?_⟩) id⟩;by_cases bR:s=t
     .subst bR;rw[BR.Fv hlt] at d;rcases c with⟨z,B,A,rfl,h1⟩|hn
      .simp only[ZC] at d;omega
      .rcases g with⟨u,_,e⟩|⟨u,_,e⟩|⟨ver,cs,ow,_,_,e,_⟩
       .rw[f] at e;cases e
       .rw[f] at e;cases e
       .exact absurd e (hn _ _ _)
     .rwa [BR.Gd bR] at d
    .have bR:t=s:=by simp only[Bk,AT] at ht;exact ht.resolve_right hm
     subst bR;rw[j t hm,BR.Fv hlt];exact⟨hy,c⟩
  cases sh with
  |val=>
   simp only[JJ,bW] at hr;have ob:(σs.at s).Hq=some v:=by simpa using Si
   refine go (.val v) (.inl ⟨v,ob,rfl⟩) (.inr λver cs ow e=>?_) hr;rw[e] at ob;cases ob
  |Bt=>
   simp only[JJ,bW] at hr;cases hx:σs.at s with
   |Bt u=>rw[hx] at Si;cases Si;exact go (.Bt v) (.inr (.inl ⟨v,hx,rfl⟩)) (.inr λver cs ow e=>by rw[hx] at e;cases e) hr
   |_=>rw[hx] at Si;cases Si
  |box n ow=>
   simp only[JJ,bW,IT.step] at hr;cases hx:σs.at s with
   |box ver cs NX=>
    rw[hx] at Si;simp only at Si;split at Si
    .rename_i HS;cases Si;split at hr;.rename_i hn;rw[Tn hn] at hr;refine go (.box (ZC (σa.at s)+1) cs ow) (.inr (.inr ⟨ver,cs,NX,_,ow,hx,rfl,λo ho=>?_⟩)) (.inl ⟨_,_,_,rfl,Ni _⟩) hr;have:=Dv.1 HS.2 o ho;simpa using this
     .cases hr
    .cases Si
   |_=>rw[hx] at Si;cases Si
def C9.aA0(hr:C9 C U0 w0 U Z σ h a w){O:BR}(hl:O.length=σ.length)(hs:∀s,O.at s= .undef\/O.at s=σ.at s\/Qd (σ.at s) (O.at s)):C9 C U0 w0 U Z O h a w:=by
 refine⟨hr.D3,⟨by rw[hl];exact hr.fr.size,λs=>?_⟩,hr.DW,hr.defers,hr.GZ⟩;have h0:=hr.fr.Ii s;rcases hs s with e|e|e
 .rw[e];trivial
 .rw[e];exact h0
 .exact e.rel h0
structure od(σ0:BR)(ws:List Nat)(l:List (Nat×Sh))(σ':BR)(vs:List Aa):Prop where
 vec:WA σ' l=some vs
 len:σ'.length=σ0.length
 same:∀s,s∉l.map (·.1)->σ0.at s= .undef\/σ0.at s=σ'.at s
 box:∀s ver cs ow,σ0.at s= .box ver cs ow->∃Gm GX NX,σ'.at s= .box Gm GX NX
def lN{σ0 σ':BR}{l:List (Nat×Sh)}(hk:pJ σ0 σ' l=true){s:Nat}(hs:s∉l.map (·.1)):(∀ver cs ow,σ0.at s= .box ver cs ow->∃GX NX,σ'.at s= .box ver GX NX)/\(∀t o,σ0.at s= .Fk t o->∃t' o',σ'.at s= .Fk t' o'):=by
 have hc:(l.map (·.1)).contains s=false:=by
  cases hc:(l.map (·.1)).contains s with
  |false=>rfl
  |true=>exact absurd (by simpa using hc) hs
 have VC:s<σ0.length->(match σ0.at s with
   | .box ver _ _=>(l.map (·.1)).contains s||(match σ'.at s with| .box Gm _ _=>Gm==ver|_=>false)
   | .Fk _ _=>(l.map (·.1)).contains s||(match σ'.at s with| .Fk _ _=>true|_=>false)
   |_=>true)=true:=λhl=>by
  unfold pJ at hk;exact Dv.1 hk s (by simpa using hl)
 constructor
 .intro ver cs ow hx;have:=VC (BR.Pe (by rw[hx];simp));rw[hx] at this;simp only[hc,EV] at this;split at this
  .rename_i Gm GX NX hy;have e:Gm=ver:=by simpa using this
   subst e;exact⟨GX,NX,hy⟩
  .cases this
 .intro t o hx;have:=VC (BR.Pe (by rw[hx];simp));rw[hx] at this;simp only[hc,EV] at this;split at this;.rename_i t' o' hy;exact⟨t',o',hy⟩
  .cases this
def Pp{σ0 b σ':BR}{ws:List Nat}{l:List (Nat×Sh)}{x:DQ}{R:J6}(U5:IT.step (Ca C) run (Tl σ0 l x σ') h=some R)(bw:Ge ws b σ')(hlen:b.length=σ0.length)
  (UZ:∀s,s∈ws->σ0.at s= .undef) (No:∀s,s∉l.map (·.1)->σ0.at s= .undef\/σ0.at s=b.at s) (aJn:∀s ver cs ow,σ0.at s= .box ver cs ow->∃Gm GX NX,b.at s= .box Gm GX NX):
  ∃vs,R=(x,vs,h)/\od σ0 ws l σ' vs:=by
 unfold Tl at U5;split at U5
 .rename_i hk;split at U5
  .rename_i vs hv;cases U5;refine⟨vs,rfl,hv,bw.1.trans hlen,λs hs=>?_,λs ver cs ow hb=>?_⟩
   .by_cases hw:s∈ws;.exact .inl (UZ s hw)
    .rcases No s hs with e|e
     .exact .inl e
     .right;have YP:=bw.2 s hw;obtain⟨i,g⟩:=lN hk hs;rw[e] at i g⊢;cases hx:b.at s with
      |box ver cs ow=>rw[hx] at YP;obtain⟨m,p,n,c,_,d⟩:=YP;obtain⟨k,f,j⟩:=i ver cs ow hx;rw[c] at j;cases j;obtain⟨rfl,rfl⟩:=d rfl;exact c.symm
      |Fk t o=>
       rw[hx] at YP;rcases YP with c|c
       .exact c.symm
       .obtain⟨t',o',d⟩:=g t o hx;rw[c] at d;cases d
      |_=>rw[hx] at YP;exact(show σ'.at s=_ from YP).symm
   .have hw:s∉ws:=λhw=>by rw[UZ s hw] at hb;cases hb
    obtain⟨m,p,n,c⟩:=aJn s ver cs ow hb;have YP:=bw.2 s hw;rw[c] at YP;obtain⟨v2,k,f,d,_⟩:=YP;exact⟨v2,k,f,d⟩
  .cases U5
 .cases U5
def od.next{σ0 σ':BR}{ws:List Nat}{l:List (Nat×Sh)}{vs:List Aa}(he:od σ0 ws l σ' vs){G:BR->IT}{R:J6}(hr:C9 C U0 w0 U Z σ' h a w)(A0:IT.step (Ca C) run (JJ vs l 0 σ0 G) h=some R):
  ∃b,IT.step (Ca C) run (G b) h=some R/\C9 C U0 w0 U Z b h a w/\b.length=σ0.length/\(∀s,s∉l.map (·.1)->b.at s=σ0.at s)/\(∀s ver cs ow,σ0.at s= .box ver cs ow->∃Gm GX NX,b.at s= .box Gm GX NX/\(s∈l.map (·.1)->ver<Gm)):=by
 obtain⟨b,i,f,c,d⟩:=Uk (σs:=σ') (by simpa using he.vec) he.len.symm A0;refine⟨b,i,hr.aA0 (f.trans he.len.symm) λs=>?_,f,c,λs ver cs ow hb=>?_⟩
 .by_cases hm:s∈l.map (·.1);.exact .inr (.inr (d s hm).1)
  .rw[c s hm];rcases he.same s hm with e|e
   .exact .inl e
   .exact .inr (.inl e)
 .by_cases hm:s∈l.map (·.1)
  .obtain⟨_,q⟩:=d s hm;obtain⟨m,o,n,k⟩:=he.box s ver cs ow hb;rcases q with⟨Gm,GX,NX,j,g⟩|q
   .exact⟨Gm,GX,NX,j,λ_=>by rw[hb] at g;exact g⟩
   .exact absurd k (q _ _ _)
  .exact⟨ver,cs,ow,by rw[c s hm];exact hb,λh=>absurd h hm⟩
def Pq{σ σ0 b:BR}{ws W:List Nat}{l:List (Nat×Sh)}(h0:σ0=σ.clear ws)(hv:kg l ws σ=true)(hl:b.length=σ0.length)(h1:∀s,s∉l.map (·.1)->b.at s=σ0.at s)
  (h2:∀s ver cs ow,σ0.at s= .box ver cs ow->∃Gm GX NX,b.at s= .box Gm GX NX/\(s∈l.map (·.1)->ver<Gm)) (hW:∀s∈ws,s∈W):Ge W σ b:=by
 refine⟨by rw[hl,h0,BR.Kg],λs hs=>?_⟩;have c:s∉ws:=λhm=>hs (hW s hm);have e0:σ0.at s=σ.at s:=by rw[h0,BR.Iw,Ac c]
 by_cases hm:s∈l.map (·.1)
 .obtain⟨p,hp,rfl⟩:=Bj.1 hm;have:=Dv.1 hv p hp;simp only[OE,aDP] at this;rcases this with this|this
  .exact absurd this c
  .cases hx:σ.at p.1 with
   |box ver cs ow=>obtain⟨d,j,f,i,g⟩:=h2 p.1 ver cs ow (by rw[e0];exact hx);have:=g hm;exact⟨d,j,f,i,Ab,λe=>Ab⟩
   |_=>rw[hx] at this;cases this
 .rw[h1 s hm,e0];exact .refl _
def Fe.le{n m:Nat}(h:Fe C (IT.run (Ca C) n))(ŏ:m<=n):Fe C (IT.run (Ca C) m):=⟨h.1,λf args h0 r h' A0=>h.2 f args h0 r h' (IT.Ia ŏ A0)⟩
def oe(hm:C.P.follows .mixedOrders=true):∀(c:Code) (n:Nat),Fe C (IT.run (Ca C) n)->∀{K:DQ->BR->IT} {R:J6} {σ:BR} {h:Ah} {a:Act} {w:World} {U:Gh} {Z:Nat->Nat} {Q:Exit->Act->World->Prop},
  IT.step (Ca C) (IT.run (Ca C) n) (Gn C fid c σ K) h=some R->C9 C U0 w0 U Z σ h a w->
  (∀x f d σ' h' a' w',IT.step (Ca C) (IT.run (Ca C) n) (K x σ') h'=some R->Ge (Db c++Ce c) σ σ'->C9 C U0 w0 f d σ' h' a' w'->Q (n_ x) a' w')->c.wp C.P Q a w:=by
 intro c;induction c with
 |skip=>intro n p K R σ h a w U Z Q A0 hr g;exact wp_skip (g .normal U Z σ h a w A0 (.refl _ _) hr)
 |region id ops draw=>
  intro n p K R σ h a w U Z Q A0 hr g;simp only[Gn] at A0;split at A0;.exact Xc hm p A0 hr λf d σ' h' a' w' h1 h2 A=>g .normal f d σ' h' a' w' h1 h2 A
  .rename_i l hl;unfold bL at A0;simp only at A0;split at A0
   .rename_i hv;simp only[IT.step] at A0;split at A0
    .rename_i x vs h1 Xd;refine Xc hm p Xd hr λf d σ' h' a' w' z u q=>?_;obtain⟨HQ,e,he⟩:=Pp (h:=h') z u (by rw[BR.Kg]) (λs hs=>by rw[BR.Iw,Ae hs]) (λs _=>by rw[BR.Iw];split<;>simp) (λs ver cs ow hb=>by
      rw[BR.Iw] at hb;split at hb;.cases hb
      .exact⟨ver,cs,ow,hb⟩)
     cases e;obtain⟨k,F,E,L,J,I⟩:=he.next q A0;exact g .normal f d k h1 a' w' F (Pq rfl hv L J I (λs hs=>hs)) E
    .cases A0
   .cases A0
 |seq x y D B=>
  intro n p K R σ h a w U Z Q A0 hr g;simp only[Gn] at A0;refine wp_seq (D n p A0 hr λe f d σ' h' a' w' h1 h2 A=>?_);have up:∀j,Ge (Db x++Ce x) σ j->Ge (Db (.seq x y)++Ce (.seq x y)) σ j:=λj ho=>ho.mono λs hs=>by simp only[Db,Ce,Ax] at hs⊢;rcases hs with hs|hs<;>simp[hs]
  cases e with
  |normal=>refine B n p h1 A λX U2 Z2 j ZU a2 Y z u q=>g X U2 Z2 j ZU a2 Y z ((up _ h2).trans (u.mono λs hs=>?_)) q;simp only[Db,Ce,Ax] at hs⊢;rcases hs with hs|hs<;>simp[hs]
  |exit i=>exact g (.exit i) f d σ' h' a' w' h1 (up _ h2) A
  |ret=>exact g .ret f d σ' h' a' w' h1 (up _ h2) A
 |cond c x y D B=>
  intro n p K R σ h a w U Z Q A0 hr g;have N:∀{o j:BR},Ge (Db x++Ce x) o j->Ge (Db (.cond c x y)++Ce (.cond c x y)) o j:=λ{o j} ho=>ho.mono λs hs=>by cases c<;>simp only[Db,Ce,Ax,AT] at hs⊢<;>rcases hs with hs|hs<;>simp[hs]
  have M:∀{o j:BR},Ge (Db y++Ce y) o j->Ge (Db (.cond c x y)++Ce (.cond c x y)) o j:=λ{o j} ho=>ho.mono λs hs=>by cases c<;>simp only[Db,Ce,Ax,AT] at hs⊢<;>rcases hs with hs|hs<;>simp[hs]
  simp only[Gn] at A0;split at A0;.rename_i hc;obtain⟨s,h1,_⟩:=Gp hr hc;exact wp_cond_true h1 (D n p A0 hr λe f d σ' h' a' w' z u q=>g e f d σ' h' a' w' z (N u) q)
  .rename_i hc;obtain⟨s,h1,_⟩:=Gp hr hc;exact wp_cond_false h1 (B n p A0 hr λe f d σ' h' a' w' z u q=>g e f d σ' h' a' w' z (M u) q)
  .rename_i s v hc;have ł:σ.at s= .val v:=Hd hc;have h0:=hr.fr.Ii s;rw[ł] at h0;have G:∀{S:DQ->BR->IT} {R':J6} {Q':Exit->Act->World->Prop},IT.step (Ca C) (IT.run (Ca C) n) (.Gc v (Gn C fid x (σ.set s (.OS true)) S) (Gn C fid y (σ.set s (.OS false)) S)) h=some R'->
     (∀e f d σ' h' a' w',IT.step (Ca C) (IT.run (Ca C) n) (S e σ') h'=some R'->Ge (Db (.cond (.tmp s) x y)++Ce (.cond (.tmp s) x y)) σ σ'->C9 C U0 w0 f d σ' h' a' w'->Q' (n_ e) a' w')->(Code.cond (.tmp s) x y).wp C.P Q' a w:=by
    intro S R' Q' QL O;have ct:∀b:Bool,Ge (Db (.cond (.tmp s) x y)++Ce (.cond (.tmp s) x y)) σ (σ.set s (.OS b)):=λb=> .set (by simp[Ce]);simp only[IT.step] at QL;split at QL;.have hv:a.eval (.tmp s)= .bool true:=h0;exact wp_cond_true hv (D n p QL (hr.kK h0) λe f d σ' h' a' w' z u q=>O e f d σ' h' a' w' z ((ct true).trans (N u)) q)
    .have hv:a.eval (.tmp s)= .bool false:=h0;exact wp_cond_false hv (B n p QL (hr.kK h0) λe f d σ' h' a' w' z u q=>O e f d σ' h' a' w' z ((ct false).trans (M u)) q)
    .cases QL
   split at A0;.exact G A0 g
   .rename_i l hl;unfold bL at A0;simp only at A0;split at A0
    .rename_i hv;simp only[IT.step] at A0;split at A0
     .rename_i e vs h1 Xd;refine G Xd λX f d σ' h' a' w' z u q=>?_;obtain⟨HQ,eq,he⟩:=Pp (h:=h') (ws:=s::(Db x++Db y++Ce x++Ce y)) z (u.mono λt ht=>by
        simp only[Db,Ce,Ax,AT] at ht⊢;rcases ht with(ht|ht)|ht|ht|ht<;>simp[ht]) (by rw[BR.Kg]) (λt ht=>by rw[BR.Iw,Ae ht]) (λt _=>by rw[BR.Iw];split<;>simp) (λt ver cs ow hb=>by
       rw[BR.Iw] at hb;split at hb;.cases hb
       .exact⟨ver,cs,ow,hb⟩)
      cases eq;obtain⟨k,F,E,L,J,I⟩:=he.next q A0;exact g e f d k h1 a' w' F (Pq rfl hv L J I (λt ht=>by simp only[Db,Ce,Ax,AT] at ht⊢;rcases ht with ht|((ht|ht)|ht)|ht<;>simp[ht])) E
     .cases A0
    .cases A0
  .cases A0
 |block id b ih=>
  intro n p K R σ h a w U Z Q A0 hr g;simp only[Gn] at A0;refine wp_block (ih n p A0 hr λe f d σ' h' a' w' h1 h2 A=>?_);cases e with
  |normal=>exact g .normal f d σ' h' a' w' h1 h2 A
  |exit i=>
   simp only at h1;show if i=id then Q .normal a' w' else Q (.exit i) a' w'
   by_cases hi:i=id;.rw[Ae hi] at h1⊢;exact g .normal f d σ' h' a' w' h1 h2 A
   .rw[Ac hi] at h1⊢;exact g (.exit i) f d σ' h' a' w' h1 h2 A
  |ret=>exact g .ret f d σ' h' a' w' h1 h2 A
 |loop b ih=>
  intro n p K R σ h a w U Z Q A0 hr g;simp only[Gn] at A0;generalize hl:C.aAv fid ((GL b).getD 0)=l at A0;generalize aOS:(GL b).getD 0=key at A0;generalize h0:σ.clear (Db b++Ce b)=σ0 at A0;split at A0
  .rename_i hv;split at A0;.cases A0
   .rename_i init aEk;have aEl:σ0.length=σ.length:=by rw[<-h0,BR.Kg]
    have UZ:∀s,s∈Db b++Ce b->σ0.at s= .undef:=λs hs=>by rw[<-h0,BR.Iw,Ae hs]
    refine cC (λm a w=>∃U Z o h vs,C9 C U0 w0 U Z o h a w/\od σ0 (Db b++Ce b) l o vs/\m<=n+1/\
     IT.run (Ca C) m (.loop key vs (λvs=>JJ vs l 0 σ0 λk=>Gn C fid b k λx σ'=>Tl σ0 l x σ') λx vs=>JJ vs l 0 σ0 λσ'=>Ľ K x σ') h=some R) ?_ (n+1) a w
     ⟨U,Z,σ,h,init,hr,⟨aEk,aEl.symm,λs _=>by rw[<-h0,BR.Iw];split<;>simp,λs ver cs ow hb=>by
      rw[<-h0,BR.Iw] at hb;split at hb;.cases hb
      .exact⟨ver,cs,ow,hb⟩⟩,Ag _,A0⟩
    rintro m a1 w1 ⟨U1,Z1,o,h1,vs,Kt,T,ŏ,Jd⟩;cases m with
    |zero=>simp[IT.run] at Jd
    |succ m=>
     simp only[IT.run,IT.step] at Jd;have body:∀{x:DQ} {HQ:List Aa} {h':Ah},IT.step (Ca C) (IT.run (Ca C) m) (JJ vs l 0 σ0 λk=>Gn C fid b k λx σ'=>Tl σ0 l x σ') h1=some (x,HQ,h')->∀{Q':Exit->Act->World->Prop},
       (∀f d σ' a' w',C9 C U0 w0 f d σ' h' a' w'->od σ0 (Db b++Ce b) l σ' HQ->Q' (n_ x) a' w')->b.wp C.P Q' a1 w1:=by
      intro x HQ h' hb Q' V;obtain⟨k,F,E,L,J,I⟩:=T.next Kt hb;refine ih m (p.le Ab) F E λy f d σ' h2 a' w' z u q=>?_;obtain⟨vs2,eq,he⟩:=Pp z u L UZ (λs hs=> .inr (J s hs).symm) λs ver cs ow hb=>by obtain⟨v1,c1,o1,e1,_⟩:=I s ver cs ow hb;exact⟨v1,c1,o1,e1⟩
      cases eq;exact V f d σ' a' w' q he
     split at Jd;.rename_i HQ h' hb;exact body hb λf d σ' a' w' FX Qy=>⟨m,Ni m,f,d,σ',h',HQ,FX,Qy,Ab,Jd⟩
     .rename_i x HQ h' hne hb;refine body hb λf d σ' a' w' FX Qy=>?_;have Uj:=IT.JT (λt h r=>IT.Ia (fn:=Ca C) (Ab:m<=n)) _ _ _ Jd;obtain⟨k,F,E,L,J,I⟩:=Qy.next FX Uj;have ho:=Pq h0.symm hv L J I λs hs=>hs;cases x with
      |normal=>exact absurd rfl hne
      |exit i=>exact g _ f d k h' a' w' F ho E
      |ret=>exact g _ f d k h' a' w' F ho E
     .cases Jd
  .cases A0
 |exit id=>intro n p K R σ h a w U Z Q A0 hr g;exact wp_exit (g (.exit id) U Z σ h a w A0 (.refl _ _) hr)
 |ret=>intro n p K R σ h a w U Z Q A0 hr g;exact wp_ret (g .ret U Z σ h a w A0 (.refl _ _) hr)
 |label l=>intro n p K R σ h a w U Z Q A0 hr g;exact wp_label (g .normal U Z σ h a w A0 (.refl _ _) hr)
 |scope b ih=>
  intro n p K R σ h a w U Z Q A0 hr g;simp only[Gn] at A0;refine wp_scope_straight (ih n p A0 hr λe f d σ' h' a' w' h1 h2 A=>?_);cases e with
  |normal=>exact g .normal f d σ' h' a' w' h1 h2 A
  |exit i=>exact g (.exit i) f d σ' h' a' w' h1 h2 A
  |ret=>exact g .ret f d σ' h' a' w' h1 h2 A
 |_=>intros n p K R σ h a w U Z Q A0 hr g;cases A0
end
end Go.Am
end
section
namespace Go.Am
open Go
section
variable{C:FW}{U0 U:Gh}{w0 w:World}{Z:Nat->Nat}{σ:BR}{h:Ah}{a:Act}{fid:FuncId}{run:IT->Ah->Option J6}
def Iy(tmps:Array Value):ResultVar->Sem Value
 | .tmp t=>pure (tmps.getD t undef)
 | .cell a t=>do loadVar t (<-asAddr (tmps.getD a undef))
def Sj{P:Program}{t:TypeId}{b o:Nat}{v:Value}(h:(Instr.loadAt t (.pointer (some ⟨b,o,none⟩))).run P w= .ok v w):(loadVar t ⟨b,o,none⟩).run P w= .ok v w:=by simpa[Instr.loadAt,Instr.sureAddr] using h
def Ul{K:List Aa->IT}{R:J6}:∀{rs:List ResultVar} {DW:List Aa},IT.step (Ca C) run (GH C σ rs DW K) h=some R->C9 C U0 w0 U Z σ h a w->
  ∃vs us,(rs.mapM (Iy a.tmps)).run C.P w= .ok us w/\Bg U vs us/\IT.step (Ca C) run (K (DW.reverse++vs)) h=some R
 |[],DW,A0,hr=>⟨[],[],AH,rfl,by simpa[GH] using A0⟩
 |f::rs,DW,A0,hr=>by
  have one:∀(v:Aa) (u:Value),(Iy a.tmps f).run C.P w= .ok u w->BO U v u->IT.step (Ca C) run (GH C σ rs (v::DW) K) h=some R->
    ∃vs us,((f::rs).mapM (Iy a.tmps)).run C.P w= .ok us w/\Bg U vs us/\IT.step (Ca C) run (K (DW.reverse++vs)) h=some R:=by
   intro v u h1 h2 m;obtain⟨vs,us,z,y,x⟩:=Ul m hr;refine⟨v::vs,u::us,?_,⟨u,us,rfl,h2,y⟩,by simpa using x⟩;simp[List.mapM_cons,h1,z]
  cases f with
  |tmp t=>
   simp only[GH] at A0;split at A0;.rename_i v hv;exact one v _ (by simp[Iy]) (Nq (hr.fr.Ii t) hv) A0
   .cases A0
  |cell p t=>
   have c:∀(b o:Nat) (v:Aa),a.tmps.getD p undef= .pointer (some ⟨b,o,none⟩)->(∃u,(Instr.loadAt t (.pointer (some ⟨b,o,none⟩))).run C.P w= .ok u w/\BO U v u)->IT.step (Ca C) run (GH C σ rs (v::DW) K) h=some R->
     ∃vs us,((ResultVar.cell p t::rs).mapM (Iy a.tmps)).run C.P w= .ok us w/\Bg U vs us/\IT.step (Ca C) run (K (DW.reverse++vs)) h=some R:=by
    intro b o v hp ⟨u,h1,h2⟩ m;refine one v u ?_ h2 m;simp only[Iy,hp,asAddr,Sem.run_bind,Sem.run_pure,Result.andThen_ok];exact Sj h1
   simp only[GH] at A0;split at A0
   .rename_i s off ver cs ow ht ha;split at A0;.rename_i hlt;obtain⟨hs,hx⟩:=Lg hr ha;obtain⟨u,i,g,_⟩:=KX hr ht hs (r:=cs.getD off .nilIface) (off:=off) (by simp[Ft,List.getD,Ai hlt]);exact c _ _ _ hx ⟨u,i,g⟩ A0
    .cases A0
   .rename_i n s off ver cs ow ht ha;split at A0;.rename_i Ej;obtain⟨hs,hx⟩:=Lg hr ha;obtain⟨u,i,g,_⟩:=KX hr ht hs (r:= .agg ((cs.drop off).take n)) (off:=off) (by simp[Ft,Ej]);exact c _ _ _ hx ⟨u,i,g⟩ A0
    .cases A0
   .rename_i n p' ht ha;simp only[IT.step] at A0;split at A0
    .rename_i v hv;have vN:=Re hr ha;unfold Bd at hv;split at hv;.rename_i cs;obtain⟨b,k,lA,hm⟩:=vN;obtain⟨us,l,d⟩:=hm.values;exact c b k v lA (Iv (w:=w) ht l (λj u hj=>(hr.D3.Io _ _ _ (d j u hj)).1) (λu hu=>by obtain⟨j,hj⟩:=CP hu;exact(hr.D3.Io _ _ _ (d j u hj)).2.1) hv) A0
     .rename_i id off;obtain⟨b,hb,lA⟩:=vN;split at hv
      .rename_i cs hcs;obtain⟨us,e,fr,l,pf,d,q⟩:=hr.D3.cells id cs hcs b hb;refine c b off v lA (Iv (w:=w) (b:=b) (o:=off) ht (d.drop off) (λj u hj=>?_) (λu hu=>q u (BB hu)) (Pj hv)) A0;rw[cell_of_row w _ _ us e fr l];rw[Cr,Ch] at hj;split at hj;.simpa using hj
       .cases hj
      .cases hv
     .cases hv
    .cases A0
   .cases A0
def C9.O7(hr:C9 C U0 w0 U Z σ h a w){p:Aa}{off:Nat}{u:Value}{h':Ah}(hp:BO U p u)(hf:Ma h off p=some h'):∃t,C9 C U0 w0 t Z σ h' a w:=by
 unfold Ma at hf;split at hf;.cases hf;exact⟨U,hr⟩
 .rename_i id r;generalize r+off=o at hf;obtain⟨b,hb,_⟩:=hp;split at hf
  .rename_i cs hcs;split at hf
   .rename_i v hv;obtain⟨us,e,fr,c,pf,n,B⟩:=hr.D3.cells id cs hcs b hb;obtain⟨x,hx,g⟩:=n.get hv;cases hq:Kw h v with
    |none=>rw[hq] at hf;cases hf
    |some q=>
     obtain⟨h1,v'⟩:=q;rw[hq] at hf;simp only[Ct] at hf;split at hf
     .rename_i GX aEm;cases hf;obtain⟨U1,Ej,Kt,xz⟩:=hr.O3 g hq;have Tc:=Ej.mu _ _ hb;obtain⟨k,D,s,j,l,r2,m⟩:=Kt.D3.cells id GX aEm b Tc;rw[c] at j;cases j;have ct:Bg U1 (GX.set o v') (us.toList.take (GX.set o v').length):=by
       rw[Bn];refine Bg.Hc (by simp[r2.length]) λi y z hy hz=>?_;by_cases hi:o=i
       .subst hi;by_cases hlt:o<GX.length
        .rw[AS hlt] at hy;cases hy;have f:x=z:=by rw[CV hlt] at hz;have aJp:o<cs.length:=(Al.1 hv).1;rw[CV aJp] at hx;rw[hx] at hz;exact D2 hz
         rw[<-f];exact xz
        .rw[D9 (by simpa using hlt)] at hy;cases hy
       .rw[Ap hi] at hy;obtain⟨A,YY,d⟩:=r2.get hy;rw[hz] at YY;cases YY;exact d
      obtain⟨VA,OV⟩:=Nn Kt.D3 aEm Tc c us (GX.set o v') rfl l ct (by rw[Bn];exact m);rw[setRow_self w b us e fr c] at VA OV;exact⟨U1,Kt.Jb VA OV⟩
     .cases hf
   .cases hf
  .cases hf
 .cases hf
def vW{t:IT}{R:J6}:∀{l:List (Nat×Nat)} {U:Gh} {h:Ah},IT.step (Ca C) run (vB C σ l t) h=some R->C9 C U0 w0 U Z σ h a w->∃b h',C9 C U0 w0 b Z σ h' a w/\IT.step (Ca C) run t h'=some R
 |[],U,h,A0,hr=>⟨U,h,hr,A0⟩
 |(s,off)::l,U,h,A0,hr=>by
  simp only[vB] at A0;split at A0
  .rename_i p hp;simp only[IT.step] at A0;split at A0;.rename_i h1 hf;obtain⟨U1,Kt⟩:=hr.O7 (Nq (hr.fr.Ii s) hp) hf;exact vW A0 Kt
   .cases A0
  .cases A0
def Xe{R:J6}:∀{vs DW:List Aa} {U:Gh} {h:Ah} {us jg:List Value},IT.step (Ca C) run (Pc vs DW T7) h=some R->C9 C U0 w0 U Z σ h a w->Bg U vs us->Bg U DW.reverse jg->
  ∃c h' HQ,C9 C U0 w0 c Z σ h' a w/\Bg c HQ (jg++us)/\IT.step (Ca C) run (T7 HQ) h'=some R
 |[],DW,U,h,us,jg,A0,hr,h1,h2=>by rw[show us=[] from h1,BE];exact⟨U,h,DW.reverse,hr,h2,A0⟩
 |v::vs,DW,U,h,us,jg,A0,hr,h1,h2=>by
  obtain⟨u,DK,rfl,hv,h1⟩:=h1;simp only[Pc,IT.step] at A0;split at A0
  .rename_i k v' hf;obtain⟨U1,Ej,Kt,xz⟩:=hr.O3 hv hf;have i:Bg U1 (v'::DW).reverse (jg++[u]):=by rw[EE];exact(Bg.mono Ej _ _ h2).append ⟨u,[],rfl,xz,rfl⟩
   obtain⟨j,g,b,f,e,d⟩:=Xe A0 Kt (Bg.mono Ej _ _ h1) i;exact⟨j,g,b,f,by rwa [AI] at e,d⟩
  .cases A0
def vX{R:J6}{vs:List Aa}{us:List Value}{U:Gh}{h:Ah}(A0:IT.step (Ca C) run (T7 vs) h=some R)(hv:Bg U vs us):
  ∃r,R=(.ret,[r],h)/\BO U r (if c:us.toArray.size=1 then us.toArray[0] else .tuple us.toArray):=by
 unfold T7 at A0;split at A0;.rename_i v;obtain⟨u,DK,rfl,b,hnil⟩:=hv;rw[show DK=[] from hnil];simp only[IT.step] at A0;cases A0;exact⟨v,rfl,by simpa using b⟩
 .rename_i hne;simp only[IT.step] at A0;cases A0;have hlen:us.length≠1:=λe=>by have:=hv.length;rw[e] at this;obtain⟨v,hv⟩:=aDa.1 this.symm;exact hne v hv
  refine⟨_,rfl,?_⟩;rw[dif_neg (by simpa using hlen)];exact⟨us.toArray,rfl,by simpa using hv⟩
def Um{fn:Func}{tmps:Array Value}{us:List Value}(h:(fn.results.toList.mapM (Iy tmps)).run C.P w= .ok us w):(results fn tmps).run C.P w= .ok (if b:us.toArray.size=1 then us.toArray[0] else .tuple us.toArray) w:=by
 have e:fn.results.mapM (Iy tmps)=(do let l<-fn.results.toList.mapM (Iy tmps);pure l.toArray:Sem (Array Value)):=by rw[Array.mapM_eq_mapM_toList];simp
 have c:results fn tmps=(do let vs<-fn.results.mapM (Iy tmps);pure (if b:vs.size=1 then vs[0] else .tuple vs):Sem Value):=by unfold results;congr 2
 rw[c,e];simp only[Sem.run_bind,h,Result.andThen_ok,Sem.run_pure]
def ym{fn:Func}{R:J6}(A0:IT.step (Ca C) run (kJ C fid fn σ) h=some R)(hr:C9 C U0 w0 U Z σ h a w):
  ∃r h' v f,R=(.ret,[r],h')/\(results fn a.tmps).run C.P w= .ok v w/\Hk f h' w/\Ld U0 w0 f w/\BO f r v/\(C.Jh fid=true->∃s c,IU f w0.heap.size w s c v r):=by
 unfold kJ at A0;split at A0;.cases A0
 .rename_i FF;obtain⟨U1,h1,Kt,Jd⟩:=vW A0 hr;by_cases ho:C.Jh fid=true
  .have g:∃t x,fn.results.toList=[.tmp t]/\σ.at t= .Bt x:=by
    have:P6 σ fn.results.toList=true:=by
     cases hq:P6 σ fn.results.toList with
     |true=>rfl
     |false=>exact absurd (by simp[ho,hq]) FF
    unfold P6 at this;split at this
    .rename_i t Ku;split at this;.rename_i x hx;exact⟨t,x,Ku,hx⟩
     .cases this
    .cases this
   obtain⟨t,x,d,hx⟩:=g;have h0:=Kt.fr.Ii t;rw[hx] at h0;have yn:=Um (C:=C) (w:=w) (fn:=fn) (tmps:=a.tmps) (us:=[a.tmps.getD t undef]) (by rw[d];simp[Iy]);rw[d] at Jd;simp only[GH,hx,En.Hq,EE,S5,BQ] at Jd;have aEn:Kw h1 x=some (h1,x):=by rcases h0.2 with(rfl|⟨_,rfl⟩)|⟨_,_,_,_,_,_,_,rfl,_⟩<;>rfl
   have hR:R=(.ret,[x],h1):=by
    split at Jd;.simp only[Pc,IT.step,aEn,EE,S5,BQ,T7] at Jd;cases Jd;rfl
    .simp only[IT.step,T7] at Jd;cases Jd;rfl
   exact⟨x,h1,_,U1,hR,by simpa using yn,Kt.D3,Kt.DW,h0.1,λ_=>⟨t,none,h0.2⟩⟩
  .obtain⟨vs,us,n,k,Uj⟩:=Ul Jd Kt;simp only[S5,BQ] at Uj;have yn:=Um (C:=C) n;split at Uj;.obtain⟨o,h2,l,j,i,m⟩:=Xe Uj Kt k (jg:=[]) rfl;rw[BQ] at i;obtain⟨r,hR,b⟩:=vX m i;exact⟨r,h2,_,o,hR,yn,j.D3,j.DW,b,λe=>absurd e ho⟩
   .obtain⟨r,hR,b⟩:=vX Uj k;exact⟨r,h1,_,U1,hR,yn,Kt.D3,Kt.DW,b,λe=>absurd e ho⟩
def C9.start{U:Gh}{h:Ah}{w:World}(hi:Hk U h w)(hg:∀g cs,C.GZ g=some cs->C1 U cs g 0){args:List Aa}{cargs:Array Value}(ha:Bg U args cargs.toList)(n:Nat)(Z:Nat->Nat):
  C9 C U w U Z (args.map .val++List.replicate (n-args.length) .undef) h {tmps:=cargs++Array.replicate (n-cargs.size) undef,defers:=[]} w:=by
 have hlen:cargs.size=args.length:=by have:=ha.length;simpa using this
 refine⟨hi,⟨by simp[hlen],λs=>?_⟩,Ld.refl U w,rfl,hg⟩;by_cases hs:s<args.length
 .have h1:BR.at (args.map .val++List.replicate (n-args.length) .undef) s= .val args[s]:=by simp[BR.at,List.getD,Aj,hs]
  obtain⟨u,hu,hr⟩:=ha.get (Ai hs);have h2:(cargs++Array.replicate (n-cargs.size) undef).getD s undef=u:=by
   rw[Hi,Array.getElem?_append_left Ab];have:cargs[s]?=some u:=by simpa using hu
   rw[this];rfl
  rw[h1,h2];exact hr
 .have h1:BR.at (args.map .val++List.replicate (n-args.length) .undef) s= .undef:=by have hm:(args.map En.val).length=args.length:=AH;simp only[BR.at,List.getD];rw[Bl Ab,List.getElem?_replicate];split<;>rfl
  rw[h1];trivial
def cE(C:FW):Prop:=
 (∀f,C.MN f=true->mn C f)/\∀(f:FuncId) (p:List Aa->IT),C.aAw f=some p->∀n,Fe C (IT.run (Ca C) n)->∀(args:List Aa) (h:Ah) (r:Aa) (h':Ah),IT.step (Ca C) (IT.run (Ca C) n) (p args) h=some (.ret,[r],h')->
  (∃fn c,C.P.funcs[Ez f]?=some fn/\(fn.name== "runtime.NumGoroutine")=false/\fn.body=some c)/\
  ∀(U:Gh) (w:World) (cargs:Array Value),Hk U h w->(∀g cs,C.GZ g=some cs->C1 U cs g 0)->Bg U args cargs.toList->
   Calls C.P (Ez f) cargs w λe w'=>match e with
    | .returned v=>∃b,Hk b h' w'/\Ld U w b w'/\BO b r v/\(C.Jh f=true->∃s c,IU b w.heap.size w' s c v r)
    |_=>False
def lO(hm:C.P.follows .mixedOrders=true)(og:∀g cs,C.GZ g=some cs->cs.all Aa.MI=true)(Ő:cE C):∀n,Fe C (IT.run (Ca C) n)
 |0=>⟨⟨og,Ő.1⟩,λf args h r h' A0=>by simp[IT.run] at A0⟩
 |n+1=>⟨⟨og,Ő.1⟩,λf args h r h' A0=>by
  have ih:=lO hm og Ő n;simp only[IT.run] at A0;unfold Ca at A0;split at A0;.rename_i p hp;exact Ő.2 f p hp n ih args h r h' A0
  unfold aDX at A0;split at A0
  .rename_i fn hf;split at A0;.cases A0
   .rename_i hname;unfold kh at A0;split at A0;.cases A0
    .rename_i c hb;refine⟨⟨fn,c,hf,by simpa using hname,hb⟩,λU w cargs hi hg ha=>calls_of_wp hf hb ?_⟩;refine oe (C:=C) (fid:=f) hm c n ih A0 (C9.start hi hg ha fn.ntmps (λ_=>0)) λx u t σ' h1 a' w' d _ j=>?_;have HC:IT.step (Ca C) (IT.run (Ca C) n) (kJ C f fn σ') h1=some (.ret,[r],h')->a'.defers=[]/\∃v,(results fn a'.tmps).run C.P w'= .ok v w'/\∃b,Hk b h' w'/\Ld U w b w'/\BO b r v/\(C.Jh f=true->∃s c,IU b w.heap.size w' s c v r):=λaJr=>by obtain⟨r',h2,v,b,e,q,o,m,l,k⟩:=ym aJr j;cases e;exact⟨j.defers,v,q,b,o,m,l,k⟩
     cases x with
     |normal=>exact HC d
     |ret=>exact HC d
     |exit i=>cases d
  .cases A0⟩
end
def Ev.calls{C:FW}(hm:C.P.follows .mixedOrders=true)(og:∀g cs,C.GZ g=some cs->cs.all Aa.MI=true)(Ő:cE C){f:FuncId}{args:List Aa}{h:Ah}{Q:Aa->Ah->Prop}(Ji:Ev C f args h Q){U:Gh}{w:World}{cargs:Array Value}(hi:Hk U h w)(hg:∀g cs,C.GZ g=some cs->C1 U cs g 0)(ha:Bg U args cargs.toList):
  Calls C.P (Ez f) cargs w λe w'=>match e with
   | .returned v=>∃r h' b,Q r h'/\Hk b h' w'/\Ld U w b w'/\BO b r v
   |_=>False:=by
 obtain⟨n,x,vs,h',A0,rfl,r,rfl,hQ⟩:=Ji;refine(((lO hm og Ő n).2 f args h r h' A0).2 U w cargs hi hg ha).mono λe w' he=>?_;cases e with
 |returned v=>obtain⟨b,i,d,c,_⟩:=he;exact⟨r,h',b,hQ,i,d,c⟩
 |_=>exact he
end Go.Am
end
section
namespace Go.Am
open Go
inductive Ty where
 |bool
 |int (k:IntKind)
 |str
 |sl (e:Ty)
 |st (fs:List Ty)
 deriving Inhabited
mutual
def Ty.size:Ty->Nat
 | .bool| .int _| .str| .sl _=>1
 | .st fs=>Ty.MS fs
def Ty.MS:List Ty->Nat
 |[]=>0
 |t::ts=>Ty.size t+Ty.MS ts
end
mutual
def Pr(P:Program):Ty->TypeId->Bool
 | .bool,t=>match P.underlying t with|some .bool=>true|_=>false
 | .int k,t=>match P.underlying t with|some (.int k')=>decide (k'=k)|_=>false
 | .str,t=>match P.underlying t with|some .string=>true|_=>false
 | .sl e,t=>match P.underlying t with
  |some (.slice b)=>P.cellsOf b==Ty.size e&&decide (0<Ty.size e)&&Pr P e b
  |_=>false
 | .st fs,t=>match P.underlying t with
  |some (.struct fields)=>P.cellsOf t==Ty.MS fs&&Ps P fs fields.toList 0
  |_=>false
def Ps(P:Program):List Ty->List Field->Nat->Bool
 |[],[],_=>true
 |ty::tys,f::fs,off=>f.offset==off&&P.cellsOf f.type==Ty.size ty&&Pr P ty f.type&&Ps P tys fs (off+Ty.size ty)
 |_,_,_=>false
end
mutual
def Y9:Ty->List Aa->Prop
 | .bool,l=>∃b,l=[.bool b]
 | .int k,l=>∃n,l=[.int k n]/\(Lit.int k n).wf=true
 | .str,l=>∃s:Ao,l=[.str s]/\s.length<=maxLen
 | .sl e,l=>l=[.slnil]\/∃AD:List (List Aa),l=[.sl (Ty.size e) AD]/\AD.length<=maxLen/\∀r∈AD,Y9 e r
 | .st fs,l=>da fs l
def da:List Ty->List Aa->Prop
 |[],l=>l=[]
 |ty::tys,l=>∃a b,l=a++b/\Y9 ty a/\da tys b
end
def Ty.aA3:Ty->Bool
 | .st _=>true
 |_=>false
def qS(ty:Ty)(a:Aa):Prop:=if ty.aA3 then∃cs,a= .agg cs/\Y9 ty cs else Y9 ty [a]
def VD:List Ty->List Aa->Prop
 |[],l=>l=[]
 |ty::tys,l=>∃a b,l=a::b/\qS ty a/\VD tys b
def Gr(W:World):Gh:={Io:=λb o=>(W.cell? ⟨b,o,none⟩).filter (·.oneCell'),mu:=λ_=>none,Bt:=λ_=>none,sz:=λ_=>none}
def oh(W:World):Hk (Gr W) [] W:=by refine⟨λb o v h=>?_,λid x h=>by simp at h,λid cs h=>by simp at h,λid es h=>by simp at h,λid b h=>(by cases h),λb x h=>(by cases h),λb n h=>(by cases h)⟩;simp only[Gr,QD] at h;exact⟨h.1,h.2,.inl rfl⟩
def Tt{W:World}{b o:Nat}{v:Value}(h:W.cell? ⟨b,o,none⟩=some v)(h1:v.oneCell'=true):(Gr W).Io b o=some v:=by simp[Gr,h,h1,Option.filter]
def Un{V:Type}{p:Nat->V->Prop}:∀(n:Nat),(∀i,i<n->∃x,p i x)->∃l:List V,l.length=n/\∀i x,l[i]?=some x->p i x
 |0,_=>⟨[],rfl,AH⟩
 |n+1,h=>by
  obtain⟨l,hl,hp⟩:=Un n λi hi=>h i Ab;obtain⟨x,hx⟩:=h n Ab;refine⟨l++[x],by simp[hl],λi y hy=>?_⟩;rw[aHY] at hy;split at hy;.exact hp i y hy
  .have:i-l.length=0:=by
    rcases Jm (i-l.length) with h0|h0
    .exact h0
    .rw[D9 Ee] at hy;cases hy
   rw[this] at hy;simp at hy;subst hy;have:i=n:=Ab;rw[this];exact hx
section
variable{H:Type}{enc:TypeId×Value->H}{P:Program}{W:World}
def QM{a:Addr}{n:Nat}{cs:List Value}(h:W.cells? 0 a n=some cs)(hn:0<n):a.spot=none:=by
 obtain⟨_,hl,hc⟩:=World.cells?_some h;have h0:=hc 0 hn;have hlt:0<cs.length:=Ab;rw[Ai hlt] at h0;unfold World.cell? at h0;have ha:a.add 0=a:=by simp[Addr.add]
 rw[ha] at h0;split at h0
 .split at h0;.cases h0
  .rename_i hs;simpa using hs
 .cases h0
mutual
def cF:∀(ty:Ty) {t:TypeId} {fuel:Nat} {cs:List Value} {x:DataW H×List MemPlace},Pr P ty t=true->DataW.trod enc P W 0 (λ_=>true) true fuel t cs=some x->
  ∃as,Y9 ty as/\Bg (Gr W) as cs/\(∀u∈cs,u.oneCell'=true)/\as.length=Ty.size ty
 | .bool,t,fuel,cs,x,LL,h=>by
  unfold Pr at LL;split at LL;.rename_i ht;obtain⟨b,rfl,_⟩:=DataW.trod_bool ht h;exact⟨[.bool b],⟨b,rfl⟩,⟨_,[],rfl,rfl,rfl⟩,by simp[Value.oneCell'],rfl⟩
  .cases LL
 | .int k,t,fuel,cs,x,LL,h=>by
  unfold Pr at LL;split at LL
  .rename_i k' ht;have hk:k'=k:=by simpa using LL
   subst hk;obtain⟨n,rfl,_,hw⟩:=DataW.trod_int ht h;exact⟨[.int k' n],⟨n,rfl,hw⟩,⟨_,[],rfl,rfl,rfl⟩,by simp[Value.oneCell'],rfl⟩
  .cases LL
 | .str,t,fuel,cs,x,LL,h=>by
  unfold Pr at LL;split at LL
  .rename_i ht;obtain⟨s,rfl,_,hs⟩:=DataW.trod_string ht h;refine⟨[.str s.data.toList],⟨_,rfl,by
    have e:s.data.toList.length=s.size:=by rw[Cg];rfl
    rw[e];exact hs⟩,⟨_,[],rfl,?_,rfl⟩,by simp[Value.oneCell'],rfl⟩
   show Value.string s= .string ⟨⟨s.data.toList⟩⟩;congr 1
  .cases LL
 | .sl e,t,fuel,cs,x,LL,h=>by
  unfold Pr at LL;split at LL
  .rename_i z ht;simp only[Bq,wz,Cz] at LL;obtain⟨⟨hce,hpos⟩,aJs⟩:=LL;rcases DataW.trod_slice ht h with⟨rfl,_⟩|⟨a,len,cap,elems,rest,n,_,rfl,_,_,hl,hm,hlen,c,hsp,_⟩
   .exact⟨[.slnil],.inl rfl,⟨_,[],rfl,rfl,rfl⟩,by simp[Value.oneCell'],rfl⟩
   .have spot:0<cap->a.spot=none:=λhc=>by
     have ha:a.add 0=a:=by simp[Addr.add]
     rcases Jm len with h0|h0
     .obtain⟨Kt,LQ⟩:=hsp rfl;have:=LQ 0 Ab;rw[Ai (Ab:0<rest.length)] at this;have ő:(len+0)*P.cellsOf z=0:=by rw[h0];simp
      rw[ő,ha] at this;obtain⟨vs,hv,_⟩:=S6.1 this;exact QM hv Ab
     .have:=c 0 h0;rw[Ai (Ab:0<elems.length)] at this;rw[Mz,ha] at this;obtain⟨vs,hv,_⟩:=S6.1 this;exact QM hv Ab
    obtain⟨AD,oY,lE⟩:=Un (p:=λi (r:List Aa)=>Y9 e r/\r.length=Ty.size e/\C1 (Gr W) r a.block (a.off+i*Ty.size e)) len λi hi=>by
     have:=c i hi;rw[Ai (Ab:i<elems.length)] at this;obtain⟨vs,hv,hd⟩:=S6.1 this;obtain⟨r,m,g,d,l⟩:=cF e aJs hd;refine⟨r,m,l,C1.Hc λj y hj=>?_⟩;obtain⟨u,hu,q⟩:=g.get hj;obtain⟨_,hvl,v⟩:=World.cells?_some hv;have ZP:j<P.cellsOf z:=by have:=(Al.1 hu).1;omega
     have hc:=v j ZP;rw[hu] at hc;have pU:a=⟨a.block,a.off,none⟩:=by have:=spot Ab;cases a;simp_all
     have Nr:(a.add (i*P.cellsOf z)).add j=⟨a.block,a.off+i*Ty.size e+j,none⟩:=by rw[hce];generalize a.block=b at*;generalize a.off=o at*;subst pU;rw[Addr.add_lit,Addr.add_lit]
     rw[Nr] at hc;exact⟨u,Tt hc (d u (CC hu)),q⟩
    refine⟨[.sl (Ty.size e) AD],.inr ⟨AD,rfl,Ab,λr hr=>?_⟩,⟨_,[],rfl,⟨a,cap,by rw[oY],Ab,?_,E6.Hc λi r hr=>?_⟩,rfl⟩,by simp[Value.oneCell'],rfl⟩;.obtain⟨i,hi⟩:=CP hr;exact(lE i r hi).1
    .rcases Jm cap with h0|h0
     .exact .inr h0
     .exact .inl (spot h0)
    .exact⟨(lE i r hr).2.1,(lE i r hr).2.2⟩
  .cases LL
 | .st fs,t,fuel,cs,x,LL,h=>by
  unfold Pr at LL;split at LL
  .rename_i fields ht;simp only[Bq,wz] at LL;obtain⟨hct,hf⟩:=LL;obtain⟨xs,n,_,_,hcl,A,bM⟩:=DataW.trod_struct ht h;obtain⟨as,m,g,d,l⟩:=Uo fs (fields:=fields.toList) (off:=0) (cs:=cs) (n:=n) hf (λi f hi=>by
    have:=bM i f (by simpa using hi);have hlt:i<fields.size:=by have:=(Al.1 hi).1;simpa using this
    rw[Ai (Ab:i<xs.length)] at this;exact⟨_,this⟩) (by rw[hcl,hct];omega)
   have B:(cs.drop 0).take (Ty.MS fs)=cs:=by rw[Mx];exact AG (by rw[hcl,hct];exact Ag _)
   rw[B] at g d;exact⟨as,m,g,d,l⟩
  .cases LL
def Uo:∀(tys:List Ty) {fields:List Field} {off:Nat} {cs:List Value} {n:Nat},Ps P tys fields off=true->
  (∀(i:Nat) (f:Field),fields[i]?=some f->∃y,DataW.trod enc P W 0 (λ_=>true) true n f.type ((cs.drop f.offset).take (P.cellsOf f.type))=some y)->off+Ty.MS tys<=cs.length->
  ∃as,da tys as/\Bg (Gr W) as ((cs.drop off).take (Ty.MS tys))/\(∀u∈(cs.drop off).take (Ty.MS tys),u.oneCell'=true)/\as.length=Ty.MS tys
 |[],fields,off,cs,n,LL,h,hl=>by refine⟨[],rfl,?_,?_,rfl⟩<;>simp[Ty.MS,Bg]
 |ty::tys,fields,off,cs,n,LL,h,hl=>by
  cases fields with
  |nil=>simp[Ps] at LL
  |cons f fs=>
   simp only[Ps,Bq,wz] at LL;obtain⟨⟨⟨ho,hc⟩,ZH⟩,nc⟩:=LL;obtain⟨y,hy⟩:=h 0 f rfl;rw[ho,hc] at hy;obtain⟨as,m,l,k,j⟩:=cF ty ZH hy;simp only[Ty.MS] at hl;obtain⟨bs,e,d,c,b⟩:=Uo tys nc (λi g hi=>h (i+1) g (by simpa using hi)) Ab;have o:(cs.drop off).take (Ty.MS (ty::tys))=(cs.drop off).take (Ty.size ty)++(cs.drop (off+Ty.size ty)).take (Ty.MS tys):=by simp only[Ty.MS];rw[Ĳ,Eg]
   rw[o];refine⟨as++bs,⟨as,bs,rfl,m,e⟩,l.append d,λu hu=>?_,by simp[j,b,Ty.MS]⟩;rcases Ax.1 hu with hu|hu
   .exact k u hu
   .exact c u hu
end
def cG{ty:Ty}{t:TypeId}{v:Value}{base:Nat}(LL:Pr P ty t=true)(hv:Value.okWide P W .any base t v):if ty.aA3 then∃cs,v= .agg cs else v.cells=#[v]:=by
 cases ty with
 |st fs=>
  unfold Pr at LL;split at LL;.rename_i fields ht;unfold Value.okWide at hv;rw[ht] at hv;obtain⟨cs,e,_⟩:=hv;exact⟨cs,e⟩
  .cases LL
 |_=>
  unfold Pr at LL;split at LL;.rename_i ht;unfold Value.okWide at hv;rw[ht] at hv;simp only[Cell.okWide,ht,Cell.ok] at hv;cases v<;>first|rfl|exact hv.elim
  .cases LL
def ZX:∀{tys:List Ty} {ts:List TypeId} {vs:List Value} {ds:List (DataW H)} {ps:List MemPlace} {base:Nat},DataW.TrodAll enc P W 0 (λ_=>true) true ts vs ds ps->tys.length=ts.length->(∀(i:Nat) (ty:Ty) (t:TypeId),tys[i]?=some ty->ts[i]?=some t->Pr P ty t=true)->
  (∀(i:Nat) (t:TypeId) (v:Value),ts[i]?=some t->vs[i]?=some v->Value.okWide P W .any base t v)->∃as,VD tys as/\Bg (Gr W) as vs
 |[],[],[],[],_,_,_,_,_,_=>⟨[],rfl,rfl⟩
 |ty::tys,t::ts,v::vs,d::ds,ps,base,⟨p,q,⟨fuel,h1⟩,h2,_⟩,hl,LL,Ri=>by
  have ZH:=LL 0 ty t rfl rfl;obtain⟨cells,f,b,k,l⟩:=cF ty ZH h1;obtain⟨bs,j,g⟩:=ZX h2 (by simpa using hl) (λi ty t h h'=>LL (i+1) ty t (by simpa using h) (by simpa using h')) (λi t v h h'=>Ri (i+1) t v (by simpa using h) (by simpa using h'));have hc:=cG ZH (Ri 0 t v rfl rfl);have:∃a,qS ty a/\BO (Gr W) a v:=by
   by_cases HR:ty.aA3=true;.rw[Ae HR] at hc;obtain⟨us,rfl⟩:=hc;exact⟨.agg cells,(by unfold qS;rw[Ae HR];exact⟨cells,rfl,f⟩),us,rfl,by simpa[Value.cells] using b,by simpa[Value.cells] using k⟩
   .rw[Ac HR] at hc;rw[hc] at b;obtain⟨u,us,e,hu,hnil⟩:∃c GX,cells=c::GX/\BO (Gr W) c v/\GX=[]:=by
     cases cells with
     |nil=>cases b
     |cons c GX=>obtain⟨u,DK,e,h1,h2⟩:=b;simp at e;obtain⟨rfl,rfl⟩:=e;exact⟨c,GX,rfl,h1,by cases GX with|nil=>rfl|cons _ _=>obtain⟨_,_,e,_⟩:=h2;cases e⟩
    subst hnil;subst e;exact⟨u,(by unfold qS;rw[Ac HR];exact f),hu⟩
  obtain⟨a,ha,hr⟩:=this;exact⟨a::bs,⟨a,bs,rfl,ha,j⟩,⟨v,vs,rfl,hr,g⟩⟩
 |[],_::_,_,_,_,_,_,hl,_,_=>by simp at hl
 |_::_,[],_,_,_,_,_,hl,_,_=>by simp at hl
 |[],[],_::_,_,_,_,h,_,_,_=>by cases h
 |[],[],[],_::_,_,_,h,_,_,_=>by cases h
 |_::_,_::_,[],_,_,_,h,_,_,_=>by cases h
 |_::_,_::_,_::_,[],_,_,h,_,_,_=>by cases h
def Xf{W':World}{may:MemPlace->Prop}(h1:W'.os=W.os)(h2:W'.output=W.output)(hb:∀i,i<W.heap.size->W'.heap[i]?=W.heap[i]?):W.keptBut W' may:=by
 refine⟨h1,h2,λi hi=>?_⟩;rw[hb i hi];split;.rename_i c t fr c' t' bg d b;rw[d] at b;cases b;exact⟨rfl,rfl,rfl,λ_ _=>rfl⟩
 .rename_i d b;rw[d] at b;cases b;exact .inr ⟨rfl,rfl⟩
 .rfl
def QN(hl:laidOutB P=true){W':World}(hb:RowKit.Below W.heap.size W W'):∀{ts:List TypeId} {vs:List Value} {ds:List (DataW H)} {ps:List MemPlace},(∀t∈ts,P.readableRec t=true/\t<P.types.size)->
  DataW.TrodAll enc P W 0 (λ_=>true) true ts vs ds ps->(∀x∈ps,x.block<W.heap.size)->DataW.TrodAll enc P W' 0 (λb=>decide (b<W.heap.size)) true ts vs ds ps
 |[],[],[],ps,_,h,_=>h
 |t::ts,v::vs,d::ds,ps,bR,⟨p,q,h1,h2,e⟩,hlt=>by subst e;have ht:=bR t AH;exact⟨p,q,RowKit.Below.trod hl ht.1 ht.2 h1 hb λx hx=>hlt x (CD _ hx),QN hl hb (λt' h'=>bR t' (by simp[h'])) h2 λx hx=>hlt x (BT _ hx),rfl⟩
 |[],[],_::_,_,_,h,_=>by cases h
 |[],_::_,_,_,_,h,_=>by cases h
 |_::_,[],_,_,_,h,_=>by cases h
 |_::_,_::_,[],_,_,h,_=>by cases h
end
def cH{C:FW}(hm:C.P.follows .mixedOrders=true)(og:∀g cs,C.GZ g=some cs->cs.all Aa.MI=true)(Ő:cE C)(hl:laidOutB C.P=true){f:FuncId}{fn:Func}{rt:TypeId}(k:f<=99999)(c:fn.resultTypes=#[rt])(l:C.P.underlying rt=some .bool){tys:List Ty}(hlen:tys.length=fn.params.size)
  (aJu:∀(i:Nat) (ty:Ty) (t:TypeId),tys[i]?=some ty->fn.params[i]?=some t->Pr C.P ty t=true) (aEo:∀t∈fn.params.toList,C.P.readableRec t=true/\t<C.P.types.size)
  (Ji:∀as,VD tys as->Ev C f as [] λr _=>r= .bool true) {s:ChangeSpec} (ł:s.vars=[])
  {H:Type} (yf:∀ds:List (DataW H),ds.length=fn.params.size->s.fn H ds={results:=[.lit (.bool true)],args:=ds})
  {enc:TypeId×Value->H} {W:World} {base:Nat} {args:Array Value} {ds gs:List (DataW H)} {before:List MemPlace} (hg:∀g cs,C.GZ g=some cs->C1 (Gr W) cs g 0)
  (Ri:∀(j:Nat) (t:TypeId) (v:Value),fn.params[j]?=some t->args[j]?=some v->Value.okWide C.P W .any base t v) (hW:DataW.Whole enc C.P fn.params.toList s.vars false W args.toList ds gs before):
  Calls C.P f args W λe W'=>∃v,e= .returned v/\s.post enc C.P fn false true false false W args v W':=by
 have n:=hW;have hlt:=hW.lt;obtain⟨p,q,u,o,rfl,hfz,xd⟩:=hW;rw[ł] at o;have m:gs=[]/\q=[]:=by
  cases gs with
  |nil=>exact⟨rfl,o⟩
  |cons _ _=>cases o
 obtain⟨rfl,rfl⟩:=m;obtain⟨as,Za,OV⟩:=ZX u (by simpa using hlen) (λi ty t h h'=>aJu i ty t h (by simpa using h')) (λi t v h h'=>Ri i t v (by simpa using h) (by simpa using h'));have qO:ds.length=fn.params.size:=by
  have key:∀{ts:List TypeId} {vs:List Value} {ds:List (DataW H)} {ps:List MemPlace},DataW.TrodAll enc C.P W 0 (λ_=>true) true ts vs ds ps->ds.length=ts.length:=by
   intro ts;induction ts with
   |nil=>intro vs ds ps h;cases vs<;>cases ds<;>first|rfl|cases h
   |cons t ts ih=>
    intro vs ds ps h;cases vs with
    |nil=>cases h
    |cons v vs=>
     cases ds with
     |nil=>cases h
     |cons d ds=>obtain⟨_,_,_,h2,_⟩:=h;simp[ih h2]
  simpa using key u
 have Vz:=(Ji as Za).calls hm og Ő (oh W) hg OV;rw[show Ez f=f from Ae k] at Vz;refine Vz.mono λe W' he=>?_;cases e with
 |returned v=>
  obtain⟨r,h',y,rfl,hi,Kf,hv⟩:=he;have hvb:v= .bool true:=hv;subst hvb;have hold:∀i,i<W.heap.size->W'.heap[i]?=W.heap[i]?:=λi my=>(Kf.N3 i my λid h0=>by cases h0).1;have b:RowKit.Below W.heap.size W W':=⟨Kf.os,Kf.tape,Kf.output,Kf.size,hold⟩;refine⟨_,rfl,ds,[],p++[],[],p,[],n,?_,?_,?_,Xf Kf.os Kf.output hold,λh0=>by cases h0⟩;.rw[BE,yf ds qO,c];exact⟨[],[],RowKit.shut_bool l true,rfl,rfl⟩
  .rw[BE,yf ds qO];exact QN hl b aEo u λx hx=>hlt x (by simpa using hx)
  .rw[BE,yf ds qO,ł];rfl
 |_=>exact he.elim
end Go.Am
end
