/- Lemmas -/
import Derived.Scope
import Derived.Test.YtbkijlifflhdiaaGreatDoorX6
import Derived.Carry
import Derived.ReadAgain
set_option linter.all false
section
namespace Go.Am
open Go
def kj(x y:D0):Prop:=
 match x with
 | .box ver cs ow=>∃Fw Gd Mz,y= .box Fw Gd Mz/\ver<=Fw/\(Fw=ver->Gd=cs/\Mz=ow)
 | .EI t o=>y= .EI t o\/y= .undef
 |x=>y=x
def kj.refl(x:D0):kj x x:=by
 cases x with
 |box ver cs ow=>exact⟨ver,cs,ow,rfl,Af _,λ_=>⟨rfl,rfl⟩⟩
 |EI t o=>exact .inl rfl
 |_=>rfl
def kj.trans{x y z:D0}(h:kj x y)(k:kj y z):kj x z:=by
 cases x with
 |box ver cs ow=>obtain⟨b,m,l,rfl,h1,h2⟩:=h;obtain⟨v2,j,c,rfl,f,d⟩:=k;refine⟨v2,j,c,rfl,Bm h1 f,λe=>?_⟩;have i:b=ver:=Ab;have g:v2=b:=Ab;obtain⟨rfl,rfl⟩:=d g;exact h2 i
 |EI t o=>
  rcases h with rfl|rfl
  .exact k
  .exact .inr k
 |_=>rw[show y=_ from h] at k;exact k
def Fl(W:List Nat)(σ O:Bx):Prop:=O.length=σ.length/\∀s,s∉W->kj (σ.at s) (O.at s)
def Fl.refl(W:List Nat)(σ:Bx):Fl W σ σ:=⟨rfl,λ_ _=> .refl _⟩
def Fl.trans{W:List Nat}{σ O J:Bx}(h:Fl W σ O)(k:Fl W O J):Fl W σ J:=⟨k.1.trans h.1,λs hs=>(h.2 s hs).trans (k.2 s hs)⟩
def Fl.mono{W W':List Nat}{σ O:Bx}(h:Fl W σ O)(hw:∀s∈W,s∈W'):Fl W' σ O:=⟨h.1,λs hs=>h.2 s λhm=>hs (hw s hm)⟩
def Fl.set{W:List Nat}{σ:Bx}{s:Nat}{x:D0}(hs:s∈W):Fl W σ (σ.set s x):=
 ⟨Aw,λt ht=>by rw[Bx.Fk λe=>ht (by rw[<-e];exact hs)];exact .refl _⟩
def Fl.put{W:List Nat}{σ:Bx}{d:Option Nat}{x:D0}(hs:∀s∈d.toList,s∈W):Fl W σ (σ.put d x):=by
 cases d with
 |none=>exact .refl _ _
 |some d=>exact .set (hs d Aw)
section
variable{C:FC}{fid:FuncId}{ops:List Oper}{run:IT->Ah->Option Jb}{σ σ':Bx}{h h':Ah}{W:List Nat}
def Fl.drop(σ:Bx)(ds:List Nat):Fl W σ (σ.drop ds):=by
 refine⟨Bx.length_drop σ ds,λs _=>?_⟩;rw[Bx.PZ];cases hx:σ.at s with
 |EI t o=>
  simp only
  split;.exact .inr rfl
  .exact .inl rfl
 |_=>exact .refl _
def dD{r:Ei}{ds:List Nat}(hd:r.L4 C run (σ.drop ds) h σ' h')(hw:∀s∈r.wf,s∈W):Fl W σ σ':=by obtain⟨ws,rfl,h1,_⟩:=Wg hd;refine(Fl.drop σ ds).trans ⟨Bx.Iy ws _,λs hs=>?_⟩;rw[Bx.F0 ws _ s λp hp e=>hs (hw s (by rw[<-e];exact h1 p hp))];exact .refl _
def Ok{x:Operand}{d:Nat}{take:Bool}{r:Ei}(h:Ji C σ x d take=some r):∀s∈r.wf,s=d\/(take=true/\x= .tmp s):=by
 unfold Ji at h;split at h;.cases h;simp[Ei.wf]
 .cases h;simp[Ei.wf]
 .split at h
  .rename_i ht;cases h;intro s hs;simp only[Ei.wf,BV,Ak] at hs;rcases hs with hs|hs
   .revert hs;generalize b:PJ _ _=c;intro hs;unfold PJ at b;split at b;.subst b;simp at hs;exact .inr ⟨ht,by rw[hs]⟩
    .subst b;simp at hs
   .exact .inl (by simpa using hs)
  .cases hc:Hl _ with
   |none=>rw[hc] at h;cases h
   |some sl=>rw[hc] at h;cases h;simp[Ei.wf]
 .cases hc:Hl _ with
  |none=>rw[hc] at h;cases h
  |some sl=>rw[hc] at h;cases h;simp[Ei.wf]
 .cases h
def P9{x:Operand}{p:Nat×Aa}(h:CR σ x=some p):x= .tmp p.1:=by
 cases x with
 |tmp t=>
  simp only[CR] at h;cases hx:σ.at t with
  |BE v=>rw[hx] at h;cases h;rfl
  |_=>rw[hx] at h;cases h
 |_=>cases h
def Zq{t:TypeId}{v:Aa}{d:Nat}{r:Ei}(h:RJ C fid t v d=some r):r.wf=[d]:=by
 unfold RJ at h;split at h;.cases h
 .split at h;.cases h
  .split at h<;>(cases h;rfl)
def LI:∀{xs:List Operand} {vs:List Aa} {fz:List (Nat×List Aa)},Fu C σ xs=some (vs,fz)->∀p∈fz,p.1∈IM xs
 |[],vs,fz,hc=>by cases hc;simp
 |x::xs,vs,fz,hc=>by
  unfold Fu at hc;split at hc;.cases hc
  .rename_i GY c b;have ih:=LI b;have up:∀p∈c,p.1∈IM (x::xs):=λp hp=>by obtain⟨y,hy,he⟩:=B1.1 (ih p hp);exact B1.2 ⟨y,Vh _ hy,he⟩
   split at hc
   .rename_i s ver cs ow hs;split at hc;.cases hc
    .cases hc;intro p hp;rcases Az.1 hp with rfl|hp
     .simp[IM]
     .exact up p hp
   .rename_i sl _ hs;cases hv:sl.Gt with
    |none=>rw[hv] at hc;cases hc
    |some u=>rw[hv] at hc;cases hc;exact up
   .cases hc
def iV{o:Oper}{r:Ei}(hc:Fv C fid ops σ o=some r)(hd:r.L4 C run (σ.drop r.news) h σ' h'):Fl (D6 ops o) σ σ':=by
 have P8:∀s∈o.dst.toList,s∈D6 ops o:=λs hs=>Cc _ hs
 have hwf:(∀s∈r.wf,s∈D6 ops o)->Fl (D6 ops o) σ σ':=dD hd
 have Vj:r.wf=o.dst.toList->Fl (D6 ops o) σ σ':=λe=>hwf (by rw[e];exact P8)
 have RV:∀{m x},Q3 m o.dst x=some r->Fl (D6 ops o) σ σ':=λ{m x} he=>by
  obtain⟨_,_,rfl⟩:=Gy he
  exact Vj rfl
 have GF:∀{p x},Q2 p o.dst x=some r->Fl (D6 ops o) σ σ':=λ{p x} he=>by
  obtain⟨args,_,rfl⟩:=Dt he
  exact Vj (by simp[Ei.wf])
 unfold Fv at hc
 split at hc
 .rename_i x ho
  split at hc
  .rename_i d Fh
   refine hwf λs hs=>?_
   rcases Ok hc s hs with rfl|⟨ht,rfl⟩
   .exact P8 s (by rw[Fh];simp)
   .refine By _ ?_
    simp[ho,Fh,ht]
  .cases hc
 .rename_i x ho
  split at hc
  .rename_i d Fh
   refine hwf λs hs=>?_
   rcases Ok hc s hs with rfl|⟨ht,rfl⟩
   .exact P8 s (by rw[Fh];simp)
   .refine By _ ?_
    simp[ho]
  .cases hc
 .rename_i c x y ho
  split at hc
  .rename_i d _ Fh
   refine hwf λs hs=>?_
   rcases Ok hc s hs with rfl|⟨ht,rfl⟩
   .exact P8 s (by rw[Fh];simp)
   .cases ht
  .rename_i d _ Fh
   refine hwf λs hs=>?_
   rcases Ok hc s hs with rfl|⟨ht,rfl⟩
   .exact P8 s (by rw[Fh];simp)
   .cases ht
  .exact GF hc
 .split at hc
  .rename_i d z Fh hz
   split at hc
   .split at hc
    .cases hc;exact Vj (by rw[Fh];rfl)
    .cases hc
   .exact Vj (by rw[Zq hc,Fh];rfl)
  .cases hc
 .split at hc
  .rename_i d v Fh hz
   exact Vj (by rw[Zq hc,Fh];rfl)
  .cases hc
 .split at hc
  .split at hc
   .exact GF hc
   .cases hc
  .cases hc
 .split at hc
  .split at hc
   .split at hc
    .split at hc
     .cases hc;exact Vj (by simp[Ei.wf])
     .cases ha:Be C σ _ with
      |none=>rw[ha] at hc;cases hc
      |some args=>rw[ha] at hc;cases hc;exact Vj (by simp[Ei.wf])
    .cases hc
   .cases hc
  .cases hc
 .split at hc
  .rename_i d Fh
   unfold J7 at hc
   split at hc
   .cases hc;exact Vj (by rw[Fh];rfl)
   .rename_i s off ver cs ow ht ha
    split at hc
    .simp only at hc
     split at hc
     .cases hc
      rw[MH Aw] at hd
      obtain⟨rfl,rfl⟩:=hd
      have hs:σ.at s= .box ver cs ow:=by
       unfold Ft at ha
       split at ha
       .rename_i hs;cases ha;exact Gg hs
       .split at ha
        .rename_i hb;cases ha;exact hb
        .cases ha
       .exact absurd ha (by cases hv:D0.Gt _<;>simp)
       .cases ha
      refine⟨by simp[Bx.drop,Bx.DR],λt b=>?_⟩
      have f:t≠d:=λe=>b (P8 t (by rw[Fh,e];simp))
      have yU:s<σ.length:=Bx.Nu (by rw[hs];simp)
      show kj (σ.at t) (Bx.at ((σ.set s _).set d _) t)
      rw[Bx.Fk (λe=>f e.symm)]
      by_cases Xl:s=t
      .subst Xl
       rw[Bx.EP yU,hs]
       exact⟨_,_,_,rfl,EX _,λe=>absurd e Ab⟩
      .rw[Bx.Fk Xl];exact .refl _
     .cases hc;exact Vj (by rw[Fh];rfl)
    .cases hc
   .split at hc
    .cases hc;exact Vj (by rw[Fh];rfl)
    .cases hc
   .cases hc
  .cases hc
 .rename_i t x y ho
  split at hc
  .rename_i Fh
   unfold Ic at hc
   split at hc
   .cases hc;exact hwf (by simp[Ei.wf])
   .rename_i m g s off ver cs ow v J3 bL ha hv
    split at hc
    .cases hc
     obtain⟨_,rfl,rfl⟩:=hd
     have hs:σ.at s= .box ver cs ow:=by
      unfold Ft at ha
      split at ha
      .rename_i hs;cases ha;exact Gg hs
      .split at ha
       .rename_i hb;cases ha;exact hb
       .cases ha
      .exact absurd ha (by cases hv:D0.Gt _<;>simp)
      .cases ha
     have Vs:∀(D:Option (Nat×Aa)),(∀p,D=some p->p.1∈D6 ops o/\p.1≠s)->∀X:List Aa×List Nat,Fl (D6 ops o) σ ((σ.Da D).set s (.box (ver+1) X.1 X.2)):=by
      intro D j X
      refine⟨by cases D<;>simp[Bx.Da],λt b=>?_⟩
      have hlen:s<(σ.Da D).length:=by
       have:s<σ.length:=Bx.Nu (by rw[hs];simp)
       cases D<;>simpa[Bx.Da] using this
      by_cases Xl:s=t
      .subst Xl
       rw[Bx.EP hlen,hs]
       exact⟨_,_,_,rfl,EX _,λe=>absurd e Ab⟩
      .rw[Bx.Fk Xl]
       cases D with
       |none=>exact .refl _
       |some p=>
        obtain⟨i,k⟩:=j p rfl
        simp only[Bx.Da]
        rw[Bx.Fk (λe=>b (by rw[<-e];exact i))]
        exact .refl _
     refine Vs _ (λp hp=>?_) (_,_)
     split at hp
     .have hy:=P9 hp
      subst hy
      refine⟨By _ (by simp[ho]),λe=>?_⟩
      simp only[CR] at hp
      rw[e,hs] at hp
      cases hp
     .cases hp
    .cases hc
   .cases hc
  .cases hc
 .split at hc
  .rename_i Fh _ _
   cases hc;exact Vj (by rw[Fh];rfl)
  .rename_i Fh _ _
   cases hc;exact Vj (by rw[Fh];rfl)
  .exact GF hc
 .split at hc
  .exact GF hc
  .cases hc
 .exact GF hc
 .split at hc
  .cases hv:Ex C σ _ with
   |none=>rw[hv] at hc;cases hc
   |some v=>rw[hv] at hc;cases hc;exact Vj rfl
  .split at hc
   .cases hv:Ex C σ _ with
    |none=>rw[hv] at hc;cases hc
    |some v=>rw[hv] at hc;cases hc;exact Vj rfl
   .exact GF hc
  .exact GF hc
  .cases hc
 .rename_i fn first captured ho
  split at hc
  .rename_i d as bs fz Fh ha hb
   cases hc
   refine hwf λs hs=>?_
   simp only[Ei.wf,Az] at hs
   rcases hs with rfl|hs
   .exact P8 s (by rw[Fh];simp)
   .obtain⟨p,hp,rfl⟩:=AZ.1 hs
    refine By _ ?_
    simp only[ho]
    exact LI hb p hp
  .cases hc
 .cases hc;exact Vj rfl
 .split at hc
  .split at hc
   .cases hc;exact Vj rfl
   .cases hc
  .cases hc
 .split at hc
  .split at hc
   .cases hc;exact hwf (by simp[Ei.wf])
   .cases hc;exact hwf (by simp[Ei.wf])
   .cases hc
  .cases hc
 .split at hc
  .split at hc
   .cases hc;exact hwf (by simp[Ei.wf])
   .cases hc;exact hwf (by simp[Ei.wf])
   .cases hc
  .cases hc
 .split at hc
  .split at hc
   .cases hc;exact Vj rfl
   .cases hc;exact Vj rfl
   .cases hc
  .cases hc
 .split at hc
  .split at hc
   .exact RV hc
   .cases hc
  .cases hc
 .split at hc
  .cases hc
  .exact RV hc
  .cases hc
 .split at hc
  .split at hc<;>first|exact RV hc|cases hc
  .cases hc
 .split at hc
  .rename_i Fh
   exact RV (by rw[Fh];exact hc)
  .cases hc
 .split at hc
  .exact GF hc
  .split at hc
   .split at hc
    .exact RV hc
    .exact GF hc
   .cases hc
  .cases hc
 .split at hc
  .rename_i off g d hf Fh
   split at hc
   .cases hc;exact Vj (by rw[Fh];rfl)
   .cases hc;exact Vj (by rw[Fh];rfl)
   .exact GF (by rw[Fh];exact hc)
  .cases hc
 .split at hc
  .exact GF hc
  .cases hc
 .split at hc
  .split at hc
   .exact GF hc
   .cases hc
  .split at hc
   .split at hc
    .cases hc
    .exact GF hc
   .cases hc
  .cases hc
 .split at hc
  .exact GF hc
  .split at hc
   .exact GF hc
   .cases hc
  .cases hc
 .exact GF hc
 .rename_i c ho
  unfold O3 at hc
  split at hc
  .split at hc
   .split at hc
    .exact GF hc
    .exact GF hc
    .cases hc
   .cases hc
  .rename_i hcl
   split at hc
   .rename_i t t' s x h0 h1 El
    have Vs:∀p,CR σ s=some p->p.1∈D6 ops o:=λp hp=>by
     have:=P9 hp
     subst this
     refine By _ ?_
     simp only[ho,hcl,El]
     simp[IM]
    split at hc
    all_goals first
     |(cases hc;done)
     | (split at hc
        . split at hc
          . split at hc
            . split at hc
              . split at hc
                . cases hc
                  refine hwf fun q hq => ?_
                  simp only [Ei.wf, Ak] at hq
                  rcases hq with hq | hq
                  . exact P8 q hq
                  . cases dE : CR σ s with
                    | none => rw [dE] at hq; simp at hq
                    | some p => rw [dE] at hq; simp at hq; rw [hq]; exact Vs p dE
                . split at hc
                  . cases hc
                    refine hwf fun q hq => ?_
                    simp only [Ei.wf, Ak] at hq
                    rcases hq with hq | hq
                    . exact P8 q hq
                    . cases dE : CR σ s with
                      | none => rw [dE] at hq; simp at hq
                      | some p => rw [dE] at hq; simp at hq; rw [hq]; exact Vs p dE
                  . cases hc
                    refine hwf fun q hq => ?_
                    simp only [Ei.wf, Ak] at hq
                    rcases hq with hq | hq
                    . exact P8 q hq
                    . cases dE : CR σ s with
                      | none => rw [dE] at hq; simp at hq
                      | some p => rw [dE] at hq; simp at hq; rw [hq]; exact Vs p dE
              . split at hc
                . cases hc
                  refine hwf fun q hq => P8 q (by simpa [Ei.wf] using hq)
                . cases hc
            . cases hc
          . cases hc
        . cases hc)
   .cases hc
  .split at hc
   .split at hc
    all_goals first
     |(cases hc;done)
     | (split at hc
        . exact RV hc
        . cases hc)
   .cases hc
  .split at hc
   .split at hc
    .split at hc
     .exact RV hc
     .cases hc
    .cases hc
   .cases hc
  .split at hc
   .exact GF hc
   .cases hc
  .split at hc
   .exact GF hc
   .cases hc
  .split at hc
   .split at hc
    .split at hc
     .exact RV hc
     .cases hc
    .cases hc
   split at hc
   .cases ha:Be C σ c.args.toList with
    |none=>rw[ha] at hc;cases hc
    |some args=>
     rw[ha] at hc
     simp only[BU,BB] at hc
     split at hc<;>(cases hc;exact Vj rfl)
   .cases hc
  .split at hc
   .cases hc;exact Vj rfl
   .cases hc
  .cases hc
 .cases hc
end
end Go.Am
end
section
namespace Go.Am
open Go
def sN:Fs->Exit
 | .normal=> .normal
 | .exit i=> .exit i
 | .ret=> .ret
def MS:∀{l m:List Nat},l.Nodup->(∀x∈l,x∈m)->l.length<=m.length
 |[],_,_,_=>A7 _
 |x::l,m,hn,hs=>by have hx:=hs x Aw;have h1:=MS (l:=l) (m:=m.erase x) (BL.1 hn).2 λy hy=>(List.mem_erase_of_ne λe=>(BL.1 hn).1 (by rw[<-e];exact hy)).2 (hs y (by simp[hy]));rw[List.length_erase_of_mem hx] at h1;have:0<m.length:=List.length_pos_of_mem hx;simp;omega
def Xx{P:Program}{c:Code}{Q:Exit->Act->World->Prop}(T:Nat->Act->World->Prop)(round:∀n a w,T n a w->c.wp P (Exit.then (λa' w'=>∃m,m<n/\T m a' w') Q) a w)(n:Nat)(a:Act)(w:World)(h0:T n a w):(Code.loop c).wp P Q a w:=by
 intro b k cs;have key:∀n a w,T n a w->∃e a' w',Q e a' w'/\Arrives P (lone (b.at a (.code c:: .inLoop c::k)) cs w) b k cs e a' w':=by
  intro n;induction n using Nat.strongRecOn with
  |_ n ih=>
   intro a w g;obtain⟨e,a1,w1,hq,zK⟩:=round n a w g b (.inLoop c::k) cs;by_cases he:e= .normal;.subst he;obtain⟨m,hm,d⟩:=hq;obtain⟨i,a2,w2,f,r2⟩:=ih m hm a1 w1 d;exact⟨i,a2,w2,f,.of_steps (Go.Steps.trans zK (.one step_inLoop)) r2⟩
   .exact⟨e,a1,w1,by cases e<;>first|exact hq|exact absurd rfl he,.pass (x:= .inLoop c) rfl (λ_ _=> .inl he) zK⟩
 obtain⟨e,a',w',hq,zK⟩:=key n a w h0;exact⟨e,a',w',hq,.of_steps (.one step_loop) zK⟩
section
variable{C:FC}{U0 U:Gh}{w0 w:World}{Z:Nat->Nat}{σ:Bx}{h:Ah}{a:Act}{fid:FuncId}{run:IT->Ah->Option Jb}
def Xy{ops:List Oper}{o:Oper}{K:Bx->IT}{R:Jb}(hr:IT.step (B2 C) run (Q4 C fid ops σ o K) h=some R):
  ∃d,(d=σ\/∃s b,s∈EU ops o/\σ.at s= .val (.bool b)/\d=σ.set s (.Nj b))/\
   ((Hy ops d o= .LY true/\IT.step (B2 C) run (qT C fid ops d o K) h=some R)\/(Hy ops d o= .LY false/\IT.step (B2 C) run (K (d.put o.dst .skip)) h=some R)):=by
 unfold Q4 at hr;split at hr;.rename_i hg;exact⟨σ,.inl rfl,.inl ⟨hg,hr⟩⟩
 .rename_i hg;exact⟨σ,.inl rfl,.inr ⟨hg,hr⟩⟩
 .rename_i s v want hg;have qp:s∈EU ops o/\σ.at s= .val v/\∀b,Hy ops (σ.set s (.Nj b)) o= .LY (b==want):=by
   unfold Hy at hg⊢;unfold EU;cases ho:o.guard with
   |none=>rw[ho] at hg;cases hg
   |some g=>
    obtain⟨j,want'⟩:=g;rw[ho] at hg;simp only at hg⊢;cases hd:(ops[j]?).bind (·.dst) with
    |none=>rw[hd] at hg;cases hg
    |some s'=>
     rw[hd] at hg;simp only at hg⊢;cases hx:σ.at s' with
     |val v'=>rw[hx] at hg;cases hg;refine⟨Aw,hx,λb=>?_⟩;rw[Bx.EP (Bx.Nu (by rw[hx];simp))]
     |Nj c=>rw[hx] at hg;cases hg
     |skip=>rw[hx] at hg;cases hg
     |_=>rw[hx] at hg;cases hg
  obtain⟨g1,g2,g3⟩:=qp;simp only[IT.step] at hr;split at hr
  .refine⟨σ.set s (.Nj true),.inr ⟨s,true,g1,g2,rfl⟩,?_⟩;rw[g3];cases want with
   |true=>exact .inl ⟨rfl,hr⟩
   |false=>exact .inr ⟨rfl,hr⟩
  .refine⟨σ.set s (.Nj false),.inr ⟨s,false,g1,g2,rfl⟩,?_⟩;rw[g3];cases want with
   |true=>exact .inr ⟨rfl,hr⟩
   |false=>exact .inl ⟨rfl,hr⟩
  .cases hr
 .cases hr
def nH(a:Act){ops:List Oper}{o:Oper}:(∀p∈PL C σ o,∃ver ow,σ.at p.1= .box ver p.2 ow)/\((PL C σ o).map (·.1)).Nodup/\∀p∈PL C σ o,p.1∈D6 ops o:=by
 have no:∀l:List (Nat×List Aa),l=[]->(∀p∈l,∃ver ow,σ.at p.1= .box ver p.2 ow)/\(l.map (·.1)).Nodup/\∀p∈l,p.1∈D6 ops o:=by rintro l rfl;exact⟨(λp hp=>nomatch hp),K0,λp hp=>nomatch hp⟩
 cases ho:o.op with
 |call c=>
  cases hc:c.callee with
  |value g=>
   cases g with
   |func f=>
    cases hf:Q5 f with
    |true=>
     cases hx:Fu C σ c.args.toList with
     |some q=>
      obtain⟨vs,fz⟩:=q;have e:PL C σ o=fz:=by unfold PL;simp only[ho,hc,hf,hx,BH]
      rw[e];obtain⟨h1,h2,_⟩:=LH (a:=a) hx;refine⟨h1,h2,λp hp=>By _ ?_⟩;simp only[ho,hc,hf,BH];exact LI hx p hp
     |none=>exact no _ (by unfold PL;simp only[ho,hc,hf,hx,BH])
    |false=>exact no _ (by unfold PL;simp[ho,hc,hf])
   |_=>exact no _ (by unfold PL;simp only[ho,hc])
  |_=>exact no _ (by unfold PL;simp only[ho,hc])
 |_=>exact no _ (by unfold PL;simp only[ho])
def Fl.DR{W:List Nat}:∀{l:List (Nat×D0)} {σ:Bx},(∀p∈l,p.1∈W)->Fl W σ (σ.DR l)
 |[],σ,_=> .refl _ _
 |(s,x)::l,σ,h=>(Fl.set (h (s,x) Aw)).trans (Fl.DR λp hp=>h p (by simp[hp]))
def sP{ops:List Oper}{o:Oper}{W:List Nat}(hr:CH C U0 w0 U Z σ h a w)(hw:∀s∈D6 ops o,s∈W):∃b,CH C U0 w0 b Z (oo C σ o) h a w/\Fl W σ (oo C σ o):=by
 obtain⟨h1,h2,c⟩:=nH (C:=C) (σ:=σ) a (ops:=ops) (o:=o);obtain⟨b,_,GH,_⟩:=(hr.drop ((PL C σ o).map (·.1))).Rc (fz:=PL C σ o) (λp hp=>by obtain⟨ver,ow,hs⟩:=h1 p hp;exact⟨ver,ow,by rw[Bx.PZ,hs]⟩) h2
 refine⟨b,GH,(Fl.drop σ _).trans (Fl.DR λp hp=>?_)⟩;obtain⟨q,hq,rfl⟩:=AZ.1 hp;exact hw _ (c q hq)
def iW(l:EE C run){ops:Array Oper}{Q:Exit->Act->World->Prop}{W:List Nat}{K:Bx->IT}{R:Jb}:∀(rest:List Oper) (k:Nat) (U:Gh) (Z:Nat->Nat) (σ:Bx) (h:Ah) (a:Act) (w:World),
  ops.toList.drop k=rest->(∀o∈rest,(∀s∈D6 ops.toList o,s∈W)/\∀s∈EU ops.toList o,s∈W)->IT.step (B2 C) run (iG C fid ops.toList rest σ K) h=some R->CH C U0 w0 U Z σ h a w->
  (∀g f σ' h' a' w',IT.step (B2 C) run (K σ') h'=some R->Fl W σ σ'->CH C U0 w0 g f σ' h' a' w'->Q .normal a' w')->wpOps C.P ops Q (List.range' k rest.length) a w
 |[],k,U,Z,σ,h,a,w,_,_,AE,hr,hQ=>by simp only[BK,List.range'_zero,wpOps];exact hQ U Z σ h a w AE (.refl _ _) hr
 |o::rest,k,U,Z,σ,h,a,w,hk,hW,AE,hr,hQ=>by
  have ho:ops[k]?=some o:=by
   have:ops.toList[k]?=some o:=by have h0:=Ca (·[0]?) hk;simpa[Cm] using h0
   simpa using this
  have qu:ops.toList.drop (k+1)=rest:=by have h0:=Ca (List.drop 1) hk;simpa[DL] using h0
  obtain⟨kq,sG⟩:=hW o Aw;simp only[AU,List.range'_succ,wpOps,ho];obtain⟨U1,e,c⟩:=sP hr kq;obtain⟨i,j,HL⟩:=Xy AE;have I7:CH C U0 w0 U1 Z i h a w/\Fl W σ i:=by
   rcases j with rfl|⟨s,b,g1,g2,rfl⟩
   .exact⟨e,c⟩
   .have h0:=e.fr.Hd s;rw[g2] at h0;exact⟨e.YY h0,c.trans (.set (sG s g1))⟩
  obtain⟨I7,Ò⟩:=I7;have next:∀g f σ' h' a' w',IT.step (B2 C) run (iG C fid ops.toList rest σ' K) h'=some R->Fl W σ σ'->CH C U0 w0 g f σ' h' a' w'->wpOps C.P ops Q (List.range' (k+1) rest.length) a' w':=λg f σ' h' a' w' TZ mX GH=>iW l rest (k+1) g f σ' h' a' w' qu (λo ho=>hW o (by simp[ho])) TZ GH λn m d h2 a2 w2 Lj aBX Ó=>hQ n m d h2 a2 w2 Lj (mX.trans aBX) Ó
  rcases HL with⟨hg,HM⟩|⟨hg,HM⟩
  .rw[Ad (Kq I7 hg)];unfold qT at HM;split at HM;.rename_i r hc;obtain⟨d,h2,hd,RW⟩:=VX HM;exact .inl (sF l hc hd I7 λg f a' w' GH=>next g f d h2 a' w' RW (Ò.trans ((iV hc hd).mono kq)) GH)
   .cases HM
  .rw[Ac (by rw[Kq I7 hg];simp)];exact next U1 Z _ h _ w HM (Ò.trans (.put λs hs=>kq s (Cc _ hs))) (I7.put λ_ _=>rfl)
def dF{W:List Nat}{d:Option Nat}{σ σ':Bx}(h:Lk d σ σ')(hd:∀s∈d.toList,s∈W):Fl W σ σ':=by
 unfold Lk at h;cases d with
 |none=>simp only at h;rw[h];exact .refl _ _
 |some d=>
  simp only at h;split at h;.obtain⟨b,_,rfl⟩:=h;exact .set (hd d Aw)
  .rw[h];exact .refl _ _
def dG{ops:List Oper}{an:List Nat}{W:List Nat}(hW:∀o∈ops,∀s∈D6 ops o,s∈W){fl:List Jc}{L:List St}{σ σf:Bx}{h hf:Ah}(hs:Steps C fid ops run an fl L σ h σf hf):Fl W σ σf:=by
 induction hs with
 |nil=>exact .refl _ _
 |cons h1 _ _ ih=>
  refine Fl.trans ?_ ih;obtain⟨o,ho,⟨_,_,_,rfl,rfl⟩|⟨r,b,hg,hc,_,hd,_,ha⟩⟩:=h1;.exact .put λs hs=>hW o (Cb ho) s (Cc _ hs)
  .refine((iV hc hd).mono λs hs=>hW o (Cb ho) s hs).trans (dF ha λs hs=>?_);split at hs;.exact hW o (Cb ho) s (Cc _ hs)
   .simp at hs
def T0(hm:C.P.follows .mixedOrders=true)(d:EE C run){id:Nat}{ops:Array Oper}{draw:Bool}{Q:Exit->Act->World->Prop}{K:Bx->IT}{R:Jb}(AE:IT.step (B2 C) run (PQ C fid ops.toList draw σ K) h=some R)(hr:CH C U0 w0 U Z σ h a w)
  (hQ:∀c b σ' h' a' w',IT.step (B2 C) run (K σ') h'=some R->Fl (ops.toList.flatMap (D6 ops.toList)++ops.toList.flatMap (EU ops.toList)) σ σ'->CH C U0 w0 c b σ' h' a' w'->Q .normal a' w'):(Code.region id ops draw).wp C.P Q a w:=by
 unfold PQ at AE;cases draw with
 |false=>refine wp_region ?_;have:=iW (W:=ops.toList.flatMap (D6 ops.toList)++ops.toList.flatMap (EU ops.toList)) d ops.toList 0 U Z σ h a w rfl (λo ho=>⟨λs hs=>Cc _ (hC.2 ⟨o,ho,hs⟩),λs hs=>By _ (hC.2 ⟨o,ho,hs⟩)⟩) AE hr hQ;simpa[aAC] using this
 |true=>
  simp only[BH] at AE;split at AE
  .rename_i Fh;obtain⟨L,σf,hf,h1,h2,k⟩:=Pg AE;refine wp_region_any hm ?_;have ku:=h2;unfold Tu at ku;simp only[QP,BG,Bt] at ku;have Ô:iU (Ts ops.toList) L:=by have:=Wi ku.1;rw[aGL] at this;exact this
   have hlt:=h1.lt;have Q9:∀i,i<ops.size->i∈L.map (·.idx):=λi hi=>by have:=EG.1 ku.2 i (by simpa using hi);simpa using this
   have zl:(L.map (·.idx)).Nodup:=by rw[List.Nodup,aGL];exact Ô.imp λh=>h.1
   have hlen:L.length=ops.size:=by
    have g:(L.map (·.idx)).length<=(List.range ops.size).length:=MS zl (λi hi=>by obtain⟨s,hs,rfl⟩:=AZ.1 hi;simpa using hlt s hs)
    have f:(List.range ops.size).length<=(L.map (·.idx)).length:=MS List.nodup_range λi hi=>Q9 i (by simpa using hi);simp at g f;omega
   have mX:=dG (W:=ops.toList.flatMap (D6 ops.toList)++ops.toList.flatMap (EU ops.toList)) (λo ho s hs=>Cc _ (hC.2 ⟨o,ho,hs⟩)) h1;refine nG d Fh (λc b a' w' GH=>hQ c b σf hf a' w' k mX GH) ops.size L _ U Z σ h a w.drew hlen h1 Ô ⟨Aw,λi hi=>⟨λ_=>Q9 i hi,λ_=>by simp[Array.getD,hi]⟩,λj hj e _=>?_⟩ hr.drew;exfalso;rcases Bg j ops.size with hlt|GW
   .simp[Array.getD,hlt] at hj
   .simp[Array.getD,Nat.not_lt.2 GW] at hj
  .cases AE
end
end Go.Am
end
section
namespace Go.Am
open Go
def Ol(x y:D0):Prop:=
 (∃u,x.Gt=some u/\y= .val u)\/(∃v,x= .BE v/\y= .BE v)\/∃ver cs ow Fw Mz,x= .box ver cs ow/\y= .box Fw cs Mz/\∀o∈Mz,o∈ow
def Bx.Hn:∀(ws:List Nat) (σ:Bx) (s:Nat),(σ.clear ws).at s=if s∈ws then .undef else σ.at s
 |[],σ,s=>by simp[Bx.clear]
 |t::ws,σ,s=>by
  rw[Bx.clear,Bx.Hn ws];by_cases h:s∈ws;.simp[h]
  .by_cases h2:s=t
   .subst h2;rw[Bx.TU];by_cases hl:s<σ.length;.simp[hl]
    .have:σ.at s= .undef:=by simp[Bx.at,List.getD,hl]
     simp[h,hl,this]
   .rw[Bx.Fk λe=>h2 e.symm];simp[h,h2]
def Bx.IU:∀(ws:List Nat) (σ:Bx),(σ.clear ws).length=σ.length
 |[],σ=>rfl
 |t::ws,σ=>by rw[Bx.clear,Bx.IU ws];simp
section
variable{C:FC}{U0 U:Gh}{w0 w:World}{Z:Nat->Nat}{σ:Bx}{h:Ah}{a:Act}{fid:FuncId}{run:IT->Ah->Option Jb}
def Ol.rel{B s:Nat}{x y:D0}{v:Value}(hx:J8 U Z B w s x v)(hf:Ol x y):J8 U Z B w s y v:=by
 rcases hf with⟨u,hu,rfl⟩|⟨u,rfl,rfl⟩|⟨ver,cs,ow,Fw,Mz,rfl,rfl,TY⟩
 .exact L6 hx hu
 .exact hx
 .obtain⟨j,i,g,us,e,f,d,c,b⟩:=hx;exact⟨j,i,g,us,e,f,d,c,λo ho=>b o (TY o ho)⟩
def RX{σs:Bx}{G:Bx->IT}{R:Jb}{vs:List Aa}:∀{l:List (Nat×Sh)} {i:Nat} {σa:Bx},Tv σs l=some (vs.drop i)->σa.length=σs.length->IT.step (B2 C) run (If vs l i σa G) h=some R->
  ∃b,IT.step (B2 C) run (G b) h=some R/\b.length=σa.length/\(∀s,s∉l.map (·.1)->b.at s=σa.at s)/\(∀s,s∈l.map (·.1)->Ol (σs.at s) (b.at s)/\
   ((∃Fw Gd Mz,b.at s= .box Fw Gd Mz/\VV (σa.at s)<Fw)\/∀ver cs ow,σs.at s≠ .box ver cs ow))
 |[],i,σa,_,_,hr=>⟨σa,hr,rfl,λ_ _=>rfl,Aw⟩
 |(s,c)::l,i,σa,hv,hl,hr=>by
  have hd:∃v GY,vs.drop i=v::GY/\vs.drop (i+1)=GY/\vs.getD i .nilIface=v/\Tv σs l=some GY/\
    (match(generalizing:=false) c,σs.at s with| .val,x=>x.Gt| .BE,.BE v=>some v| .box n ow,.box _ cs Mz=>if cs.length=n/\ow.all (Mz.contains ·) then some (.agg cs) else none|_,_=>none)=some v:=by
   unfold Tv at hv;simp only at hv;split at hv
   .rename_i v GY h1 h2;simp only[BB] at hv;refine⟨v,GY,hv.symm,?_,?_,h2,h1⟩;.have:=Ca (List.drop 1) hv;simpa[DL] using this.symm
    .have:=Ca (·[0]?) hv;simp only[Kk,Cm,Bc] at this;simp[List.getD,<-this]
   .cases hv
  obtain⟨v,GY,z,aBY,Xp,Zd,Qa⟩:=hd;have hlt:s<σa.length:=by rw[hl];refine Bx.Nu λe=>?_;rw[e] at Qa;cases c<;>simp[D0.Gt] at Qa
  have go:∀(y:D0),Ol (σs.at s) y->((∃Fw Gd Mz,y= .box Fw Gd Mz/\VV (σa.at s)<Fw)\/∀ver cs ow,σs.at s≠ .box ver cs ow)->IT.step (B2 C) run (If vs l (i+1) (σa.set s y) G) h=some R->
    ∃b,IT.step (B2 C) run (G b) h=some R/\b.length=σa.length/\(∀t,t∉((s,c)::l).map (·.1)->b.at t=σa.at t)/\(∀t,t∈((s,c)::l).map (·.1)->Ol (σs.at t) (b.at t)/\
     ((∃Fw Gd Mz,b.at t= .box Fw Gd Mz/\VV (σa.at t)<Fw)\/∀ver cs ow,σs.at t≠ .box ver cs ow)):=by
   intro y hy d GH;obtain⟨b,r,q,k,p⟩:=RX (l:=l) (i:=i+1) (σa:=σa.set s y) (by rw[aBY];exact Zd) (by simpa using hl) GH;refine⟨b,r,by simpa using q,λt ht=>?_,λt ht=>?_⟩;.simp only[Bi,Az,Pz] at ht;rw[k t ht.2,Bx.Fk λe=>ht.1 e.symm]
   .by_cases hm:t∈l.map (·.1)
    .obtain⟨j,m⟩:=p t hm;refine⟨j,m.imp (λ⟨Fw,Gd,Mz,g,f⟩=>⟨Fw,Gd,Mz,g,?_⟩) id⟩;by_cases Xl:s=t
     .subst Xl;rw[Bx.EP hlt] at f;rcases d with⟨A,D,B,rfl,h1⟩|hn
      .simp only[VV] at f;omega
      .rcases j with⟨u,_,e⟩|⟨u,_,e⟩|⟨ver,cs,ow,_,_,e,_⟩
       .rw[g] at e;cases e
       .rw[g] at e;cases e
       .exact absurd e (hn _ _ _)
     .rwa [Bx.Fk Xl] at f
    .have Xl:t=s:=by simp only[Bi,Az] at ht;exact ht.resolve_right hm
     subst Xl;rw[k t hm,Bx.EP hlt];exact⟨hy,d⟩
  cases c with
  |val=>
   simp only[If,Xp] at hr;have sQ:(σs.at s).Gt=some v:=by simpa using Qa
   refine go (.val v) (.inl ⟨v,sQ,rfl⟩) (.inr λver cs ow e=>?_) hr;rw[e] at sQ;cases sQ
  |BE=>
   simp only[If,Xp] at hr;cases hx:σs.at s with
   |BE u=>rw[hx] at Qa;cases Qa;exact go (.BE v) (.inr (.inl ⟨v,hx,rfl⟩)) (.inr λver cs ow e=>by rw[hx] at e;cases e) hr
   |_=>rw[hx] at Qa;cases Qa
  |box n ow=>
   simp only[If,Xp,IT.step] at hr;cases hx:σs.at s with
   |box ver cs Mz=>
    rw[hx] at Qa;simp only at Qa;split at Qa
    .rename_i GQ;cases Qa;split at hr;.rename_i hn;rw[Ra hn] at hr;refine go (.box (VV (σa.at s)+1) cs ow) (.inr (.inr ⟨ver,cs,Mz,_,ow,hx,rfl,λo ho=>?_⟩)) (.inl ⟨_,_,_,rfl,QQ _⟩) hr;have:=EG.1 GQ.2 o ho;simpa using this
     .cases hr
    .cases Qa
   |_=>rw[hx] at Qa;cases Qa
def CH.qv(hr:CH C U0 w0 U Z σ h a w){O:Bx}(hl:O.length=σ.length)(hs:∀s,O.at s= .undef\/O.at s=σ.at s\/Ol (σ.at s) (O.at s)):CH C U0 w0 U Z O h a w:=by
 refine⟨hr.Dr,⟨by rw[hl];exact hr.fr.size,λs=>?_⟩,hr.Dq,hr.defers,hr.Gq⟩;have h0:=hr.fr.Hd s;rcases hs s with e|e|e
 .rw[e];trivial
 .rw[e];exact h0
 .exact e.rel h0
structure sR(σ0:Bx)(ws:List Nat)(l:List (Nat×Sh))(σ':Bx)(vs:List Aa):Prop where
 vec:Tv σ' l=some vs
 len:σ'.length=σ0.length
 same:∀s,s∉l.map (·.1)->σ0.at s= .undef\/σ0.at s=σ'.at s
 box:∀s ver cs ow,σ0.at s= .box ver cs ow->∃Fw Gd Mz,σ'.at s= .box Fw Gd Mz
def Zr{σ0 σ':Bx}{l:List (Nat×Sh)}(hk:cC σ0 σ' l=true){s:Nat}(hs:s∉l.map (·.1)):(∀ver cs ow,σ0.at s= .box ver cs ow->∃Gd Mz,σ'.at s= .box ver Gd Mz)/\(∀t o,σ0.at s= .EI t o->∃t' o',σ'.at s= .EI t' o'):=by
 have hc:(l.map (·.1)).contains s=false:=by
  cases hc:(l.map (·.1)).contains s with
  |false=>rfl
  |true=>exact absurd (by simpa using hc) hs
 have qA:s<σ0.length->(match σ0.at s with
   | .box ver _ _=>(l.map (·.1)).contains s||(match σ'.at s with| .box Fw _ _=>Fw==ver|_=>false)
   | .EI _ _=>(l.map (·.1)).contains s||(match σ'.at s with| .EI _ _=>true|_=>false)
   |_=>true)=true:=λhl=>by
  unfold cC at hk;exact EG.1 hk s (by simpa using hl)
 constructor
 .intro ver cs ow hx;have:=qA (Bx.Nu (by rw[hx];simp));rw[hx] at this;simp only[hc,PC] at this;split at this
  .rename_i Fw Gd Mz hy;have e:Fw=ver:=by simpa using this
   subst e;exact⟨Gd,Mz,hy⟩
  .cases this
 .intro t o hx;have:=qA (Bx.Nu (by rw[hx];simp));rw[hx] at this;simp only[hc,PC] at this;split at this;.rename_i t' o' hy;exact⟨t',o',hy⟩
  .cases this
def NF{σ0 b σ':Bx}{ws:List Nat}{l:List (Nat×Sh)}{x:Fs}{R:Jb}(SF:IT.step (B2 C) run (Q7 σ0 l x σ') h=some R)(mX:Fl ws b σ')(hlen:b.length=σ0.length)
  (YL:∀s,s∈ws->σ0.at s= .undef) (L0:∀s,s∉l.map (·.1)->σ0.at s= .undef\/σ0.at s=b.at s) (aBZ:∀s ver cs ow,σ0.at s= .box ver cs ow->∃Fw Gd Mz,b.at s= .box Fw Gd Mz):
  ∃vs,R=(x,vs,h)/\sR σ0 ws l σ' vs:=by
 unfold Q7 at SF;split at SF
 .rename_i hk;split at SF
  .rename_i vs hv;cases SF;refine⟨vs,rfl,hv,mX.1.trans hlen,λs hs=>?_,λs ver cs ow hb=>?_⟩
   .by_cases hw:s∈ws;.exact .inl (YL s hw)
    .rcases L0 s hs with e|e
     .exact .inl e
     .right;have S0:=mX.2 s hw;obtain⟨i,g⟩:=Zr hk hs;rw[e] at i g⊢;cases hx:b.at s with
      |box ver cs ow=>rw[hx] at S0;obtain⟨m,p,n,c,_,d⟩:=S0;obtain⟨k,f,j⟩:=i ver cs ow hx;rw[c] at j;cases j;obtain⟨rfl,rfl⟩:=d rfl;exact c.symm
      |EI t o=>
       rw[hx] at S0;rcases S0 with c|c
       .exact c.symm
       .obtain⟨t',o',d⟩:=g t o hx;rw[c] at d;cases d
      |_=>rw[hx] at S0;exact(show σ'.at s=_ from S0).symm
   .have hw:s∉ws:=λhw=>by rw[YL s hw] at hb;cases hb
    obtain⟨m,p,n,c⟩:=aBZ s ver cs ow hb;have S0:=mX.2 s hw;rw[c] at S0;obtain⟨v2,k,f,d,_⟩:=S0;exact⟨v2,k,f,d⟩
  .cases SF
 .cases SF
def sR.next{σ0 σ':Bx}{ws:List Nat}{l:List (Nat×Sh)}{vs:List Aa}(he:sR σ0 ws l σ' vs){G:Bx->IT}{R:Jb}(hr:CH C U0 w0 U Z σ' h a w)(AE:IT.step (B2 C) run (If vs l 0 σ0 G) h=some R):
  ∃b,IT.step (B2 C) run (G b) h=some R/\CH C U0 w0 U Z b h a w/\b.length=σ0.length/\(∀s,s∉l.map (·.1)->b.at s=σ0.at s)/\(∀s ver cs ow,σ0.at s= .box ver cs ow->∃Fw Gd Mz,b.at s= .box Fw Gd Mz/\(s∈l.map (·.1)->ver<Fw)):=by
 obtain⟨b,i,f,c,d⟩:=RX (σs:=σ') (by simpa using he.vec) he.len.symm AE;refine⟨b,i,hr.qv (f.trans he.len.symm) λs=>?_,f,c,λs ver cs ow hb=>?_⟩
 .by_cases hm:s∈l.map (·.1);.exact .inr (.inr (d s hm).1)
  .rw[c s hm];rcases he.same s hm with e|e
   .exact .inl e
   .exact .inr (.inl e)
 .by_cases hm:s∈l.map (·.1)
  .obtain⟨_,q⟩:=d s hm;obtain⟨m,o,n,k⟩:=he.box s ver cs ow hb;rcases q with⟨Fw,Gd,Mz,j,g⟩|q
   .exact⟨Fw,Gd,Mz,j,λ_=>by rw[hb] at g;exact g⟩
   .exact absurd k (q _ _ _)
  .exact⟨ver,cs,ow,by rw[c s hm];exact hb,λh=>absurd h hm⟩
def NG{σ σ0 b:Bx}{ws W:List Nat}{l:List (Nat×Sh)}(h0:σ0=σ.clear ws)(hv:qU l ws σ=true)(hl:b.length=σ0.length)(h1:∀s,s∉l.map (·.1)->b.at s=σ0.at s)
  (h2:∀s ver cs ow,σ0.at s= .box ver cs ow->∃Fw Gd Mz,b.at s= .box Fw Gd Mz/\(s∈l.map (·.1)->ver<Fw)) (hW:∀s∈ws,s∈W):Fl W σ b:=by
 refine⟨by rw[hl,h0,Bx.IU],λs hs=>?_⟩;have c:s∉ws:=λhm=>hs (hW s hm);have e0:σ0.at s=σ.at s:=by rw[h0,Bx.Hn,Ac c]
 by_cases hm:s∈l.map (·.1)
 .obtain⟨p,hp,rfl⟩:=AZ.1 hm;have:=EG.1 hv p hp;simp only[So,M_] at this;rcases this with this|this
  .exact absurd this c
  .cases hx:σ.at p.1 with
   |box ver cs ow=>obtain⟨d,j,f,i,g⟩:=h2 p.1 ver cs ow (by rw[e0];exact hx);have:=g hm;exact⟨d,j,f,i,Ab,λe=>Ab⟩
   |_=>rw[hx] at this;cases this
 .rw[h1 s hm,e0];exact .refl _
def EE.le{n m:Nat}(h:EE C (IT.run (B2 C) n))(kx:m<=n):EE C (IT.run (B2 C) m):=⟨h.1,λf args h0 r h' AE=>h.2 f args h0 r h' (IT.HN kx AE)⟩
def sS(hm:C.P.follows .mixedOrders=true):∀(c:Code) (n:Nat),EE C (IT.run (B2 C) n)->∀{K:Fs->Bx->IT} {R:Jb} {σ:Bx} {h:Ah} {a:Act} {w:World} {U:Gh} {Z:Nat->Nat} {Q:Exit->Act->World->Prop},
  IT.step (B2 C) (IT.run (B2 C) n) (Fx C fid c σ K) h=some R->CH C U0 w0 U Z σ h a w->
  (∀x f d σ' h' a' w',IT.step (B2 C) (IT.run (B2 C) n) (K x σ') h'=some R->Fl (CJ c++BY c) σ σ'->CH C U0 w0 f d σ' h' a' w'->Q (sN x) a' w')->c.wp C.P Q a w:=by
 intro c;induction c with
 |skip=>intro n p K R σ h a w U Z Q AE hr g;exact wp_skip (g .normal U Z σ h a w AE (.refl _ _) hr)
 |region id ops draw=>
  intro n p K R σ h a w U Z Q AE hr g;simp only[Fx] at AE;split at AE;.exact T0 hm p AE hr λf d σ' h' a' w' h1 h2 A=>g .normal f d σ' h' a' w' h1 h2 A
  .rename_i l hl;unfold Xe at AE;simp only at AE;split at AE
   .rename_i hv;simp only[IT.step] at AE;split at AE
    .rename_i x vs h1 T1;refine T0 hm p T1 hr λf d σ' h' a' w' z u q=>?_;obtain⟨GY,e,he⟩:=NF (h:=h') z u (by rw[Bx.IU]) (λs hs=>by rw[Bx.Hn,Ad hs]) (λs _=>by rw[Bx.Hn];split<;>simp) (λs ver cs ow hb=>by
      rw[Bx.Hn] at hb;split at hb;.cases hb
      .exact⟨ver,cs,ow,hb⟩)
     cases e;obtain⟨k,F,E,L,J,I⟩:=he.next q AE;exact g .normal f d k h1 a' w' F (NG rfl hv L J I (λs hs=>hs)) E
    .cases AE
   .cases AE
 |seq x y D B=>
  intro n p K R σ h a w U Z Q AE hr g;simp only[Fx] at AE;refine wp_seq (D n p AE hr λe f d σ' h' a' w' h1 h2 A=>?_);have up:∀j,Fl (CJ x++BY x) σ j->Fl (CJ (.seq x y)++BY (.seq x y)) σ j:=λj ho=>ho.mono λs hs=>by simp only[CJ,BY,Ak] at hs⊢;rcases hs with hs|hs<;>simp[hs]
  cases e with
  |normal=>refine B n p h1 A λX U2 Z2 j YN a2 w2 z u q=>g X U2 Z2 j YN a2 w2 z ((up _ h2).trans (u.mono λs hs=>?_)) q;simp only[CJ,BY,Ak] at hs⊢;rcases hs with hs|hs<;>simp[hs]
  |exit i=>exact g (.exit i) f d σ' h' a' w' h1 (up _ h2) A
  |ret=>exact g .ret f d σ' h' a' w' h1 (up _ h2) A
 |cond c x y D B=>
  intro n p K R σ h a w U Z Q AE hr g;have N:∀{o j:Bx},Fl (CJ x++BY x) o j->Fl (CJ (.cond c x y)++BY (.cond c x y)) o j:=λ{o j} ho=>ho.mono λs hs=>by cases c<;>simp only[CJ,BY,Ak,Az] at hs⊢<;>rcases hs with hs|hs<;>simp[hs]
  have M:∀{o j:Bx},Fl (CJ y++BY y) o j->Fl (CJ (.cond c x y)++BY (.cond c x y)) o j:=λ{o j} ho=>ho.mono λs hs=>by cases c<;>simp only[CJ,BY,Ak,Az] at hs⊢<;>rcases hs with hs|hs<;>simp[hs]
  simp only[Fx] at AE;split at AE;.rename_i hc;obtain⟨s,h1,_⟩:=Fy hr hc;exact wp_cond_true h1 (D n p AE hr λe f d σ' h' a' w' z u q=>g e f d σ' h' a' w' z (N u) q)
  .rename_i hc;obtain⟨s,h1,_⟩:=Fy hr hc;exact wp_cond_false h1 (B n p AE hr λe f d σ' h' a' w' z u q=>g e f d σ' h' a' w' z (M u) q)
  .rename_i s v hc;have jx:σ.at s= .val v:=Gg hc;have h0:=hr.fr.Hd s;rw[jx] at h0;have G:∀{S:Fs->Bx->IT} {R':Jb} {Q':Exit->Act->World->Prop},IT.step (B2 C) (IT.run (B2 C) n) (.AX v (Fx C fid x (σ.set s (.Nj true)) S) (Fx C fid y (σ.set s (.Nj false)) S)) h=some R'->
     (∀e f d σ' h' a' w',IT.step (B2 C) (IT.run (B2 C) n) (S e σ') h'=some R'->Fl (CJ (.cond (.tmp s) x y)++BY (.cond (.tmp s) x y)) σ σ'->CH C U0 w0 f d σ' h' a' w'->Q' (sN e) a' w')->(Code.cond (.tmp s) x y).wp C.P Q' a w:=by
    intro S R' Q' TZ O;have nB:∀b:Bool,Fl (CJ (.cond (.tmp s) x y)++BY (.cond (.tmp s) x y)) σ (σ.set s (.Nj b)):=λb=> .set (by simp[BY]);simp only[IT.step] at TZ;split at TZ;.have hv:a.eval (.tmp s)= .bool true:=h0;exact wp_cond_true hv (D n p TZ (hr.YY h0) λe f d σ' h' a' w' z u q=>O e f d σ' h' a' w' z ((nB true).trans (N u)) q)
    .have hv:a.eval (.tmp s)= .bool false:=h0;exact wp_cond_false hv (B n p TZ (hr.YY h0) λe f d σ' h' a' w' z u q=>O e f d σ' h' a' w' z ((nB false).trans (M u)) q)
    .cases TZ
   split at AE;.exact G AE g
   .rename_i l hl;unfold Xe at AE;simp only at AE;split at AE
    .rename_i hv;simp only[IT.step] at AE;split at AE
     .rename_i e vs h1 T1;refine G T1 λX f d σ' h' a' w' z u q=>?_;obtain⟨GY,eq,he⟩:=NF (h:=h') (ws:=s::(CJ x++CJ y++BY x++BY y)) z (u.mono λt ht=>by
        simp only[CJ,BY,Ak,Az] at ht⊢;rcases ht with(ht|ht)|ht|ht|ht<;>simp[ht]) (by rw[Bx.IU]) (λt ht=>by rw[Bx.Hn,Ad ht]) (λt _=>by rw[Bx.Hn];split<;>simp) (λt ver cs ow hb=>by
       rw[Bx.Hn] at hb;split at hb;.cases hb
       .exact⟨ver,cs,ow,hb⟩)
      cases eq;obtain⟨k,F,E,L,J,I⟩:=he.next q AE;exact g e f d k h1 a' w' F (NG rfl hv L J I (λt ht=>by simp only[CJ,BY,Ak,Az] at ht⊢;rcases ht with ht|((ht|ht)|ht)|ht<;>simp[ht])) E
     .cases AE
    .cases AE
  .cases AE
 |block id b ih=>
  intro n p K R σ h a w U Z Q AE hr g;simp only[Fx] at AE;refine wp_block (ih n p AE hr λe f d σ' h' a' w' h1 h2 A=>?_);cases e with
  |normal=>exact g .normal f d σ' h' a' w' h1 h2 A
  |exit i=>
   simp only at h1;show if i=id then Q .normal a' w' else Q (.exit i) a' w'
   by_cases hi:i=id;.rw[Ad hi] at h1⊢;exact g .normal f d σ' h' a' w' h1 h2 A
   .rw[Ac hi] at h1⊢;exact g (.exit i) f d σ' h' a' w' h1 h2 A
  |ret=>exact g .ret f d σ' h' a' w' h1 h2 A
 |loop b ih=>
  intro n p K R σ h a w U Z Q AE hr g;simp only[Fx] at AE;generalize hl:C.og fid ((FY b).getD 0)=l at AE;generalize aHg:(FY b).getD 0=key at AE;generalize h0:σ.clear (CJ b++BY b)=σ0 at AE;split at AE
  .rename_i hv;split at AE;.cases AE
   .rename_i init Õ;have Ö:σ0.length=σ.length:=by rw[<-h0,Bx.IU]
    have YL:∀s,s∈CJ b++BY b->σ0.at s= .undef:=λs hs=>by rw[<-h0,Bx.Hn,Ad hs]
    refine Xx (λm a w=>∃U Z o h vs,CH C U0 w0 U Z o h a w/\sR σ0 (CJ b++BY b) l o vs/\m<=n+1/\
     IT.run (B2 C) m (.loop key vs (λvs=>If vs l 0 σ0 λk=>Fx C fid b k λx σ'=>Q7 σ0 l x σ') λx vs=>If vs l 0 σ0 λσ'=>jt K x σ') h=some R) ?_ (n+1) a w
     ⟨U,Z,σ,h,init,hr,⟨Õ,Ö.symm,λs _=>by rw[<-h0,Bx.Hn];split<;>simp,λs ver cs ow hb=>by
      rw[<-h0,Bx.Hn] at hb;split at hb;.cases hb
      .exact⟨ver,cs,ow,hb⟩⟩,Af _,AE⟩
    rintro m a1 w1 ⟨U1,Z1,o,h1,vs,I7,T,kx,HM⟩;cases m with
    |zero=>simp[IT.run] at HM
    |succ m=>
     simp only[IT.run,IT.step] at HM;have body:∀{x:Fs} {GY:List Aa} {h':Ah},IT.step (B2 C) (IT.run (B2 C) m) (If vs l 0 σ0 λk=>Fx C fid b k λx σ'=>Q7 σ0 l x σ') h1=some (x,GY,h')->∀{Q':Exit->Act->World->Prop},
       (∀f d σ' a' w',CH C U0 w0 f d σ' h' a' w'->sR σ0 (CJ b++BY b) l σ' GY->Q' (sN x) a' w')->b.wp C.P Q' a1 w1:=by
      intro x GY h' hb Q' V;obtain⟨k,F,E,L,J,I⟩:=T.next I7 hb;refine ih m (p.le Ab) F E λy f d σ' h2 a' w' z u q=>?_;obtain⟨Y,eq,he⟩:=NF z u L YL (λs hs=> .inr (J s hs).symm) λs ver cs ow hb=>by obtain⟨v1,c1,o1,e1,_⟩:=I s ver cs ow hb;exact⟨v1,c1,o1,e1⟩
      cases eq;exact V f d σ' a' w' q he
     split at HM;.rename_i GY h' hb;exact body hb λf d σ' a' w' GH Zs=>⟨m,QQ m,f,d,σ',h',GY,GH,Zs,Ab,HM⟩
     .rename_i x GY h' hne hb;refine body hb λf d σ' a' w' GH Zs=>?_;have RW:=IT.Jj (λt h r=>IT.HN (fn:=B2 C) (Ab:m<=n)) _ _ _ HM;obtain⟨k,F,E,L,J,I⟩:=Zs.next GH RW;have ho:=NG h0.symm hv L J I λs hs=>hs;cases x with
      |normal=>exact absurd rfl hne
      |exit i=>exact g _ f d k h' a' w' F ho E
      |ret=>exact g _ f d k h' a' w' F ho E
     .cases HM
  .cases AE
 |exit id=>intro n p K R σ h a w U Z Q AE hr g;exact wp_exit (g (.exit id) U Z σ h a w AE (.refl _ _) hr)
 |ret=>intro n p K R σ h a w U Z Q AE hr g;exact wp_ret (g .ret U Z σ h a w AE (.refl _ _) hr)
 |label l=>intro n p K R σ h a w U Z Q AE hr g;exact wp_label (g .normal U Z σ h a w AE (.refl _ _) hr)
 |scope b ih=>
  intro n p K R σ h a w U Z Q AE hr g;simp only[Fx] at AE;refine wp_scope_straight (ih n p AE hr λe f d σ' h' a' w' h1 h2 A=>?_);cases e with
  |normal=>exact g .normal f d σ' h' a' w' h1 h2 A
  |exit i=>exact g (.exit i) f d σ' h' a' w' h1 h2 A
  |ret=>exact g .ret f d σ' h' a' w' h1 h2 A
 |_=>intros n p K R σ h a w U Z Q AE hr g;cases AE
end
end Go.Am
end
section
namespace Go.Am
open Go
section
variable{C:FC}{U0 U:Gh}{w0 w:World}{Z:Nat->Nat}{σ:Bx}{h:Ah}{a:Act}{fid:FuncId}{run:IT->Ah->Option Jb}
def Ho(tmps:Array Value):ResultVar->Sem Value
 | .tmp t=>pure (tmps.getD t undef)
 | .cell a t=>do loadVar t (<-asAddr (tmps.getD a undef))
def Qb{P:Program}{t:TypeId}{b o:Nat}{v:Value}(h:(Instr.loadAt t (.pointer (some ⟨b,o,none⟩))).run P w= .ok v w):(loadVar t ⟨b,o,none⟩).run P w= .ok v w:=by simpa[Instr.loadAt,Instr.sureAddr] using h
def RY{K:List Aa->IT}{R:Jb}:∀{rs:List ResultVar} {Dq:List Aa},IT.step (B2 C) run (FQ C σ rs Dq K) h=some R->CH C U0 w0 U Z σ h a w->
  ∃vs us,(rs.mapM (Ho a.tmps)).run C.P w= .ok us w/\AS U vs us/\IT.step (B2 C) run (K (Dq.reverse++vs)) h=some R
 |[],Dq,AE,hr=>⟨[],[],Aw,rfl,by simpa[FQ] using AE⟩
 |d::rs,Dq,AE,hr=>by
  have one:∀(v:Aa) (u:Value),(Ho a.tmps d).run C.P w= .ok u w->Bz U v u->IT.step (B2 C) run (FQ C σ rs (v::Dq) K) h=some R->
    ∃vs us,((d::rs).mapM (Ho a.tmps)).run C.P w= .ok us w/\AS U vs us/\IT.step (B2 C) run (K (Dq.reverse++vs)) h=some R:=by
   intro v u h1 h2 l;obtain⟨vs,us,y,x,q⟩:=RY l hr;refine⟨v::vs,u::us,?_,⟨u,us,rfl,h2,x⟩,by simpa using q⟩;simp[List.mapM_cons,h1,y]
  cases d with
  |tmp t=>
   simp only[FQ] at AE;split at AE;.rename_i v hv;exact one v _ (by simp[Ho]) (L6 (hr.fr.Hd t) hv) AE
   .cases AE
  |cell p t=>
   have qw:∀(b o:Nat) (v:Aa),a.tmps.getD p undef= .pointer (some ⟨b,o,none⟩)->(∃u,(Instr.loadAt t (.pointer (some ⟨b,o,none⟩))).run C.P w= .ok u w/\Bz U v u)->IT.step (B2 C) run (FQ C σ rs (v::Dq) K) h=some R->
     ∃vs us,((ResultVar.cell p t::rs).mapM (Ho a.tmps)).run C.P w= .ok us w/\AS U vs us/\IT.step (B2 C) run (K (Dq.reverse++vs)) h=some R:=by
    intro b o v hp ⟨u,h1,h2⟩ l;refine one v u ?_ h2 l;simp only[Ho,hp,asAddr,Sem.run_bind,Sem.run_pure,Result.andThen_ok];exact Qb h1
   simp only[FQ] at AE;split at AE
   .rename_i s off ver cs ow ht ha;split at AE;.rename_i hlt;obtain⟨hs,hx⟩:=JO hr ha;obtain⟨u,g,f,_⟩:=JA hr ht hs (r:=cs.getD off .nilIface) (off:=off) (by simp[EJ,List.getD,Ai hlt]);exact qw _ _ _ hx ⟨u,g,f⟩ AE
    .cases AE
   .rename_i n s off ver cs ow ht ha;split at AE;.rename_i Eg;obtain⟨hs,hx⟩:=JO hr ha;obtain⟨u,g,f,_⟩:=JA hr ht hs (r:= .agg ((cs.drop off).take n)) (off:=off) (by simp[EJ,Eg]);exact qw _ _ _ hx ⟨u,g,f⟩ AE
    .cases AE
   .rename_i n p' ht ha;simp only[IT.step] at AE;split at AE
    .rename_i v hv;have iO:=Pb hr ha;unfold Bq at hv;split at hv;.rename_i cs;obtain⟨b,k,Zf,hm⟩:=iO;obtain⟨us,i,c⟩:=hm.values;exact qw b k v Zf (Hm (w:=w) ht i (λj u hj=>(hr.Dr.Hh _ _ _ (c j u hj)).1) (λu hu=>by obtain⟨j,hj⟩:=Cq hu;exact(hr.Dr.Hh _ _ _ (c j u hj)).2.1) hv) AE
     .rename_i id off;obtain⟨b,hb,Zf⟩:=iO;split at hv
      .rename_i cs hcs;obtain⟨us,e,fr,i,pf,c,m⟩:=hr.Dr.cells id cs hcs b hb;refine qw b off v Zf (Hm (w:=w) (b:=b) (o:=off) ht (c.drop off) (λj u hj=>?_) (λu hu=>m u (A6 hu)) (Ny hv)) AE;rw[cell_of_row w _ _ us e fr i];rw[Cm,B3] at hj;split at hj;.simpa using hj
       .cases hj
      .cases hv
     .cases hv
    .cases AE
   .cases AE
def CH.HX(hr:CH C U0 w0 U Z σ h a w){p:Aa}{off:Nat}{u:Value}{h':Ah}(hp:Bz U p u)(hf:KD h off p=some h'):∃r,CH C U0 w0 r Z σ h' a w:=by
 unfold KD at hf;split at hf;.cases hf;exact⟨U,hr⟩
 .rename_i id m;generalize m+off=o at hf;obtain⟨b,hb,_⟩:=hp;split at hf
  .rename_i cs hcs;split at hf
   .rename_i v hv;obtain⟨us,e,fr,c,pf,l,t⟩:=hr.Dr.cells id cs hcs b hb;obtain⟨x,hx,pt⟩:=l.get hv;cases hq:LA h v with
    |none=>rw[hq] at hf;cases hf
    |some q=>
     obtain⟨h1,v'⟩:=q;rw[hq] at hf;simp only[B5] at hf;split at hf
     .rename_i Gd Ø;cases hf;obtain⟨U1,Eg,I7,yV⟩:=hr.Th pt hq;have QZ:=Eg.mu _ _ hb;obtain⟨zn,A,n,g,j,r2,k⟩:=I7.Dr.cells id Gd Ø b QZ;rw[c] at g;cases g;have nB:AS U1 (Gd.set o v') (us.toList.take (Gd.set o v').length):=by
       rw[Bv];refine AS.Gf (by simp[r2.length]) λi y z hy hz=>?_;by_cases hi:o=i
       .subst hi;by_cases hlt:o<Gd.length
        .rw[AH hlt] at hy;cases hy;have f:x=z:=by rw[CA hlt] at hz;have aB1:o<cs.length:=(Ae.1 hv).1;rw[CA aB1] at hx;rw[hx] at hz;exact Ew hz
         rw[<-f];exact yV
        .rw[C3 (by simpa using hlt)] at hy;cases hy
       .rw[An hi] at hy;obtain⟨s,Vl,d⟩:=r2.get hy;rw[hz] at Vl;cases Vl;exact d
      obtain⟨YM,Pf⟩:=LZ I7.Dr Ø QZ c us (Gd.set o v') rfl j nB (by rw[Bv];exact k);rw[setRow_self w b us e fr c] at YM Pf;exact⟨U1,I7.HK YM Pf⟩
     .cases hf
   .cases hf
  .cases hf
 .cases hf
def iX{t:IT}{R:Jb}:∀{l:List (Nat×Nat)} {U:Gh} {h:Ah},IT.step (B2 C) run (iJ C σ l t) h=some R->CH C U0 w0 U Z σ h a w->∃b h',CH C U0 w0 b Z σ h' a w/\IT.step (B2 C) run t h'=some R
 |[],U,h,AE,hr=>⟨U,h,hr,AE⟩
 |(s,off)::l,U,h,AE,hr=>by
  simp only[iJ] at AE;split at AE
  .rename_i p hp;simp only[IT.step] at AE;split at AE;.rename_i h1 hf;obtain⟨U1,I7⟩:=hr.HX (L6 (hr.fr.Hd s) hp) hf;exact iX AE I7
   .cases AE
  .cases AE
def T2{R:Jb}:∀{vs Dq:List Aa} {U:Gh} {h:Ah} {us p8:List Value},IT.step (B2 C) run (Ns vs Dq RL) h=some R->CH C U0 w0 U Z σ h a w->AS U vs us->AS U Dq.reverse p8->
  ∃c h' GY,CH C U0 w0 c Z σ h' a w/\AS c GY (p8++us)/\IT.step (B2 C) run (RL GY) h'=some R
 |[],Dq,U,h,us,p8,AE,hr,h1,h2=>by rw[show us=[] from h1,BQ];exact⟨U,h,Dq.reverse,hr,h2,AE⟩
 |v::vs,Dq,U,h,us,p8,AE,hr,h1,h2=>by
  obtain⟨u,C6,rfl,hv,h1⟩:=h1;simp only[Ns,IT.step] at AE;split at AE
  .rename_i k v' hf;obtain⟨U1,Eg,I7,yV⟩:=hr.Th hv hf;have i:AS U1 (v'::Dq).reverse (p8++[u]):=by rw[IF];exact(AS.mono Eg _ _ h2).append ⟨u,[],rfl,yV,rfl⟩
   obtain⟨j,g,b,f,e,d⟩:=T2 AE I7 (AS.mono Eg _ _ h1) i;exact⟨j,g,b,f,by rwa [AB] at e,d⟩
  .cases AE
def iY{R:Jb}{vs:List Aa}{us:List Value}{U:Gh}{h:Ah}(AE:IT.step (B2 C) run (RL vs) h=some R)(hv:AS U vs us):
  ∃r,R=(.ret,[r],h)/\Bz U r (if c:us.toArray.size=1 then us.toArray[0] else .tuple us.toArray):=by
 unfold RL at AE;split at AE;.rename_i v;obtain⟨u,C6,rfl,b,hnil⟩:=hv;rw[show C6=[] from hnil];simp only[IT.step] at AE;cases AE;exact⟨v,rfl,by simpa using b⟩
 .rename_i hne;simp only[IT.step] at AE;cases AE;have hlen:us.length≠1:=λe=>by have:=hv.length;rw[e] at this;obtain⟨v,hv⟩:=y_.1 this.symm;exact hne v hv
  refine⟨_,rfl,?_⟩;rw[za (by simpa using hlen)];exact⟨us.toArray,rfl,by simpa using hv⟩
def RZ{fn:Func}{tmps:Array Value}{us:List Value}(h:(fn.results.toList.mapM (Ho tmps)).run C.P w= .ok us w):(results fn tmps).run C.P w= .ok (if b:us.toArray.size=1 then us.toArray[0] else .tuple us.toArray) w:=by
 have e:fn.results.mapM (Ho tmps)=(do let l<-fn.results.toList.mapM (Ho tmps);pure l.toArray:Sem (Array Value)):=by rw[Array.mapM_eq_mapM_toList];simp
 have c:results fn tmps=(do let vs<-fn.results.mapM (Ho tmps);pure (if b:vs.size=1 then vs[0] else .tuple vs):Sem Value):=by unfold results;congr 2
 rw[c,e];simp only[Sem.run_bind,h,Result.andThen_ok,Sem.run_pure]
def zL{fn:Func}{R:Jb}(AE:IT.step (B2 C) run (YX C fid fn σ) h=some R)(hr:CH C U0 w0 U Z σ h a w):
  ∃r h' v d,R=(.ret,[r],h')/\(results fn a.tmps).run C.P w= .ok v w/\GO d h' w/\KF U0 w0 d w/\Bz d r v/\(C.IJ fid=true->∃s c,HY d w0.heap.size w s c v r):=by
 unfold YX at AE;split at AE;.cases AE
 .rename_i EZ;obtain⟨U1,h1,I7,HM⟩:=iX AE hr;by_cases ho:C.IJ fid=true
  .have f:∃t x,fn.results.toList=[.tmp t]/\σ.at t= .BE x:=by
    have:Og σ fn.results.toList=true:=by
     cases hq:Og σ fn.results.toList with
     |true=>rfl
     |false=>exact absurd (by simp[ho,hq]) EZ
    unfold Og at this;split at this
    .rename_i t I8;split at this;.rename_i x hx;exact⟨t,x,I8,hx⟩
     .cases this
    .cases this
   obtain⟨t,x,zp,hx⟩:=f;have h0:=I7.fr.Hd t;rw[hx] at h0;have zM:=RZ (C:=C) (w:=w) (fn:=fn) (tmps:=a.tmps) (us:=[a.tmps.getD t undef]) (by rw[zp];simp[Ho]);rw[zp] at HM;simp only[FQ,hx,D0.Gt,IF,QP,BG] at HM;have Ù:LA h1 x=some (h1,x):=by rcases h0.2 with(rfl|⟨_,rfl⟩)|⟨_,_,_,_,_,_,_,rfl,_⟩<;>rfl
   have hR:R=(.ret,[x],h1):=by
    split at HM;.simp only[Ns,IT.step,Ù,IF,QP,BG,RL] at HM;cases HM;rfl
    .simp only[IT.step,RL] at HM;cases HM;rfl
   exact⟨x,h1,_,U1,hR,by simpa using zM,I7.Dr,I7.Dq,h0.1,λ_=>⟨t,none,h0.2⟩⟩
  .obtain⟨vs,us,m,j,RW⟩:=RY HM I7;simp only[QP,BG] at RW;have zM:=RZ (C:=C) m;split at RW;.obtain⟨n,h2,k,i,g,l⟩:=T2 RW I7 j (p8:=[]) rfl;rw[BG] at g;obtain⟨r,hR,b⟩:=iY l g;exact⟨r,h2,_,n,hR,zM,i.Dr,i.Dq,b,λe=>absurd e ho⟩
   .obtain⟨r,hR,b⟩:=iY RW j;exact⟨r,h1,_,U1,hR,zM,I7.Dr,I7.Dq,b,λe=>absurd e ho⟩
def CH.start{U:Gh}{h:Ah}{w:World}(hi:GO U h w)(hg:∀g cs,C.Gq g=some cs->CD U cs g 0){args:List Aa}{cargs:Array Value}(ha:AS U args cargs.toList)(n:Nat)(Z:Nat->Nat):
  CH C U w U Z (args.map .val++List.replicate (n-args.length) .undef) h {tmps:=cargs++Array.replicate (n-cargs.size) undef,defers:=[]} w:=by
 have hlen:cargs.size=args.length:=by have:=ha.length;simpa using this
 refine⟨hi,⟨by simp[hlen],λs=>?_⟩,KF.refl U w,rfl,hg⟩;by_cases hs:s<args.length
 .have h1:Bx.at (args.map .val++List.replicate (n-args.length) .undef) s= .val args[s]:=by simp[Bx.at,List.getD,Al,hs]
  obtain⟨u,hu,hr⟩:=ha.get (Ai hs);have h2:(cargs++Array.replicate (n-cargs.size) undef).getD s undef=u:=by
   rw[Gl,Array.getElem?_append_left Ab];have:cargs[s]?=some u:=by simpa using hu
   rw[this];rfl
  rw[h1,h2];exact hr
 .have h1:Bx.at (args.map .val++List.replicate (n-args.length) .undef) s= .undef:=by have hm:(args.map D0.val).length=args.length:=Aw;simp only[Bx.at,List.getD];rw[Bp Ab,List.getElem?_replicate];split<;>rfl
  rw[h1];trivial
def Xz(C:FC):Prop:=
 (∀f,C.My f=true->rP C f)/\∀(f:FuncId) (p:List Aa->IT),C.oh f=some p->∀n,EE C (IT.run (B2 C) n)->∀(args:List Aa) (h:Ah) (r:Aa) (h':Ah),IT.step (B2 C) (IT.run (B2 C) n) (p args) h=some (.ret,[r],h')->
  (∃fn c,C.P.funcs[Ez f]?=some fn/\(fn.name== "runtime.NumGoroutine")=false/\fn.body=some c)/\
  ∀(U:Gh) (w:World) (cargs:Array Value),GO U h w->(∀g cs,C.Gq g=some cs->CD U cs g 0)->AS U args cargs.toList->
   Calls C.P (Ez f) cargs w λe w'=>match e with
    | .returned v=>∃b,GO b h' w'/\KF U w b w'/\Bz b r v/\(C.IJ f=true->∃s c,HY b w.heap.size w' s c v r)
    |_=>False
def Zt(hm:C.P.follows .mixedOrders=true)(zN:∀g cs,C.Gq g=some cs->cs.all Aa.K6=true)(ky:Xz C):∀n,EE C (IT.run (B2 C) n)
 |0=>⟨⟨zN,ky.1⟩,λf args h r h' AE=>by simp[IT.run] at AE⟩
 |n+1=>⟨⟨zN,ky.1⟩,λf args h r h' AE=>by
  have ih:=Zt hm zN ky n;simp only[IT.run] at AE;unfold B2 at AE;split at AE;.rename_i p hp;exact ky.2 f p hp n ih args h r h' AE
  unfold T_ at AE;split at AE
  .rename_i fn hf;split at AE;.cases AE
   .rename_i hname;unfold qV at AE;split at AE;.cases AE
    .rename_i c hb;refine⟨⟨fn,c,hf,by simpa using hname,hb⟩,λU w cargs hi hg ha=>calls_of_wp hf hb ?_⟩;refine sS (C:=C) (fid:=f) hm c n ih AE (CH.start hi hg ha fn.ntmps (λ_=>0)) λx u t σ' h1 a' w' d _ j=>?_;have Iv:IT.step (B2 C) (IT.run (B2 C) n) (YX C f fn σ') h1=some (.ret,[r],h')->a'.defers=[]/\∃v,(results fn a'.tmps).run C.P w'= .ok v w'/\∃b,GO b h' w'/\KF U w b w'/\Bz b r v/\(C.IJ f=true->∃s c,HY b w.heap.size w' s c v r):=λaB3=>by obtain⟨r',h2,v,b,e,q,o,m,l,k⟩:=zL aB3 j;cases e;exact⟨j.defers,v,q,b,o,m,l,k⟩
     cases x with
     |normal=>exact Iv d
     |ret=>exact Iv d
     |exit i=>cases d
  .cases AE⟩
end
def Ev.calls{C:FC}(hm:C.P.follows .mixedOrders=true)(zN:∀g cs,C.Gq g=some cs->cs.all Aa.K6=true)(ky:Xz C){f:FuncId}{args:List Aa}{h:Ah}{Q:Aa->Ah->Prop}(NH:Ev C f args h Q){U:Gh}{w:World}{cargs:Array Value}(hi:GO U h w)(hg:∀g cs,C.Gq g=some cs->CD U cs g 0)(ha:AS U args cargs.toList):
  Calls C.P (Ez f) cargs w λe w'=>match e with
   | .returned v=>∃r h' b,Q r h'/\GO b h' w'/\KF U w b w'/\Bz b r v
   |_=>False:=by
 obtain⟨n,x,vs,h',AE,rfl,r,rfl,hQ⟩:=NH;refine(((Zt hm zN ky n).2 f args h r h' AE).2 U w cargs hi hg ha).mono λe w' he=>?_;cases e with
 |returned v=>obtain⟨b,i,d,c,_⟩:=he;exact⟨r,h',b,hQ,i,d,c⟩
 |_=>exact he
end Go.Am
end
section
namespace Go.Am
open Go
inductive Ty where
 |bool
 |int (k:IntKind)
 |str
 |sl (e:Ty)
 |st (fs:List Ty)
 deriving Inhabited
mutual
def Ty.size:Ty->Nat
 | .bool| .int _| .str| .sl _=>1
 | .st fs=>Ty.Ll fs
def Ty.Ll:List Ty->Nat
 |[]=>0
 |t::ts=>Ty.size t+Ty.Ll ts
end
mutual
def Ph(P:Program):Ty->TypeId->Bool
 | .bool,t=>match P.underlying t with|some .bool=>true|_=>false
 | .int k,t=>match P.underlying t with|some (.int k')=>decide (k'=k)|_=>false
 | .str,t=>match P.underlying t with|some .string=>true|_=>false
 | .sl e,t=>match P.underlying t with
  |some (.slice b)=>P.cellsOf b==Ty.size e&&decide (0<Ty.size e)&&Ph P e b
  |_=>false
 | .st fs,t=>match P.underlying t with
  |some (.struct fields)=>P.cellsOf t==Ty.Ll fs&&NI P fs fields.toList 0
  |_=>false
def NI(P:Program):List Ty->List Field->Nat->Bool
 |[],[],_=>true
 |ty::tys,f::fs,off=>f.offset==off&&P.cellsOf f.type==Ty.size ty&&Ph P ty f.type&&NI P tys fs (off+Ty.size ty)
 |_,_,_=>false
end
mutual
def XA:Ty->List Aa->Prop
 | .bool,l=>∃b,l=[.bool b]
 | .int k,l=>∃n,l=[.int k n]/\(Lit.int k n).wf=true
 | .str,l=>∃s:Aq,l=[.str s]/\s.length<=maxLen
 | .sl e,l=>l=[.slnil]\/∃Ao:List (List Aa),l=[.sl (Ty.size e) Ao]/\Ao.length<=maxLen/\∀r∈Ao,XA e r
 | .st fs,l=>nI fs l
def nI:List Ty->List Aa->Prop
 |[],l=>l=[]
 |ty::tys,l=>∃a b,l=a++b/\XA ty a/\nI tys b
end
def Ty.qx:Ty->Bool
 | .st _=>true
 |_=>false
def nJ(ty:Ty)(a:Aa):Prop:=if ty.qx then∃cs,a= .agg cs/\XA ty cs else XA ty [a]
def S1:List Ty->List Aa->Prop
 |[],l=>l=[]
 |ty::tys,l=>∃a b,l=a::b/\nJ ty a/\S1 tys b
def Fz(W:World):Gh:={Hh:=λb o=>(W.cell? ⟨b,o,none⟩).filter (·.oneCell'),mu:=λ_=>none,BE:=λ_=>none,sz:=λ_=>none}
def sT(W:World):GO (Fz W) [] W:=by refine⟨λb o v h=>?_,λid x h=>by simp at h,λid cs h=>by simp at h,λid es h=>by simp at h,λid b h=>(by cases h),λb x h=>(by cases h),λb n h=>(by cases h)⟩;simp only[Fz,OJ] at h;exact⟨h.1,h.2,.inl rfl⟩
def Rh{W:World}{b o:Nat}{v:Value}(h:W.cell? ⟨b,o,none⟩=some v)(h1:v.oneCell'=true):(Fz W).Hh b o=some v:=by simp[Fz,h,h1,Option.filter]
def R2{V:Type}{p:Nat->V->Prop}:∀(n:Nat),(∀i,i<n->∃x,p i x)->∃l:List V,l.length=n/\∀i x,l[i]?=some x->p i x
 |0,_=>⟨[],rfl,Aw⟩
 |n+1,h=>by
  obtain⟨l,hl,hp⟩:=R2 n λi hi=>h i Ab;obtain⟨x,hx⟩:=h n Ab;refine⟨l++[x],by simp[hl],λi y hy=>?_⟩;rw[aAB] at hy;split at hy;.exact hp i y hy
  .have:i-l.length=0:=by
    rcases Kf (i-l.length) with h0|h0
    .exact h0
    .rw[C3 ER] at hy;cases hy
   rw[this] at hy;simp at hy;subst hy;have:i=n:=Ab;rw[this];exact hx
section
variable{H:Type}{enc:TypeId×Value->H}{P:Program}{W:World}
def OS{a:Addr}{n:Nat}{cs:List Value}(h:W.cells? 0 a n=some cs)(hn:0<n):a.spot=none:=by
 obtain⟨_,hl,hc⟩:=World.cells?_some h;have h0:=hc 0 hn;have hlt:0<cs.length:=Ab;rw[Ai hlt] at h0;unfold World.cell? at h0;have ha:a.add 0=a:=by simp[Addr.add]
 rw[ha] at h0;split at h0
 .split at h0;.cases h0
  .rename_i hs;simpa using hs
 .cases h0
mutual
def XB:∀(ty:Ty) {t:TypeId} {fuel:Nat} {cs:List Value} {x:DataW H×List MemPlace},Ph P ty t=true->DataW.trod enc P W 0 (λ_=>true) true fuel t cs=some x->
  ∃as,XA ty as/\AS (Fz W) as cs/\(∀u∈cs,u.oneCell'=true)/\as.length=Ty.size ty
 | .bool,t,fuel,cs,x,Kh,h=>by
  unfold Ph at Kh;split at Kh;.rename_i ht;obtain⟨b,rfl,_⟩:=DataW.trod_bool ht h;exact⟨[.bool b],⟨b,rfl⟩,⟨_,[],rfl,rfl,rfl⟩,by simp[Value.oneCell'],rfl⟩
  .cases Kh
 | .int k,t,fuel,cs,x,Kh,h=>by
  unfold Ph at Kh;split at Kh
  .rename_i k' ht;have hk:k'=k:=by simpa using Kh
   subst hk;obtain⟨n,rfl,_,hw⟩:=DataW.trod_int ht h;exact⟨[.int k' n],⟨n,rfl,hw⟩,⟨_,[],rfl,rfl,rfl⟩,by simp[Value.oneCell'],rfl⟩
  .cases Kh
 | .str,t,fuel,cs,x,Kh,h=>by
  unfold Ph at Kh;split at Kh
  .rename_i ht;obtain⟨s,rfl,_,hs⟩:=DataW.trod_string ht h;refine⟨[.str s.data.toList],⟨_,rfl,by
    have e:s.data.toList.length=s.size:=by rw[B0];rfl
    rw[e];exact hs⟩,⟨_,[],rfl,?_,rfl⟩,by simp[Value.oneCell'],rfl⟩
   show Value.string s= .string ⟨⟨s.data.toList⟩⟩;congr 1
  .cases Kh
 | .sl e,t,fuel,cs,x,Kh,h=>by
  unfold Ph at Kh;split at Kh
  .rename_i z ht;simp only[Bt,xS,C9] at Kh;obtain⟨⟨hce,hpos⟩,aB4⟩:=Kh;rcases DataW.trod_slice ht h with⟨rfl,_⟩|⟨a,len,cap,elems,rest,n,_,rfl,_,_,hl,hm,hlen,c,hsp,_⟩
   .exact⟨[.slnil],.inl rfl,⟨_,[],rfl,rfl,rfl⟩,by simp[Value.oneCell'],rfl⟩
   .have spot:0<cap->a.spot=none:=λhc=>by
     have ha:a.add 0=a:=by simp[Addr.add]
     rcases Kf len with h0|h0
     .obtain⟨I7,Lj⟩:=hsp rfl;have:=Lj 0 Ab;rw[Ai (Ab:0<rest.length)] at this;have kz:(len+0)*P.cellsOf z=0:=by rw[h0];simp
      rw[kz,ha] at this;obtain⟨vs,hv,_⟩:=QR.1 this;exact OS hv Ab
     .have:=c 0 h0;rw[Ai (Ab:0<elems.length)] at this;rw[KZ,ha] at this;obtain⟨vs,hv,_⟩:=QR.1 this;exact OS hv Ab
    obtain⟨Ao,cU,Zj⟩:=R2 (p:=λi (r:List Aa)=>XA e r/\r.length=Ty.size e/\CD (Fz W) r a.block (a.off+i*Ty.size e)) len λi hi=>by
     have:=c i hi;rw[Ai (Ab:i<elems.length)] at this;obtain⟨vs,hv,hd⟩:=QR.1 this;obtain⟨r,m,g,d,l⟩:=XB e aB4 hd;refine⟨r,m,l,CD.Gf λj y hj=>?_⟩;obtain⟨u,hu,q⟩:=g.get hj;obtain⟨_,hvl,v⟩:=World.cells?_some hv;have rO:j<P.cellsOf z:=by have:=(Ae.1 hu).1;omega
     have hc:=v j rO;rw[hu] at hc;have cL:a=⟨a.block,a.off,none⟩:=by have:=spot Ab;cases a;simp_all
     have L7:(a.add (i*P.cellsOf z)).add j=⟨a.block,a.off+i*Ty.size e+j,none⟩:=by rw[hce];generalize a.block=b at*;generalize a.off=o at*;subst cL;rw[Addr.add_lit,Addr.add_lit]
     rw[L7] at hc;exact⟨u,Rh hc (d u (Cb hu)),q⟩
    refine⟨[.sl (Ty.size e) Ao],.inr ⟨Ao,rfl,Ab,λr hr=>?_⟩,⟨_,[],rfl,⟨a,cap,by rw[cU],Ab,?_,Ey.Gf λi r hr=>?_⟩,rfl⟩,by simp[Value.oneCell'],rfl⟩;.obtain⟨i,hi⟩:=Cq hr;exact(Zj i r hi).1
    .rcases Kf cap with h0|h0
     .exact .inr h0
     .exact .inl (spot h0)
    .exact⟨(Zj i r hr).2.1,(Zj i r hr).2.2⟩
  .cases Kh
 | .st fs,t,fuel,cs,x,Kh,h=>by
  unfold Ph at Kh;split at Kh
  .rename_i fields ht;simp only[Bt,xS] at Kh;obtain⟨hct,hf⟩:=Kh;obtain⟨xs,n,_,_,hcl,A,Q9⟩:=DataW.trod_struct ht h;obtain⟨as,m,g,d,l⟩:=R4 fs (fields:=fields.toList) (off:=0) (cs:=cs) (n:=n) hf (λi f hi=>by
    have:=Q9 i f (by simpa using hi);have hlt:i<fields.size:=by have:=(Ae.1 hi).1;simpa using this
    rw[Ai (Ab:i<xs.length)] at this;exact⟨_,this⟩) (by rw[hcl,hct];omega)
   have B:(cs.drop 0).take (Ty.Ll fs)=cs:=by rw[KX];exact AR (by rw[hcl,hct];exact Af _)
   rw[B] at g d;exact⟨as,m,g,d,l⟩
  .cases Kh
def R4:∀(tys:List Ty) {fields:List Field} {off:Nat} {cs:List Value} {n:Nat},NI P tys fields off=true->
  (∀(i:Nat) (f:Field),fields[i]?=some f->∃y,DataW.trod enc P W 0 (λ_=>true) true n f.type ((cs.drop f.offset).take (P.cellsOf f.type))=some y)->off+Ty.Ll tys<=cs.length->
  ∃as,nI tys as/\AS (Fz W) as ((cs.drop off).take (Ty.Ll tys))/\(∀u∈(cs.drop off).take (Ty.Ll tys),u.oneCell'=true)/\as.length=Ty.Ll tys
 |[],fields,off,cs,n,Kh,h,hl=>by refine⟨[],rfl,?_,?_,rfl⟩<;>simp[Ty.Ll,AS]
 |ty::tys,fields,off,cs,n,Kh,h,hl=>by
  cases fields with
  |nil=>simp[NI] at Kh
  |cons f fs=>
   simp only[NI,Bt,xS] at Kh;obtain⟨⟨⟨ho,hc⟩,VZ⟩,rZ⟩:=Kh;obtain⟨y,hy⟩:=h 0 f rfl;rw[ho,hc] at hy;obtain⟨as,m,l,k,j⟩:=XB ty VZ hy;simp only[Ty.Ll] at hl;obtain⟨bs,e,d,c,b⟩:=R4 tys rZ (λi g hi=>h (i+1) g (by simpa using hi)) Ab;have o:(cs.drop off).take (Ty.Ll (ty::tys))=(cs.drop off).take (Ty.size ty)++(cs.drop (off+Ty.size ty)).take (Ty.Ll tys):=by simp only[Ty.Ll];rw[jk,DL]
   rw[o];refine⟨as++bs,⟨as,bs,rfl,m,e⟩,l.append d,λu hu=>?_,by simp[j,b,Ty.Ll]⟩;rcases Ak.1 hu with hu|hu
   .exact k u hu
   .exact c u hu
end
def XC{ty:Ty}{t:TypeId}{v:Value}{base:Nat}(Kh:Ph P ty t=true)(hv:Value.okWide P W .any base t v):if ty.qx then∃cs,v= .agg cs else v.cells=#[v]:=by
 cases ty with
 |st fs=>
  unfold Ph at Kh;split at Kh;.rename_i fields ht;unfold Value.okWide at hv;rw[ht] at hv;obtain⟨cs,e,_⟩:=hv;exact⟨cs,e⟩
  .cases Kh
 |_=>
  unfold Ph at Kh;split at Kh;.rename_i ht;unfold Value.okWide at hv;rw[ht] at hv;simp only[Cell.okWide,ht,Cell.ok] at hv;cases v<;>first|rfl|exact hv.elim
  .cases Kh
def Wj:∀{tys:List Ty} {ts:List TypeId} {vs:List Value} {ds:List (DataW H)} {ps:List MemPlace} {base:Nat},DataW.TrodAll enc P W 0 (λ_=>true) true ts vs ds ps->tys.length=ts.length->(∀(i:Nat) (ty:Ty) (t:TypeId),tys[i]?=some ty->ts[i]?=some t->Ph P ty t=true)->
  (∀(i:Nat) (t:TypeId) (v:Value),ts[i]?=some t->vs[i]?=some v->Value.okWide P W .any base t v)->∃as,S1 tys as/\AS (Fz W) as vs
 |[],[],[],[],_,_,_,_,_,_=>⟨[],rfl,rfl⟩
 |ty::tys,t::ts,v::vs,d::ds,ps,base,⟨p,q,⟨fuel,h1⟩,h2,_⟩,hl,Kh,Pj=>by
  have VZ:=Kh 0 ty t rfl rfl;obtain⟨cells,f,b,k,l⟩:=XB ty VZ h1;obtain⟨bs,j,g⟩:=Wj h2 (by simpa using hl) (λi ty t h h'=>Kh (i+1) ty t (by simpa using h) (by simpa using h')) (λi t v h h'=>Pj (i+1) t v (by simpa using h) (by simpa using h'));have hc:=XC VZ (Pj 0 t v rfl rfl);have:∃a,nJ ty a/\Bz (Fz W) a v:=by
   by_cases HW:ty.qx=true;.rw[Ad HW] at hc;obtain⟨us,rfl⟩:=hc;exact⟨.agg cells,(by unfold nJ;rw[Ad HW];exact⟨cells,rfl,f⟩),us,rfl,by simpa[Value.cells] using b,by simpa[Value.cells] using k⟩
   .rw[Ac HW] at hc;rw[hc] at b;obtain⟨u,us,e,hu,hnil⟩:∃c Gd,cells=c::Gd/\Bz (Fz W) c v/\Gd=[]:=by
     cases cells with
     |nil=>cases b
     |cons c Gd=>obtain⟨u,C6,e,h1,h2⟩:=b;simp at e;obtain⟨rfl,rfl⟩:=e;exact⟨c,Gd,rfl,h1,by cases Gd with|nil=>rfl|cons _ _=>obtain⟨_,_,e,_⟩:=h2;cases e⟩
    subst hnil;subst e;exact⟨u,(by unfold nJ;rw[Ac HW];exact f),hu⟩
  obtain⟨a,ha,hr⟩:=this;exact⟨a::bs,⟨a,bs,rfl,ha,j⟩,⟨v,vs,rfl,hr,g⟩⟩
 |[],_::_,_,_,_,_,_,hl,_,_=>by simp at hl
 |_::_,[],_,_,_,_,_,hl,_,_=>by simp at hl
 |[],[],_::_,_,_,_,h,_,_,_=>by cases h
 |[],[],[],_::_,_,_,h,_,_,_=>by cases h
 |_::_,_::_,[],_,_,_,h,_,_,_=>by cases h
 |_::_,_::_,_::_,[],_,_,h,_,_,_=>by cases h
def T3{W':World}{may:MemPlace->Prop}(h1:W'.os=W.os)(h2:W'.output=W.output)(hb:∀i,i<W.heap.size->W'.heap[i]?=W.heap[i]?):W.keptBut W' may:=by
 refine⟨h1,h2,λi hi=>?_⟩;rw[hb i hi];split;.rename_i c t fr c' t' mK d b;rw[d] at b;cases b;exact⟨rfl,rfl,rfl,λ_ _=>rfl⟩
 .rename_i d b;rw[d] at b;cases b;exact .inr ⟨rfl,rfl⟩
 .rfl
def OT(hl:laidOutB P=true){W':World}(hb:RowKit.Below W.heap.size W W'):∀{ts:List TypeId} {vs:List Value} {ds:List (DataW H)} {ps:List MemPlace},(∀t∈ts,P.readableRec t=true/\t<P.types.size)->
  DataW.TrodAll enc P W 0 (λ_=>true) true ts vs ds ps->(∀x∈ps,x.block<W.heap.size)->DataW.TrodAll enc P W' 0 (λb=>decide (b<W.heap.size)) true ts vs ds ps
 |[],[],[],ps,_,h,_=>h
 |t::ts,v::vs,d::ds,ps,Xl,⟨p,q,h1,h2,e⟩,hlt=>by subst e;have ht:=Xl t Aw;exact⟨p,q,RowKit.Below.trod hl ht.1 ht.2 h1 hb λx hx=>hlt x (Cc _ hx),OT hl hb (λt' h'=>Xl t' (by simp[h'])) h2 λx hx=>hlt x (By _ hx),rfl⟩
 |[],[],_::_,_,_,h,_=>by cases h
 |[],_::_,_,_,_,h,_=>by cases h
 |_::_,[],_,_,_,h,_=>by cases h
 |_::_,_::_,[],_,_,h,_=>by cases h
end
def XD{C:FC}(hm:C.P.follows .mixedOrders=true)(zN:∀g cs,C.Gq g=some cs->cs.all Aa.K6=true)(ky:Xz C)(hl:laidOutB C.P=true){f:FuncId}{fn:Func}{rt:TypeId}(k:f<=99999)(c:fn.resultTypes=#[rt])(l:C.P.underlying rt=some .bool){tys:List Ty}(hlen:tys.length=fn.params.size)
  (aB5:∀(i:Nat) (ty:Ty) (t:TypeId),tys[i]?=some ty->fn.params[i]?=some t->Ph C.P ty t=true) (Ú:∀t∈fn.params.toList,C.P.readableRec t=true/\t<C.P.types.size)
  (NH:∀as,S1 tys as->Ev C f as [] λr _=>r= .bool true) {s:ChangeSpec} (jx:s.vars=[])
  {H:Type} (zD:∀ds:List (DataW H),ds.length=fn.params.size->s.fn H ds={results:=[.lit (.bool true)],args:=ds})
  {enc:TypeId×Value->H} {W:World} {base:Nat} {args:Array Value} {ds gs:List (DataW H)} {before:List MemPlace} (hg:∀g cs,C.Gq g=some cs->CD (Fz W) cs g 0)
  (Pj:∀(j:Nat) (t:TypeId) (v:Value),fn.params[j]?=some t->args[j]?=some v->Value.okWide C.P W .any base t v) (hW:DataW.Whole enc C.P fn.params.toList s.vars false W args.toList ds gs before):
  Calls C.P f args W λe W'=>∃v,e= .returned v/\s.post enc C.P fn false true false false W args v W':=by
 have m:=hW;have hlt:=hW.lt;obtain⟨p,q,o,n,rfl,hfz,zl⟩:=hW;rw[jx] at n;have qp:gs=[]/\q=[]:=by
  cases gs with
  |nil=>exact⟨rfl,n⟩
  |cons _ _=>cases n
 obtain⟨rfl,rfl⟩:=qp;obtain⟨as,sU,Pf⟩:=Wj o (by simpa using hlen) (λi ty t h h'=>aB5 i ty t h (by simpa using h')) (λi t v h h'=>Pj i t v (by simpa using h) (by simpa using h'));have dE:ds.length=fn.params.size:=by
  have key:∀{ts:List TypeId} {vs:List Value} {ds:List (DataW H)} {ps:List MemPlace},DataW.TrodAll enc C.P W 0 (λ_=>true) true ts vs ds ps->ds.length=ts.length:=by
   intro ts;induction ts with
   |nil=>intro vs ds ps h;cases vs<;>cases ds<;>first|rfl|cases h
   |cons t ts ih=>
    intro vs ds ps h;cases vs with
    |nil=>cases h
    |cons v vs=>
     cases ds with
     |nil=>cases h
     |cons d ds=>obtain⟨_,_,_,h2,_⟩:=h;simp[ih h2]
  simpa using key o
 have SY:=(NH as sU).calls hm zN ky (sT W) hg Pf;rw[show Ez f=f from Ad k] at SY;refine SY.mono λe W' he=>?_;cases e with
 |returned v=>
  obtain⟨r,h',u,rfl,hi,IS,hv⟩:=he;have hvb:v= .bool true:=hv;subst hvb;have hold:∀i,i<W.heap.size->W'.heap[i]?=W.heap[i]?:=λi rW=>(IS.ME i rW λid h0=>by cases h0).1;have b:RowKit.Below W.heap.size W W':=⟨IS.os,IS.tape,IS.output,IS.size,hold⟩;refine⟨_,rfl,ds,[],p++[],[],p,[],m,?_,?_,?_,T3 IS.os IS.output hold,λh0=>by cases h0⟩;.rw[BQ,zD ds dE,c];exact⟨[],[],RowKit.shut_bool l true,rfl,rfl⟩
  .rw[BQ,zD ds dE];exact OT hl b Ú o λx hx=>hlt x (by simpa using hx)
  .rw[BQ,zD ds dE,jx];rfl
 |_=>exact he.elim
end Go.Am
end
