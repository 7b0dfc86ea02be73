/- Lemmas -/
import Derived.Scope
import Derived.Test.YtbnogamdhadfcaaGreatDoorT7
import Derived.Carry
import Derived.ReadAgain
set_option linter.unusedVariables false
set_option linter.unusedSimpArgs false
section
namespace Go.Am
open Go
def uj(x y:D9):Prop:=
 match x with
 | .box ver cs ow=>∃Fw FI MC,y= .box Fw FI MC/\ver<=Fw/\(Fw=ver->FI=cs/\MC=ow)
 | .EI t o=>y= .EI t o\/y= .undef
 |x=>y=x
theorem uj.refl(x:D9):uj x x:=by
 cases x with
 |box ver cs ow=>exact⟨ver,cs,ow,rfl,Ac _,λ_=>⟨rfl,rfl⟩⟩
 |EI t o=>exact .inl rfl
 |_=>rfl
theorem uj.trans{x y z:D9}(h:uj x y)(k:uj y z):uj x z:=by
 cases x with
 |box ver cs ow=>
  obtain⟨v1,c1,o1,rfl,h1,h2⟩:=h;obtain⟨v2,c2,o2,rfl,k1,k2⟩:=k;refine⟨v2,c2,o2,rfl,Bt h1 k1,λe=>?_⟩;have e1:v1=ver:=by omega
  have e2:v2=v1:=by omega
  obtain⟨rfl,rfl⟩:=k2 e2;exact h2 e1
 |EI t o=>
  rcases h with rfl|rfl
  .exact k
  .exact .inr k
 |_=>rw[show y=_ from h] at k;exact k
def Gz(W:List Nat)(σ τ:BG):Prop:=τ.length=σ.length/\∀s,s∉W->uj (σ.at s) (τ.at s)
theorem Gz.refl(W:List Nat)(σ:BG):Gz W σ σ:=⟨rfl,λ_ _=> .refl _⟩
theorem Gz.trans{W:List Nat}{σ τ ρ:BG}(h:Gz W σ τ)(k:Gz W τ ρ):Gz W σ ρ:=⟨k.1.trans h.1,λs hs=>(h.2 s hs).trans (k.2 s hs)⟩
theorem Gz.mono{W W':List Nat}{σ τ:BG}(h:Gz W σ τ)(hw:∀s∈W,s∈W'):Gz W' σ τ:=⟨h.1,λs hs=>h.2 s λhm=>hs (hw s hm)⟩
theorem Gz.set{W:List Nat}{σ:BG}{s:Nat}{x:D9}(hs:s∈W):Gz W σ (σ.set s x):=
 ⟨by simp,λt ht=>by rw[BG.Fm λe=>ht (by rw[<-e];exact hs)];exact .refl _⟩
theorem Gz.put{W:List Nat}{σ:BG}{d:Option Nat}{x:D9}(hs:∀s∈d.toList,s∈W):Gz W σ (σ.put d x):=by
 cases d with
 |none=>exact .refl _ _
 |some d=>exact .set (hs d (by simp))
section
variable{C:FJ}{fid:FuncId}{ops:List Oper}{run:IT->Ag->Option Js}{σ σ':BG}{h h':Ag}{W:List Nat}
theorem Gz.drop(σ:BG)(ds:List Nat):Gz W σ (σ.drop ds):=by
 refine⟨BG.length_drop σ ds,λs _=>?_⟩;rw[BG.TS];cases hx:σ.at s with
 |EI t o=>
  simp only
  split;·exact .inr rfl
  .exact .inl rfl
 |_=>exact .refl _
theorem fK{r:Et}{ds:List Nat}(hd:r.L9 C run (σ.drop ds) h σ' h')(hw:∀s∈r.wf,s∈W):Gz W σ σ':=by obtain⟨ws,rfl,h1,_⟩:=Xl hd;refine(Gz.drop σ ds).trans ⟨BG.IY ws _,λs hs=>?_⟩;rw[BG.F9 ws _ s λp hp e=>hs (hw s (by rw[<-e];exact h1 p hp))];exact .refl _
theorem OI{x:Operand}{d:Nat}{take:Bool}{r:Et}(h:Jz C σ x d take=some r):∀s∈r.wf,s=d\/(take=true/\x= .tmp s):=by
 unfold Jz at h;split at h;·cases h;simp[Et.wf]
 .cases h;simp[Et.wf]
 .split at h
  .rename_i ht;cases h;intro s hs;simp only[Et.wf,BE,Ap] at hs;rcases hs with hs|hs
   .revert hs;generalize hX:Qo _ _=tf;intro hs;unfold Qo at hX;split at hX;·subst hX;simp at hs;exact .inr ⟨ht,by rw[hs]⟩
    .subst hX;simp at hs
   .exact .inl (by simpa using hs)
  .cases hc:HH _ with
   |none=>rw[hc] at h;cases h
   |some sl=>rw[hc] at h;cases h;simp[Et.wf]
 .cases hc:HH _ with
  |none=>rw[hc] at h;cases h
  |some sl=>rw[hc] at h;cases h;simp[Et.wf]
 .cases h
theorem QF{x:Operand}{p:Nat×Aa}(h:CZ σ x=some p):x= .tmp p.1:=by
 cases x with
 |tmp t=>
  simp only[CZ] at h;cases hx:σ.at t with
  |own v=>rw[hx] at h;cases h;rfl
  |_=>rw[hx] at h;cases h
 |_=>cases h
theorem aK{t:TypeId}{v:Aa}{d:Nat}{r:Et}(h:Sx C fid t v d=some r):r.wf=[d]:=by
 unfold Sx at h;split at h;·cases h
 .split at h;·cases h
  .split at h<;>(cases h;rfl)
theorem Pl:∀{xs:List Operand} {vs:List Aa} {fz:List (Nat×List Aa)},Gu C σ xs=some (vs,fz)->∀p∈fz,p.1∈JA xs
 |[],vs,fz,hc=>by cases hc;simp
 |x::xs,vs,fz,hc=>by
  unfold Gu at hc;split at hc;·cases hc
  .rename_i Hl fz' hxs;have ih:=Pl hxs;have up:∀p∈fz',p.1∈JA (x::xs):=λp hp=>by obtain⟨y,hy,he⟩:=Cj.1 (ih p hp);exact Cj.2 ⟨y,List.mem_cons_of_mem _ hy,he⟩
   split at hc
   .rename_i s ver cs ow hs;split at hc;·cases hc
    .cases hc;intro p hp;rcases AP.1 hp with rfl|hp
     .simp[JA]
     .exact up p hp
   .rename_i sl _ hs;cases hv:sl.Gt with
    |none=>rw[hv] at hc;cases hc
    |some u=>rw[hv] at hc;cases hc;exact up
   .cases hc
theorem kX{o:Oper}{r:Et}(hc:Fv C fid ops σ o=some r)(hd:r.L9 C run (σ.drop r.news) h σ' h'):Gz (ES ops o) σ σ':=by
 have QE:∀s∈o.dst.toList,s∈ES ops o:=λs hs=>CF _ hs
 have hwf:(∀s∈r.wf,s∈ES ops o)->Gz (ES ops o) σ σ':=fK hd
 have WC:r.wf=o.dst.toList->Gz (ES ops o) σ σ':=λe=>hwf (by rw[e];exact QE)
 have SM:∀{m x},Td m o.dst x=some r->Gz (ES ops o) σ σ':=λ{m x} he=>by
  obtain⟨_,_,rfl⟩:=Hg he
  exact WC rfl
 have GK:∀{p x},Rz p o.dst x=some r->Gz (ES ops o) σ σ':=λ{p x} he=>by
  obtain⟨args,_,rfl⟩:=Dy he
  exact WC (by simp[Et.wf])
 unfold Fv at hc
 split at hc
 .rename_i x ho
  split at hc
  .rename_i d FG
   refine hwf λs hs=>?_
   rcases OI hc s hs with rfl|⟨ht,rfl⟩
   .exact QE s (by rw[FG];simp)
   .refine BV _ ?_
    simp[ho,FG,ht]
  .cases hc
 .rename_i x ho
  split at hc
  .rename_i d FG
   refine hwf λs hs=>?_
   rcases OI hc s hs with rfl|⟨ht,rfl⟩
   .exact QE s (by rw[FG];simp)
   .refine BV _ ?_
    simp[ho]
  .cases hc
 .rename_i c x y ho
  split at hc
  .rename_i d _ FG
   refine hwf λs hs=>?_
   rcases OI hc s hs with rfl|⟨ht,rfl⟩
   .exact QE s (by rw[FG];simp)
   .cases ht
  .rename_i d _ FG
   refine hwf λs hs=>?_
   rcases OI hc s hs with rfl|⟨ht,rfl⟩
   .exact QE s (by rw[FG];simp)
   .cases ht
  .exact GK hc
 .split at hc
  .rename_i d z FG hz
   split at hc
   .split at hc
    .cases hc;exact WC (by rw[FG];rfl)
    .cases hc
   .exact WC (by rw[aK hc,FG];rfl)
  .cases hc
 .split at hc
  .rename_i d v FG hz
   exact WC (by rw[aK hc,FG];rfl)
  .cases hc
 .split at hc
  .split at hc
   .exact GK hc
   .cases hc
  .cases hc
 .split at hc
  .split at hc
   .split at hc
    .cases ha:Br C σ _ with
     |none=>rw[ha] at hc;cases hc
     |some args=>rw[ha] at hc;cases hc;exact WC (by simp[Et.wf])
    .cases hc
   .cases hc
  .cases hc
 .split at hc
  .rename_i d FG
   unfold Kr at hc
   split at hc
   .cases hc;exact WC (by rw[FG];rfl)
   .rename_i s off ver cs ow ht ha
    split at hc
    .simp only at hc
     split at hc
     .cases hc
      rw[MM (by simp)] at hd
      obtain⟨rfl,rfl⟩:=hd
      have hs:σ.at s= .box ver cs ow:=by
       unfold Fu at ha
       split at ha
       .rename_i hs;cases ha;exact Gj hs
       .split at ha
        .rename_i hb;cases ha;exact hb
        .cases ha
       .exact absurd ha (by cases hv:D9.Gt _<;>simp)
       .cases ha
      refine⟨by simp[BG.drop,BG.Eh],λt htW=>?_⟩
      have htd:t≠d:=λe=>htW (QE t (by rw[FG,e];simp))
      have vB:s<σ.length:=BG.NQ (by rw[hs];simp)
      show uj (σ.at t) (BG.at ((σ.set s _).set d _) t)
      rw[BG.Fm (λe=>htd e.symm)]
      by_cases ZC:s=t
      .subst ZC
       rw[BG.EV vB,hs]
       exact⟨_,_,_,rfl,Gf _,λe=>absurd e (by omega)⟩
      .rw[BG.Fm ZC];exact .refl _
     .cases hc;exact WC (by rw[FG];rfl)
    .cases hc
   .split at hc
    .cases hc;exact WC (by rw[FG];rfl)
    .cases hc
   .cases hc
  .cases hc
 .rename_i t x y ho
  split at hc
  .rename_i FG
   unfold ID at hc
   split at hc
   .cases hc;exact hwf (by simp[Et.wf])
   .rename_i m sh s off ver cs ow v hsz dR ha hv
    split at hc
    .cases hc
     obtain⟨_,rfl,rfl⟩:=hd
     have hs:σ.at s= .box ver cs ow:=by
      unfold Fu at ha
      split at ha
      .rename_i hs;cases ha;exact Gj hs
      .split at ha
       .rename_i hb;cases ha;exact hb
       .cases ha
      .exact absurd ha (by cases hv:D9.Gt _<;>simp)
      .cases ha
     have Wx:∀(D:Option (Nat×Aa)),(∀p,D=some p->p.1∈ES ops o/\p.1≠s)->∀X:List Aa×List Nat,Gz (ES ops o) σ ((σ.Dn D).set s (.box (ver+1) X.1 X.2)):=by
      intro D hD X
      refine⟨by cases D<;>simp[BG.Dn],λt htW=>?_⟩
      have hlen:s<(σ.Dn D).length:=by
       have:s<σ.length:=BG.NQ (by rw[hs];simp)
       cases D<;>simpa[BG.Dn] using this
      by_cases ZC:s=t
      .subst ZC
       rw[BG.EV hlen,hs]
       exact⟨_,_,_,rfl,Gf _,λe=>absurd e (by omega)⟩
      .rw[BG.Fm ZC]
       cases D with
       |none=>exact .refl _
       |some p=>
        obtain⟨k1,k2⟩:=hD p rfl
        simp only[BG.Dn]
        rw[BG.Fm (λe=>htW (by rw[<-e];exact k1))]
        exact .refl _
     refine Wx _ (λp hp=>?_) (_,_)
     split at hp
     .have hy:=QF hp
      subst hy
      refine⟨BV _ (by simp[ho]),λe=>?_⟩
      simp only[CZ] at hp
      rw[e,hs] at hp
      cases hp
     .cases hp
    .cases hc
   .cases hc
  .cases hc
 .split at hc
  .rename_i FG _ _
   cases hc;exact WC (by rw[FG];rfl)
  .rename_i FG _ _
   cases hc;exact WC (by rw[FG];rfl)
  .exact GK hc
 .split at hc
  .exact GK hc
  .cases hc
 .exact GK hc
 .split at hc
  .cases hv:Eu C σ _ with
   |none=>rw[hv] at hc;cases hc
   |some v=>rw[hv] at hc;cases hc;exact WC rfl
  .split at hc
   .cases hv:Eu C σ _ with
    |none=>rw[hv] at hc;cases hc
    |some v=>rw[hv] at hc;cases hc;exact WC rfl
   .exact GK hc
  .exact GK hc
  .cases hc
 .rename_i fn first captured ho
  split at hc
  .rename_i d as bs fz FG ha hb
   cases hc
   refine hwf λs hs=>?_
   simp only[Et.wf,AP] at hs
   rcases hs with rfl|hs
   .exact QE s (by rw[FG];simp)
   .obtain⟨p,hp,rfl⟩:=Bl.1 hs
    refine BV _ ?_
    simp only[ho]
    exact Pl hb p hp
  .cases hc
 .cases hc;exact WC rfl
 .split at hc
  .split at hc
   .cases hc;exact WC rfl
   .cases hc
  .cases hc
 .split at hc
  .split at hc
   .cases hc;exact hwf (by simp[Et.wf])
   .cases hc
  .cases hc
 .split at hc
  .split at hc
   .cases hc;exact hwf (by simp[Et.wf])
   .cases hc
  .cases hc
 .split at hc
  .split at hc
   .cases hc;exact WC rfl
   .cases hc;exact WC rfl
   .cases hc
  .cases hc
 .split at hc
  .split at hc
   .exact SM hc
   .cases hc
  .cases hc
 .split at hc
  .cases hc
  .exact SM hc
  .cases hc
 .split at hc
  .split at hc
   .exact SM hc
   .cases hc
  .cases hc
 .split at hc
  .rename_i FG
   exact SM (by rw[FG];exact hc)
  .cases hc
 .split at hc
  .exact GK hc
  .split at hc
   .split at hc
    .exact SM hc
    .exact GK hc
   .cases hc
  .cases hc
 .split at hc
  .rename_i off sh d hf FG
   split at hc
   .cases hc;exact WC (by rw[FG];rfl)
   .cases hc;exact WC (by rw[FG];rfl)
   .exact GK (by rw[FG];exact hc)
  .cases hc
 .split at hc
  .exact GK hc
  .cases hc
 .split at hc
  .split at hc
   .exact GK hc
   .cases hc
  .split at hc
   .split at hc
    .cases hc
    .exact GK hc
   .cases hc
  .cases hc
 .split at hc
  .exact GK hc
  .split at hc
   .exact GK hc
   .cases hc
  .cases hc
 .exact GK hc
 .rename_i c ho
  unfold PG at hc
  split at hc
  .split at hc
   .split at hc
    .exact GK hc
    .exact GK hc
    .cases hc
   .cases hc
  .rename_i hcl
   split at hc
   .rename_i t t' s x h0 h1 Ej
    have Wx:∀p,CZ σ s=some p->p.1∈ES ops o:=λp hp=>by
     have:=QF hp
     subst this
     refine BV _ ?_
     simp only[ho,hcl,Ej]
     simp[JA]
    split at hc
    all_goals first
     |(cases hc;done)
     | (split at hc
        . split at hc
          . split at hc
            . split at hc
              . split at hc
                . cases hc
                  refine hwf fun q hq => ?_
                  simp only [Et.wf, Ap] at hq
                  rcases hq with hq | hq
                  . exact QE q hq
                  . cases fL : CZ σ s with
                    | none => rw [fL] at hq; simp at hq
                    | some p => rw [fL] at hq; simp at hq; rw [hq]; exact Wx p fL
                . split at hc
                  . cases hc
                    refine hwf fun q hq => ?_
                    simp only [Et.wf, Ap] at hq
                    rcases hq with hq | hq
                    . exact QE q hq
                    . cases fL : CZ σ s with
                      | none => rw [fL] at hq; simp at hq
                      | some p => rw [fL] at hq; simp at hq; rw [hq]; exact Wx p fL
                  . cases hc
                    refine hwf fun q hq => ?_
                    simp only [Et.wf, Ap] at hq
                    rcases hq with hq | hq
                    . exact QE q hq
                    . cases fL : CZ σ s with
                      | none => rw [fL] at hq; simp at hq
                      | some p => rw [fL] at hq; simp at hq; rw [hq]; exact Wx p fL
              . split at hc
                . cases hc
                  refine hwf fun q hq => QE q (by simpa [Et.wf] using hq)
                . cases hc
            . cases hc
          . cases hc
        . cases hc)
   .cases hc
  .split at hc
   .split at hc
    all_goals first
     |(cases hc;done)
     | (split at hc
        . exact SM hc
        . cases hc)
   .cases hc
  .split at hc
   .split at hc
    .split at hc
     .exact SM hc
     .cases hc
    .cases hc
   .cases hc
  .split at hc
   .exact GK hc
   .cases hc
  .split at hc
   .exact GK hc
   .cases hc
  .split at hc
   .split at hc
    .split at hc
     .exact SM hc
     .cases hc
    .cases hc
   split at hc
   .cases ha:Br C σ c.args.toList with
    |none=>rw[ha] at hc;cases hc
    |some args=>
     rw[ha] at hc
     simp only[BT,BF] at hc
     split at hc<;>(cases hc;exact WC rfl)
   .cases hc
  .split at hc
   .cases hc;exact WC rfl
   .cases hc
  .cases hc
 .cases hc
end
end Go.Am
end
section
namespace Go.Am
open Go
def wC:EN->Exit
 | .normal=> .normal
 | .exit i=> .exit i
 | .ret=> .ret
theorem MX:∀{l m:List Nat},l.Nodup->(∀x∈l,x∈m)->l.length<=m.length
 |[],_,_,_=>AO _
 |x::l,m,hn,hs=>by have hx:=hs x (by simp);have h1:=MX (l:=l) (m:=m.erase x) (BY.1 hn).2 λy hy=>(List.mem_erase_of_ne λe=>(BY.1 hn).1 (by rw[<-e];exact hy)).2 (hs y (by simp[hy]));rw[List.length_erase_of_mem hx] at h1;have:0<m.length:=List.length_pos_of_mem hx;simp;omega
theorem Yj{P:Program}{c:Code}{Q:Exit->Act->World->Prop}(T:Nat->Act->World->Prop)(round:∀n a w,T n a w->c.wp P (Exit.then (λa' w'=>∃m,m<n/\T m a' w') Q) a w)(n:Nat)(a:Act)(w:World)(h0:T n a w):(Code.loop c).wp P Q a w:=by
 intro b k cs;have key:∀n a w,T n a w->∃e a' w',Q e a' w'/\Arrives P (lone (b.at a (.code c:: .inLoop c::k)) cs w) b k cs e a' w':=by
  intro n;induction n using Nat.strongRecOn with
  |_ n ih=>
   intro a w hT;obtain⟨e,a1,w1,hq,gg⟩:=round n a w hT b (.inLoop c::k) cs;by_cases he:e= .normal;·subst he;obtain⟨m,hm,hT1⟩:=hq;obtain⟨e2,a2,w2,q2,r2⟩:=ih m hm a1 w1 hT1;exact⟨e2,a2,w2,q2,.of_steps (Go.Steps.trans gg (.one step_inLoop)) r2⟩
   .exact⟨e,a1,w1,by cases e<;>first|exact hq|exact absurd rfl he,.pass (x:= .inLoop c) rfl (λ_ _=> .inl he) gg⟩
 obtain⟨e,a',w',hq,gg⟩:=key n a w h0;exact⟨e,a',w',hq,.of_steps (.one step_loop) gg⟩
section
variable{C:FJ}{γ0 γ:Gh}{w0 w:World}{β:Nat->Nat}{σ:BG}{h:Ag}{a:Act}{fid:FuncId}{run:IT->Ag->Option Js}
theorem Yk{ops:List Oper}{o:Oper}{K:BG->IT}{R:Js}(hr:IT.step (B5 C) run (RC C fid ops σ o K) h=some R):
  ∃σ1,(σ1=σ\/∃s b,s∈E1 ops o/\σ.at s= .val (.bool b)/\σ1=σ.set s (.Nv b))/\
   ((HX ops σ1 o= .L6 true/\IT.step (B5 C) run (uL C fid ops σ1 o K) h=some R)\/(HX ops σ1 o= .L6 false/\IT.step (B5 C) run (K (σ1.put o.dst .skip)) h=some R)):=by
 unfold RC at hr;split at hr;·rename_i hg;exact⟨σ,.inl rfl,.inl ⟨hg,hr⟩⟩
 .rename_i hg;exact⟨σ,.inl rfl,.inr ⟨hg,hr⟩⟩
 .rename_i s v want hg;have zc:s∈E1 ops o/\σ.at s= .val v/\∀b,HX ops (σ.set s (.Nv b)) o= .L6 (b==want):=by
   unfold HX at hg⊢;unfold E1;cases ho:o.guard with
   |none=>rw[ho] at hg;cases hg
   |some g=>
    obtain⟨j,want'⟩:=g;rw[ho] at hg;simp only at hg⊢;cases hd:(ops[j]?).bind (·.dst) with
    |none=>rw[hd] at hg;cases hg
    |some s'=>
     rw[hd] at hg;simp only at hg⊢;cases hx:σ.at s' with
     |val v'=>rw[hx] at hg;cases hg;refine⟨by simp,hx,λb=>?_⟩;rw[BG.EV (BG.NQ (by rw[hx];simp))]
     |Nv c=>rw[hx] at hg;cases hg
     |skip=>rw[hx] at hg;cases hg
     |_=>rw[hx] at hg;cases hg
  obtain⟨g1,g2,g3⟩:=zc;simp only[IT.step] at hr;split at hr
  .refine⟨σ.set s (.Nv true),.inr ⟨s,true,g1,g2,rfl⟩,?_⟩;rw[g3];cases want with
   |true=>exact .inl ⟨rfl,hr⟩
   |false=>exact .inr ⟨rfl,hr⟩
  .refine⟨σ.set s (.Nv false),.inr ⟨s,false,g1,g2,rfl⟩,?_⟩;rw[g3];cases want with
   |true=>exact .inr ⟨rfl,hr⟩
   |false=>exact .inl ⟨rfl,hr⟩
  .cases hr
 .cases hr
theorem kY(hS:EF C run){ops:Array Oper}{Q:Exit->Act->World->Prop}{W:List Nat}{K:BG->IT}{R:Js}:∀(rest:List Oper) (k:Nat) (γ:Gh) (β:Nat->Nat) (σ:BG) (h:Ag) (a:Act) (w:World),
  ops.toList.drop k=rest->(∀o∈rest,(∀s∈ES ops.toList o,s∈W)/\∀s∈E1 ops.toList o,s∈W)->IT.step (B5 C) run (kJ C fid ops.toList rest σ K) h=some R->CT C γ0 w0 γ β σ h a w->
  (∀γ' β' σ' h' a' w',IT.step (B5 C) run (K σ') h'=some R->Gz W σ σ'->CT C γ0 w0 γ' β' σ' h' a' w'->Q .normal a' w')->wpOps C.P ops Q (List.range' k rest.length) a w
 |[],k,γ,β,σ,h,a,w,_,_,AV,hr,hQ=>by simp only[BU,List.range'_zero,wpOps];exact hQ γ β σ h a w AV (.refl _ _) hr
 |o::rest,k,γ,β,σ,h,a,w,hk,hW,AV,hr,hQ=>by
  have ho:ops[k]?=some o:=by
   have:ops.toList[k]?=some o:=by have h0:=Cf (·[0]?) hk;simpa[CA] using h0
   simpa using this
  have hk':ops.toList.drop (k+1)=rest:=by have h0:=Cf (List.drop 1) hk;simpa[E9] using h0
  obtain⟨zd,vX⟩:=hW o (by simp);simp only[Bf,List.range'_succ,wpOps,ho];obtain⟨σ1,hσ1,Ij⟩:=Yk AV;have Jv:CT C γ0 w0 γ β σ1 h a w/\Gz W σ σ1:=by
   rcases hσ1 with rfl|⟨s,b,g1,g2,rfl⟩
   .exact⟨hr,.refl _ _⟩
   .have h0:=hr.fr.Hz s;rw[g2] at h0;exact⟨hr.ZQ h0,.set (vX s g1)⟩
  obtain⟨Jv,aDI⟩:=Jv;have next:∀γ' β' σ' h' a' w',IT.step (B5 C) run (kJ C fid ops.toList rest σ' K) h'=some R->Gz W σ σ'->CT C γ0 w0 γ' β' σ' h' a' w'->wpOps C.P ops Q (List.range' (k+1) rest.length) a' w':=λγ' β' σ' h' a' w' Pm qO Fy=>kY hS rest (k+1) γ' β' σ' h' a' w' hk' (λo ho=>hW o (by simp[ho])) Pm Fy λγ2 β2 σ2 h2 a2 w2 K5 aJt aDJ=>hQ γ2 β2 σ2 h2 a2 w2 K5 (qO.trans aJt) aDJ
  rcases Ij with⟨hg,Ik⟩|⟨hg,Ik⟩
  .rw[if_pos (KI Jv hg)];unfold uL at Ik;split at Ik;·rename_i r hc;obtain⟨σ2,h2,hd,SN⟩:=WY Ik;exact .inl (vW hS hc hd Jv λγ' β' a' w' Fy=>next γ' β' σ2 h2 a' w' SN (aDI.trans ((kX hc hd).mono zd)) Fy)
   .cases Ik
  .rw[if_neg (by rw[KI Jv hg];simp)];exact next γ β _ h _ w Ik (aDI.trans (.put λs hs=>zd s (CF _ hs))) (Jv.put λ_ _=>rfl)
theorem fM{W:List Nat}{d:Option Nat}{σ σ':BG}(h:LA d σ σ')(hd:∀s∈d.toList,s∈W):Gz W σ σ':=by
 unfold LA at h;cases d with
 |none=>simp only at h;rw[h];exact .refl _ _
 |some d=>
  simp only at h;split at h;·obtain⟨b,_,rfl⟩:=h;exact .set (hd d (by simp))
  .rw[h];exact .refl _ _
theorem fN{ops:List Oper}{an:List Nat}{W:List Nat}(hW:∀o∈ops,∀s∈ES ops o,s∈W){fl:List Jt}{L:List St}{σ σf:BG}{h hf:Ag}(hs:Steps C fid ops run an fl L σ h σf hf):Gz W σ σf:=by
 induction hs with
 |nil=>exact .refl _ _
 |cons h1 _ _ ih=>
  refine Gz.trans ?_ ih;obtain⟨o,ho,⟨_,_,_,rfl,rfl⟩|⟨r,σ2,hg,hc,_,hd,_,ha⟩⟩:=h1;·exact .put λs hs=>hW o (CE ho) s (CF _ hs)
  .refine((kX hc hd).mono λs hs=>hW o (CE ho) s hs).trans (fM ha λs hs=>?_);split at hs;·exact hW o (CE ho) s (CF _ hs)
   .simp at hs
theorem US(hm:C.P.follows .mixedOrders=true)(hS:EF C run){id:Nat}{ops:Array Oper}{draw:Bool}{Q:Exit->Act->World->Prop}{K:BG->IT}{R:Js}(AV:IT.step (B5 C) run (Qs C fid ops.toList draw σ K) h=some R)(hr:CT C γ0 w0 γ β σ h a w)
  (hQ:∀γ' β' σ' h' a' w',IT.step (B5 C) run (K σ') h'=some R->Gz (ops.toList.flatMap (ES ops.toList)++ops.toList.flatMap (E1 ops.toList)) σ σ'->CT C γ0 w0 γ' β' σ' h' a' w'->Q .normal a' w'):(Code.region id ops draw).wp C.P Q a w:=by
 unfold Qs at AV;cases draw with
 |false=>refine wp_region ?_;have:=kY (W:=ops.toList.flatMap (ES ops.toList)++ops.toList.flatMap (E1 ops.toList)) hS ops.toList 0 γ β σ h a w rfl (λo ho=>⟨λs hs=>CF _ (List.mem_flatMap.2 ⟨o,ho,hs⟩),λs hs=>BV _ (List.mem_flatMap.2 ⟨o,ho,hs⟩)⟩) AV hr hQ;simpa[List.range_eq_range'] using this
 |true=>
  simp only[BO] at AV;split at AV
  .rename_i FG;obtain⟨L,σf,hf,h1,h2,h3⟩:=PO AV;refine wp_region_any hm ?_;have ze:=h2;unfold Ur at ze;simp only[List.reverse_nil,BD,BK] at ze;have aDK:kW (Uo ops.toList) L:=by have:=Xo ze.1;rw[List.pairwise_map] at this;exact this
   have hlt:=h1.lt;have X5:∀i,i<ops.size->i∈L.map (·.idx):=λi hi=>by have:=EL.1 ze.2 i (by simpa using hi);simpa using this
   have dh:(L.map (·.idx)).Nodup:=by rw[List.Nodup,List.pairwise_map];exact aDK.imp λh=>h.1
   have hlen:L.length=ops.size:=by
    have p1:(L.map (·.idx)).length<=(List.range ops.size).length:=MX dh (λi hi=>by obtain⟨s,hs,rfl⟩:=Bl.1 hi;simpa using hlt s hs)
    have p2:(List.range ops.size).length<=(L.map (·.idx)).length:=MX List.nodup_range λi hi=>X5 i (by simpa using hi);simp at p1 p2;omega
   have qO:=fN (W:=ops.toList.flatMap (ES ops.toList)++ops.toList.flatMap (E1 ops.toList)) (λo ho s hs=>CF _ (List.mem_flatMap.2 ⟨o,ho,hs⟩)) h1;refine q7 hS FG (λγ' β' a' w' Fy=>hQ γ' β' σf hf a' w' h3 qO Fy) ops.size L _ γ β σ h a w.drew hlen h1 aDK ⟨by simp,λi hi=>⟨λ_=>X5 i hi,λ_=>by simp[Array.getD,hi]⟩,λj hj e _=>?_⟩ hr.drew;exfalso;rcases AN j ops.size with hlt|DT
   .simp[Array.getD,hlt] at hj
   .simp[Array.getD,Nat.not_lt.2 DT] at hj
  .cases AV
end
end Go.Am
end
section
namespace Go.Am
open Go
def OJ(x y:D9):Prop:=
 (∃u,x.Gt=some u/\y= .val u)\/(∃v,x= .own v/\y= .own v)\/∃ver cs ow Fw MC,x= .box ver cs ow/\y= .box Fw cs MC/\∀o∈MC,o∈ow
theorem BG.HK:∀(ws:List Nat) (σ:BG) (s:Nat),(σ.clear ws).at s=if s∈ws then .undef else σ.at s
 |[],σ,s=>by simp[BG.clear]
 |t::ws,σ,s=>by
  rw[BG.clear,BG.HK ws];by_cases h:s∈ws;·simp[h]
  .by_cases h2:s=t
   .subst h2;rw[BG.UO];by_cases hl:s<σ.length;·simp[hl]
    .have:σ.at s= .undef:=by simp[BG.at,List.getD,hl]
     simp[h,hl,this]
   .rw[BG.Fm λe=>h2 e.symm];simp[h,h2]
theorem BG.Je:∀(ws:List Nat) (σ:BG),(σ.clear ws).length=σ.length
 |[],σ=>rfl
 |t::ws,σ=>by rw[BG.clear,BG.Je ws];simp
section
variable{C:FJ}{γ0 γ:Gh}{w0 w:World}{β:Nat->Nat}{σ:BG}{h:Ag}{a:Act}{fid:FuncId}{run:IT->Ag->Option Js}
theorem OJ.rel{B s:Nat}{x y:D9}{v:Value}(hx:Ks γ β B w s x v)(hf:OJ x y):Ks γ β B w s y v:=by
 rcases hf with⟨u,hu,rfl⟩|⟨u,rfl,rfl⟩|⟨ver,cs,ow,Fw,MC,rfl,rfl,Me⟩
 .exact Ma hx hu
 .exact hx
 .obtain⟨p1,p2,p3,us,e,p4,p5,p6,p7⟩:=hx;exact⟨p1,p2,p3,us,e,p4,p5,p6,λo ho=>p7 o (Me o ho)⟩
theorem SO{σs:BG}{G:BG->IT}{R:Js}{vs:List Aa}:∀{l:List (Nat×Sh)} {i:Nat} {σa:BG},Us σs l=some (vs.drop i)->σa.length=σs.length->IT.step (B5 C) run (IH vs l i σa G) h=some R->
  ∃σh,IT.step (B5 C) run (G σh) h=some R/\σh.length=σa.length/\(∀s,s∉l.map (·.1)->σh.at s=σa.at s)/\(∀s,s∈l.map (·.1)->OJ (σs.at s) (σh.at s)/\
   ((∃Fw FI MC,σh.at s= .box Fw FI MC/\WX (σa.at s)<Fw)\/∀ver cs ow,σs.at s≠ .box ver cs ow))
 |[],i,σa,_,_,hr=>⟨σa,hr,rfl,λ_ _=>rfl,by simp⟩
 |(s,sh)::l,i,σa,hv,hl,hr=>by
  have hd:∃v Hl,vs.drop i=v::Hl/\vs.drop (i+1)=Hl/\vs.getD i .nilIface=v/\Us σs l=some Hl/\
    (match(generalizing:=false) sh,σs.at s with| .val,x=>x.Gt| .own,.own v=>some v| .box n ow,.box _ cs MC=>if cs.length=n/\ow.all (MC.contains ·) then some (.agg cs) else none|_,_=>none)=some v:=by
   unfold Us at hv;simp only at hv;split at hv
   .rename_i v Hl h1 h2;simp only[BF] at hv;refine⟨v,Hl,hv.symm,?_,?_,h2,h1⟩;·have:=Cf (List.drop 1) hv;simpa[E9] using this.symm
    .have:=Cf (·[0]?) hv;simp only[JR,CA,Bn] at this;simp[List.getD,<-this]
   .cases hv
  obtain⟨v,Hl,hdr,aJu,Yd,UD,QG⟩:=hd;have hlt:s<σa.length:=by rw[hl];refine BG.NQ λe=>?_;rw[e] at QG;cases sh<;>simp[D9.Gt] at QG
  have go:∀(y:D9),OJ (σs.at s) y->((∃Fw FI MC,y= .box Fw FI MC/\WX (σa.at s)<Fw)\/∀ver cs ow,σs.at s≠ .box ver cs ow)->IT.step (B5 C) run (IH vs l (i+1) (σa.set s y) G) h=some R->
    ∃σh,IT.step (B5 C) run (G σh) h=some R/\σh.length=σa.length/\(∀t,t∉((s,sh)::l).map (·.1)->σh.at t=σa.at t)/\(∀t,t∈((s,sh)::l).map (·.1)->OJ (σs.at t) (σh.at t)/\
     ((∃Fw FI MC,σh.at t= .box Fw FI MC/\WX (σa.at t)<Fw)\/∀ver cs ow,σs.at t≠ .box ver cs ow)):=by
   intro y hy hy2 Fy;obtain⟨σh,k1,k2,k3,k4⟩:=SO (l:=l) (i:=i+1) (σa:=σa.set s y) (by rw[aJu];exact UD) (by simpa using hl) Fy;refine⟨σh,k1,by simpa using k2,λt ht=>?_,λt ht=>?_⟩;·simp only[Bm,AP,not_or] at ht;rw[k3 t ht.2,BG.Fm λe=>ht.1 e.symm]
   .by_cases hm:t∈l.map (·.1)
    .obtain⟨q1,q2⟩:=k4 t hm;refine⟨q1,q2.imp (λ⟨Fw,FI,MC,e1,e2⟩=>⟨Fw,FI,MC,e1,?_⟩) id⟩;by_cases ZC:s=t
     .subst ZC;rw[BG.EV hlt] at e2;rcases hy2 with⟨v1,c1,o1,rfl,h1⟩|hn
      .simp only[WX] at e2;omega
      .rcases q1 with⟨u,_,e⟩|⟨u,_,e⟩|⟨ver,cs,ow,_,_,e,_⟩
       .rw[e1] at e;cases e
       .rw[e1] at e;cases e
       .exact absurd e (hn _ _ _)
     .rwa [BG.Fm ZC] at e2
    .have ZC:t=s:=by simp only[Bm,AP] at ht;exact ht.resolve_right hm
     subst ZC;rw[k3 t hm,BG.EV hlt];exact⟨hy,hy2⟩
  cases sh with
  |val=>
   simp only[IH,Yd] at hr;have wD:(σs.at s).Gt=some v:=by simpa using QG
   refine go (.val v) (.inl ⟨v,wD,rfl⟩) (.inr λver cs ow e=>?_) hr;rw[e] at wD;cases wD
  |own=>
   simp only[IH,Yd] at hr;cases hx:σs.at s with
   |own u=>rw[hx] at QG;cases QG;exact go (.own v) (.inr (.inl ⟨v,hx,rfl⟩)) (.inr λver cs ow e=>by rw[hx] at e;cases e) hr
   |_=>rw[hx] at QG;cases QG
  |box n ow=>
   simp only[IH,Yd,IT.step] at hr;cases hx:σs.at s with
   |box ver cs MC=>
    rw[hx] at QG;simp only at QG;split at QG
    .rename_i HJ;cases QG;split at hr;·rename_i hn;rw[RH hn] at hr;refine go (.box (WX (σa.at s)+1) cs ow) (.inr (.inr ⟨ver,cs,MC,_,ow,hx,rfl,λo ho=>?_⟩)) (.inl ⟨_,_,_,rfl,tO _⟩) hr;have:=EL.1 HJ.2 o ho;simpa using this
     .cases hr
    .cases QG
   |_=>rw[hx] at QG;cases QG
theorem CT.zf(hr:CT C γ0 w0 γ β σ h a w){τ:BG}(hl:τ.length=σ.length)(hs:∀s,τ.at s= .undef\/τ.at s=σ.at s\/OJ (σ.at s) (τ.at s)):CT C γ0 w0 γ β τ h a w:=by
 refine⟨hr.DD,⟨by rw[hl];exact hr.fr.size,λs=>?_⟩,hr.Dw,hr.defers,hr.Gg⟩;have h0:=hr.fr.Hz s;rcases hs s with e|e|e
 .rw[e];trivial
 .rw[e];exact h0
 .exact e.rel h0
structure wE(σ0:BG)(ws:List Nat)(l:List (Nat×Sh))(σ':BG)(vs:List Aa):Prop where
 vec:Us σ' l=some vs
 len:σ'.length=σ0.length
 same:∀s,s∉l.map (·.1)->σ0.at s= .undef\/σ0.at s=σ'.at s
 box:∀s ver cs ow,σ0.at s= .box ver cs ow->∃Fw FI MC,σ'.at s= .box Fw FI MC
theorem aL{σ0 σ':BG}{l:List (Nat×Sh)}(hk:eE σ0 σ' l=true){s:Nat}(hs:s∉l.map (·.1)):(∀ver cs ow,σ0.at s= .box ver cs ow->∃FI MC,σ'.at s= .box ver FI MC)/\(∀t o,σ0.at s= .EI t o->∃t' o',σ'.at s= .EI t' o'):=by
 have hc:(l.map (·.1)).contains s=false:=by
  cases hc:(l.map (·.1)).contains s with
  |false=>rfl
  |true=>exact absurd (by simpa using hc) hs
 have TV:s<σ0.length->(match σ0.at s with
   | .box ver _ _=>(l.map (·.1)).contains s||(match σ'.at s with| .box Fw _ _=>Fw==ver|_=>false)
   | .EI _ _=>(l.map (·.1)).contains s||(match σ'.at s with| .EI _ _=>true|_=>false)
   |_=>true)=true:=λhl=>by
  unfold eE at hk;exact EL.1 hk s (by simpa using hl)
 constructor
 .intro ver cs ow hx;have:=TV (BG.NQ (by rw[hx];simp));rw[hx] at this;simp only[hc,Jn] at this;split at this
  .rename_i Fw FI MC hy;have e:Fw=ver:=by simpa using this
   subst e;exact⟨FI,MC,hy⟩
  .cases this
 .intro t o hx;have:=TV (BG.NQ (by rw[hx];simp));rw[hx] at this;simp only[hc,Jn] at this;split at this;·rename_i t' o' hy;exact⟨t',o',hy⟩
  .cases this
theorem NZ{σ0 σh σ':BG}{ws:List Nat}{l:List (Nat×Sh)}{x:EN}{R:Js}(To:IT.step (B5 C) run (RE σ0 l x σ') h=some R)(qO:Gz ws σh σ')(hlen:σh.length=σ0.length)
  (hin:∀s,s∈ws->σ0.at s= .undef) (L8:∀s,s∉l.map (·.1)->σ0.at s= .undef\/σ0.at s=σh.at s) (aJv:∀s ver cs ow,σ0.at s= .box ver cs ow->∃Fw FI MC,σh.at s= .box Fw FI MC):
  ∃vs,R=(x,vs,h)/\wE σ0 ws l σ' vs:=by
 unfold RE at To;split at To
 .rename_i hk;split at To
  .rename_i vs hv;cases To;refine⟨vs,rfl,hv,qO.1.trans hlen,λs hs=>?_,λs ver cs ow hb=>?_⟩
   .by_cases hw:s∈ws;·exact .inl (hin s hw)
    .rcases L8 s hs with e|e
     .exact .inl e
     .right;have Wj:=qO.2 s hw;obtain⟨k1,k2⟩:=aL hk hs;rw[e] at k1 k2⊢;cases hx:σh.at s with
      |box ver cs ow=>rw[hx] at Wj;obtain⟨v1,c1,o1,e1,_,e2⟩:=Wj;obtain⟨c2,o2,e3⟩:=k1 ver cs ow hx;rw[e1] at e3;cases e3;obtain⟨rfl,rfl⟩:=e2 rfl;exact e1.symm
      |EI t o=>
       rw[hx] at Wj;rcases Wj with e1|e1
       .exact e1.symm
       .obtain⟨t',o',e2⟩:=k2 t o hx;rw[e1] at e2;cases e2
      |_=>rw[hx] at Wj;exact(show σ'.at s=_ from Wj).symm
   .have hw:s∉ws:=λhw=>by rw[hin s hw] at hb;cases hb
    obtain⟨v1,c1,o1,e1⟩:=aJv s ver cs ow hb;have Wj:=qO.2 s hw;rw[e1] at Wj;obtain⟨v2,c2,o2,e2,_⟩:=Wj;exact⟨v2,c2,o2,e2⟩
  .cases To
 .cases To
theorem wE.next{σ0 σ':BG}{ws:List Nat}{l:List (Nat×Sh)}{vs:List Aa}(he:wE σ0 ws l σ' vs){G:BG->IT}{R:Js}(hr:CT C γ0 w0 γ β σ' h a w)(AV:IT.step (B5 C) run (IH vs l 0 σ0 G) h=some R):
  ∃σh,IT.step (B5 C) run (G σh) h=some R/\CT C γ0 w0 γ β σh h a w/\σh.length=σ0.length/\(∀s,s∉l.map (·.1)->σh.at s=σ0.at s)/\(∀s ver cs ow,σ0.at s= .box ver cs ow->∃Fw FI MC,σh.at s= .box Fw FI MC/\(s∈l.map (·.1)->ver<Fw)):=by
 obtain⟨σh,k1,k2,k3,k4⟩:=SO (σs:=σ') (by simpa using he.vec) he.len.symm AV;refine⟨σh,k1,hr.zf (k2.trans he.len.symm) λs=>?_,k2,k3,λs ver cs ow hb=>?_⟩
 .by_cases hm:s∈l.map (·.1);·exact .inr (.inr (k4 s hm).1)
  .rw[k3 s hm];rcases he.same s hm with e|e
   .exact .inl e
   .exact .inr (.inl e)
 .by_cases hm:s∈l.map (·.1)
  .obtain⟨_,q⟩:=k4 s hm;obtain⟨v1,c1,o1,e1⟩:=he.box s ver cs ow hb;rcases q with⟨Fw,FI,MC,e2,e3⟩|q
   .exact⟨Fw,FI,MC,e2,λ_=>by rw[hb] at e3;exact e3⟩
   .exact absurd e1 (q _ _ _)
  .exact⟨ver,cs,ow,by rw[k3 s hm];exact hb,λh=>absurd h hm⟩
theorem N0{σ σ0 σh:BG}{ws W:List Nat}{l:List (Nat×Sh)}(h0:σ0=σ.clear ws)(hv:uM l ws σ=true)(hl:σh.length=σ0.length)(h1:∀s,s∉l.map (·.1)->σh.at s=σ0.at s)
  (h2:∀s ver cs ow,σ0.at s= .box ver cs ow->∃Fw FI MC,σh.at s= .box Fw FI MC/\(s∈l.map (·.1)->ver<Fw)) (hW:∀s∈ws,s∈W):Gz W σ σh:=by
 refine⟨by rw[hl,h0,BG.Je],λs hs=>?_⟩;have hws:s∉ws:=λhm=>hs (hW s hm);have e0:σ0.at s=σ.at s:=by rw[h0,BG.HK,if_neg hws]
 by_cases hm:s∈l.map (·.1)
 .obtain⟨p,hp,rfl⟩:=Bl.1 hm;have:=EL.1 hv p hp;simp only[Bool.or_eq_true,List.contains_iff_mem] at this;rcases this with this|this
  .exact absurd this hws
  .cases hx:σ.at p.1 with
   |box ver cs ow=>obtain⟨v1,c1,o1,e1,e2⟩:=h2 p.1 ver cs ow (by rw[e0];exact hx);have:=e2 hm;exact⟨v1,c1,o1,e1,by omega,λe=>by omega⟩
   |_=>rw[hx] at this;cases this
 .rw[h1 s hm,e0];exact .refl _
theorem EF.le{n m:Nat}(h:EF C (IT.run (B5 C) n))(uk:m<=n):EF C (IT.run (B5 C) m):=⟨h.1,λf args h0 r h' AV=>h.2 f args h0 r h' (IT.Ip uk AV)⟩
theorem wF(hm:C.P.follows .mixedOrders=true):∀(c:Code) (n:Nat),EF C (IT.run (B5 C) n)->∀{K:EN->BG->IT} {R:Js} {σ:BG} {h:Ag} {a:Act} {w:World} {γ:Gh} {β:Nat->Nat} {Q:Exit->Act->World->Prop},
  IT.step (B5 C) (IT.run (B5 C) n) (Fx C fid c σ K) h=some R->CT C γ0 w0 γ β σ h a w->
  (∀x γ' β' σ' h' a' w',IT.step (B5 C) (IT.run (B5 C) n) (K x σ') h'=some R->Gz (CQ c++B2 c) σ σ'->CT C γ0 w0 γ' β' σ' h' a' w'->Q (wC x) a' w')->c.wp C.P Q a w:=by
 intro c;induction c with
 |skip=>intro n hS K R σ h a w γ β Q AV hr hK;exact wp_skip (hK .normal γ β σ h a w AV (.refl _ _) hr)
 |region id ops draw=>
  intro n hS K R σ h a w γ β Q AV hr hK;simp only[Fx] at AV;split at AV;·exact US hm hS AV hr λγ' β' σ' h' a' w' h1 h2 h3=>hK .normal γ' β' σ' h' a' w' h1 h2 h3
  .rename_i l hl;unfold X4 at AV;simp only at AV;split at AV
   .rename_i hv;simp only[IT.step] at AV;split at AV
    .rename_i x vs h1 UT;refine US hm hS UT hr λγ' β' σ' h' a' w' k1 k2 k3=>?_;obtain⟨Hl,e,he⟩:=NZ (h:=h') k1 k2 (by rw[BG.Je]) (λs hs=>by rw[BG.HK,if_pos hs]) (λs _=>by rw[BG.HK];split<;>simp) (λs ver cs ow hb=>by
      rw[BG.HK] at hb;split at hb;·cases hb
      .exact⟨ver,cs,ow,hb⟩)
     cases e;obtain⟨σh,p1,p2,p3,p4,p5⟩:=he.next k3 AV;exact hK .normal γ' β' σh h1 a' w' p1 (N0 rfl hv p3 p4 p5 (λs hs=>hs)) p2
    .cases AV
   .cases AV
 |seq x y ihx ihy=>
  intro n hS K R σ h a w γ β Q AV hr hK;simp only[Fx] at AV;refine wp_seq (ihx n hS AV hr λe γ' β' σ' h' a' w' h1 h2 h3=>?_);have up:∀σ2,Gz (CQ x++B2 x) σ σ2->Gz (CQ (.seq x y)++B2 (.seq x y)) σ σ2:=λσ2 ho=>ho.mono λs hs=>by simp only[CQ,B2,Ap] at hs⊢;rcases hs with hs|hs<;>simp[hs]
  cases e with
  |normal=>refine ihy n hS h1 h3 λe2 γ2 β2 σ2 Xm a2 w2 k1 k2 k3=>hK e2 γ2 β2 σ2 Xm a2 w2 k1 ((up _ h2).trans (k2.mono λs hs=>?_)) k3;simp only[CQ,B2,Ap] at hs⊢;rcases hs with hs|hs<;>simp[hs]
  |exit i=>exact hK (.exit i) γ' β' σ' h' a' w' h1 (up _ h2) h3
  |ret=>exact hK .ret γ' β' σ' h' a' w' h1 (up _ h2) h3
 |cond c x y ihx ihy=>
  intro n hS K R σ h a w γ β Q AV hr hK;have upx:∀{σ1 σ2:BG},Gz (CQ x++B2 x) σ1 σ2->Gz (CQ (.cond c x y)++B2 (.cond c x y)) σ1 σ2:=λ{σ1 σ2} ho=>ho.mono λs hs=>by cases c<;>simp only[CQ,B2,Ap,AP] at hs⊢<;>rcases hs with hs|hs<;>simp[hs]
  have upy:∀{σ1 σ2:BG},Gz (CQ y++B2 y) σ1 σ2->Gz (CQ (.cond c x y)++B2 (.cond c x y)) σ1 σ2:=λ{σ1 σ2} ho=>ho.mono λs hs=>by cases c<;>simp only[CQ,B2,Ap,AP] at hs⊢<;>rcases hs with hs|hs<;>simp[hs]
  simp only[Fx] at AV;split at AV;·rename_i hc;obtain⟨s,h1,_⟩:=Fz hr hc;exact wp_cond_true h1 (ihx n hS AV hr λe γ' β' σ' h' a' w' k1 k2 k3=>hK e γ' β' σ' h' a' w' k1 (upx k2) k3)
  .rename_i hc;obtain⟨s,h1,_⟩:=Fz hr hc;exact wp_cond_false h1 (ihy n hS AV hr λe γ' β' σ' h' a' w' k1 k2 k3=>hK e γ' β' σ' h' a' w' k1 (upy k2) k3)
  .rename_i s v hc;have tw:σ.at s= .val v:=Gj hc;have h0:=hr.fr.Hz s;rw[tw] at h0;have arms:∀{K':EN->BG->IT} {R':Js} {Q':Exit->Act->World->Prop},IT.step (B5 C) (IT.run (B5 C) n) (.AJ v (Fx C fid x (σ.set s (.Nv true)) K') (Fx C fid y (σ.set s (.Nv false)) K')) h=some R'->
     (∀e γ' β' σ' h' a' w',IT.step (B5 C) (IT.run (B5 C) n) (K' e σ') h'=some R'->Gz (CQ (.cond (.tmp s) x y)++B2 (.cond (.tmp s) x y)) σ σ'->CT C γ0 w0 γ' β' σ' h' a' w'->Q' (wC e) a' w')->(Code.cond (.tmp s) x y).wp C.P Q' a w:=by
    intro K' R' Q' Pm hK';have qW:∀b:Bool,Gz (CQ (.cond (.tmp s) x y)++B2 (.cond (.tmp s) x y)) σ (σ.set s (.Nv b)):=λb=> .set (by simp[B2]);simp only[IT.step] at Pm;split at Pm;·have hv:a.eval (.tmp s)= .bool true:=h0;exact wp_cond_true hv (ihx n hS Pm (hr.ZQ h0) λe γ' β' σ' h' a' w' k1 k2 k3=>hK' e γ' β' σ' h' a' w' k1 ((qW true).trans (upx k2)) k3)
    .have hv:a.eval (.tmp s)= .bool false:=h0;exact wp_cond_false hv (ihy n hS Pm (hr.ZQ h0) λe γ' β' σ' h' a' w' k1 k2 k3=>hK' e γ' β' σ' h' a' w' k1 ((qW false).trans (upy k2)) k3)
    .cases Pm
   split at AV;·exact arms AV hK
   .rename_i l hl;unfold X4 at AV;simp only at AV;split at AV
    .rename_i hv;simp only[IT.step] at AV;split at AV
     .rename_i e vs h1 UT;refine arms UT λe2 γ' β' σ' h' a' w' k1 k2 k3=>?_;obtain⟨Hl,eq,he⟩:=NZ (h:=h') (ws:=s::(CQ x++CQ y++B2 x++B2 y)) k1 (k2.mono λt ht=>by
        simp only[CQ,B2,Ap,AP] at ht⊢;rcases ht with(ht|ht)|ht|ht|ht<;>simp[ht]) (by rw[BG.Je]) (λt ht=>by rw[BG.HK,if_pos ht]) (λt _=>by rw[BG.HK];split<;>simp) (λt ver cs ow hb=>by
       rw[BG.HK] at hb;split at hb;·cases hb
       .exact⟨ver,cs,ow,hb⟩)
      cases eq;obtain⟨σh,p1,p2,p3,p4,p5⟩:=he.next k3 AV;exact hK e γ' β' σh h1 a' w' p1 (N0 rfl hv p3 p4 p5 (λt ht=>by simp only[CQ,B2,Ap,AP] at ht⊢;rcases ht with ht|((ht|ht)|ht)|ht<;>simp[ht])) p2
     .cases AV
    .cases AV
  .cases AV
 |block id b ih=>
  intro n hS K R σ h a w γ β Q AV hr hK;simp only[Fx] at AV;refine wp_block (ih n hS AV hr λe γ' β' σ' h' a' w' h1 h2 h3=>?_);cases e with
  |normal=>exact hK .normal γ' β' σ' h' a' w' h1 h2 h3
  |exit i=>
   simp only at h1;show if i=id then Q .normal a' w' else Q (.exit i) a' w'
   by_cases hi:i=id;·rw[if_pos hi] at h1⊢;exact hK .normal γ' β' σ' h' a' w' h1 h2 h3
   .rw[if_neg hi] at h1⊢;exact hK (.exit i) γ' β' σ' h' a' w' h1 h2 h3
  |ret=>exact hK .ret γ' β' σ' h' a' w' h1 h2 h3
 |loop b ih=>
  intro n hS K R σ h a w γ β Q AV hr hK;simp only[Fx] at AV;generalize hl:C.xu fid ((FY b).getD 0)=l at AV;generalize aOW:(FY b).getD 0=key at AV;generalize h0:σ.clear (CQ b++B2 b)=σ0 at AV;split at AV
  .rename_i hv;split at AV;·cases AV
   .rename_i init aDL;have aDM:σ0.length=σ.length:=by rw[<-h0,BG.Je]
    have hin:∀s,s∈CQ b++B2 b->σ0.at s= .undef:=λs hs=>by rw[<-h0,BG.HK,if_pos hs]
    refine Yj (λm a w=>∃γ β σ1 h vs,CT C γ0 w0 γ β σ1 h a w/\wE σ0 (CQ b++B2 b) l σ1 vs/\m<=n+1/\
     IT.run (B5 C) m (.loop key vs (λvs=>IH vs l 0 σ0 λσh=>Fx C fid b σh λx σ'=>RE σ0 l x σ') λx vs=>IH vs l 0 σ0 λσ'=>tn K x σ') h=some R) ?_ (n+1) a w
     ⟨γ,β,σ,h,init,hr,⟨aDL,aDM.symm,λs _=>by rw[<-h0,BG.HK];split<;>simp,λs ver cs ow hb=>by
      rw[<-h0,BG.HK] at hb;split at hb;·cases hb
      .exact⟨ver,cs,ow,hb⟩⟩,Ac _,AV⟩
    rintro m a1 w1 ⟨γ1,β1,σ1,h1,vs,Jv,he1,uk,Ik⟩;cases m with
    |zero=>simp[IT.run] at Ik
    |succ m=>
     simp only[IT.run,IT.step] at Ik;have body:∀{x:EN} {Hl:List Aa} {h':Ag},IT.step (B5 C) (IT.run (B5 C) m) (IH vs l 0 σ0 λσh=>Fx C fid b σh λx σ'=>RE σ0 l x σ') h1=some (x,Hl,h')->∀{Q':Exit->Act->World->Prop},
       (∀γ' β' σ' a' w',CT C γ0 w0 γ' β' σ' h' a' w'->wE σ0 (CQ b++B2 b) l σ' Hl->Q' (wC x) a' w')->b.wp C.P Q' a1 w1:=by
      intro x Hl h' hb Q' hQ';obtain⟨σh,p1,p2,p3,p4,p5⟩:=he1.next Jv hb;refine ih m (hS.le (by omega)) p1 p2 λy γ' β' σ' h2 a' w' k1 k2 k3=>?_;obtain⟨vs2,eq,he⟩:=NZ k1 k2 p3 hin (λs hs=> .inr (p4 s hs).symm) λs ver cs ow hb=>by obtain⟨v1,c1,o1,e1,_⟩:=p5 s ver cs ow hb;exact⟨v1,c1,o1,e1⟩
      cases eq;exact hQ' γ' β' σ' a' w' k3 he
     split at Ik;·rename_i Hl h' hb;exact body hb λγ' β' σ' a' w' Fy O6=>⟨m,tO m,γ',β',σ',h',Hl,Fy,O6,by omega,Ik⟩
     .rename_i x Hl h' hne hb;refine body hb λγ' β' σ' a' w' Fy O6=>?_;have SN:=IT.JB (λt h r=>IT.Ip (fn:=B5 C) (show m<=n by omega)) _ _ _ Ik;obtain⟨σh,p1,p2,p3,p4,p5⟩:=O6.next Fy SN;have ho:=N0 h0.symm hv p3 p4 p5 λs hs=>hs;cases x with
      |normal=>exact absurd rfl hne
      |exit i=>exact hK _ γ' β' σh h' a' w' p1 ho p2
      |ret=>exact hK _ γ' β' σh h' a' w' p1 ho p2
     .cases Ik
  .cases AV
 |exit id=>intro n hS K R σ h a w γ β Q AV hr hK;exact wp_exit (hK (.exit id) γ β σ h a w AV (.refl _ _) hr)
 |ret=>intro n hS K R σ h a w γ β Q AV hr hK;exact wp_ret (hK .ret γ β σ h a w AV (.refl _ _) hr)
 |label l=>intro n hS K R σ h a w γ β Q AV hr hK;exact wp_label (hK .normal γ β σ h a w AV (.refl _ _) hr)
 |scope b ih=>
  intro n hS K R σ h a w γ β Q AV hr hK;simp only[Fx] at AV;refine wp_scope_straight (ih n hS AV hr λe γ' β' σ' h' a' w' h1 h2 h3=>?_);cases e with
  |normal=>exact hK .normal γ' β' σ' h' a' w' h1 h2 h3
  |exit i=>exact hK (.exit i) γ' β' σ' h' a' w' h1 h2 h3
  |ret=>exact hK .ret γ' β' σ' h' a' w' h1 h2 h3
 |_=>intros n hS K R σ h a w γ β Q AV hr hK;cases AV
end
end Go.Am
end
section
namespace Go.Am
open Go
section
variable{C:FJ}{γ0 γ:Gh}{w0 w:World}{β:Nat->Nat}{σ:BG}{h:Ag}{a:Act}{fid:FuncId}{run:IT->Ag->Option Js}
def HL(tmps:Array Value):ResultVar->Sem Value
 | .tmp t=>pure (tmps.getD t undef)
 | .cell a t=>do loadVar t (<-asAddr (tmps.getD a undef))
theorem QH{P:Program}{t:TypeId}{b o:Nat}{v:Value}(h:(Instr.loadAt t (.pointer (some ⟨b,o,none⟩))).run P w= .ok v w):(loadVar t ⟨b,o,none⟩).run P w= .ok v w:=by simpa[Instr.loadAt,Instr.sureAddr] using h
theorem SP{K:List Aa->IT}{R:Js}:∀{rs:List ResultVar} {Dw:List Aa},IT.step (B5 C) run (FT C σ rs Dw K) h=some R->CT C γ0 w0 γ β σ h a w->
  ∃vs us,(rs.mapM (HL a.tmps)).run C.P w= .ok us w/\Bb γ vs us/\IT.step (B5 C) run (K (Dw.reverse++vs)) h=some R
 |[],Dw,AV,hr=>⟨[],[],by simp,rfl,by simpa[FT] using AV⟩
 |rv::rs,Dw,AV,hr=>by
  have one:∀(v:Aa) (u:Value),(HL a.tmps rv).run C.P w= .ok u w->BH γ v u->IT.step (B5 C) run (FT C σ rs (v::Dw) K) h=some R->
    ∃vs us,((rv::rs).mapM (HL a.tmps)).run C.P w= .ok us w/\Bb γ vs us/\IT.step (B5 C) run (K (Dw.reverse++vs)) h=some R:=by
   intro v u h1 h2 h3;obtain⟨vs,us,k1,k2,k3⟩:=SP h3 hr;refine⟨v::vs,u::us,?_,⟨u,us,rfl,h2,k2⟩,by simpa using k3⟩;simp[List.mapM_cons,h1,k1]
  cases rv with
  |tmp t=>
   simp only[FT] at AV;split at AV;·rename_i v hv;exact one v _ (by simp[HL]) (Ma (hr.fr.Hz t) hv) AV
   .cases AV
  |cell p t=>
   have zg:∀(b o:Nat) (v:Aa),a.tmps.getD p undef= .pointer (some ⟨b,o,none⟩)->(∃u,(Instr.loadAt t (.pointer (some ⟨b,o,none⟩))).run C.P w= .ok u w/\BH γ v u)->IT.step (B5 C) run (FT C σ rs (v::Dw) K) h=some R->
     ∃vs us,((ResultVar.cell p t::rs).mapM (HL a.tmps)).run C.P w= .ok us w/\Bb γ vs us/\IT.step (B5 C) run (K (Dw.reverse++vs)) h=some R:=by
    intro b o v hp ⟨u,h1,h2⟩ h3;refine one v u ?_ h2 h3;simp only[HL,hp,asAddr,Sem.run_bind,Sem.run_pure,Result.andThen_ok];exact QH h1
   simp only[FT] at AV;split at AV
   .rename_i s off ver cs ow ht ha;split at AV;·rename_i hlt;obtain⟨hs,hx⟩:=J9 hr ha;obtain⟨u,q1,q2,_⟩:=JV hr ht hs (r:=cs.getD off .nilIface) (off:=off) (by simp[ER,List.getD,Ai hlt]);exact zg _ _ _ hx ⟨u,q1,q2⟩ AV
    .cases AV
   .rename_i n s off ver cs ow ht ha;split at AV;·rename_i DY;obtain⟨hs,hx⟩:=J9 hr ha;obtain⟨u,q1,q2,_⟩:=JV hr ht hs (r:= .agg ((cs.drop off).take n)) (off:=off) (by simp[ER,DY]);exact zg _ _ _ hx ⟨u,q1,q2⟩ AV
    .cases AV
   .rename_i n p' ht ha;simp only[IT.step] at AV;split at AV
    .rename_i v hv;have kR:=PM hr ha;unfold A9 at hv;split at hv;·rename_i cs;obtain⟨b,k,eZ,hm⟩:=kR;obtain⟨us,p1,p2⟩:=hm.values;exact zg b k v eZ (HI (w:=w) ht p1 (λj u hj=>(hr.DD.HD _ _ _ (p2 j u hj)).1) (λu hu=>by obtain⟨j,hj⟩:=CU hu;exact(hr.DD.HD _ _ _ (p2 j u hj)).2.1) hv) AV
     .rename_i id off;obtain⟨b,hb,eZ⟩:=kR;split at hv
      .rename_i cs hcs;obtain⟨us,e,fr,p1,pf,p2,p3⟩:=hr.DD.cells id cs hcs b hb;refine zg b off v eZ (HI (w:=w) (b:=b) (o:=off) ht (p2.drop off) (λj u hj=>?_) (λu hu=>p3 u (Bw hu)) (NU hv)) AV;rw[cell_of_row w _ _ us e fr p1];rw[CA,Ch] at hj;split at hj;·simpa using hj
       .cases hj
      .cases hv
     .cases hv
    .cases AV
   .cases AV
theorem CT.Hy(hr:CT C γ0 w0 γ β σ h a w){p:Aa}{off:Nat}{u:Value}{h':Ag}(hp:BH γ p u)(hf:KX h off p=some h'):∃γ',CT C γ0 w0 γ' β σ h' a w:=by
 unfold KX at hf;split at hf;·cases hf;exact⟨γ,hr⟩
 .rename_i id o0;generalize o0+off=o at hf;obtain⟨b,hb,_⟩:=hp;split at hf
  .rename_i cs hcs;split at hf
   .rename_i v hv;obtain⟨us,e,fr,p1,pf,p2,p3⟩:=hr.DD.cells id cs hcs b hb;obtain⟨x,hx,yn⟩:=p2.get hv;cases hq:Kp h v with
    |none=>rw[hq] at hf;cases hf
    |some q=>
     obtain⟨h1,v'⟩:=q;rw[hq] at hf;simp only[Ct] at hf;split at hf
     .rename_i FI aDN;cases hf;obtain⟨γ1,DY,Jv,fj⟩:=hr.KW yn hq;have Tp:=DY.mu _ _ hb;obtain⟨us1,e1,fr1,r1,rf,r2,r3⟩:=Jv.DD.cells id FI aDN b Tp;rw[p1] at r1;cases r1;have qW:Bb γ1 (FI.set o v') (us.toList.take (FI.set o v').length):=by
       rw[Be];refine Bb.Gi (by simp[r2.length]) λi y z hy hz=>?_;by_cases hi:o=i
       .subst hi;by_cases hlt:o<FI.length
        .rw[AG hlt] at hy;cases hy;have hxz:x=z:=by rw[C9 hlt] at hz;have aJx:o<cs.length:=(Ae.1 hv).1;rw[C9 aJx] at hx;rw[hx] at hz;exact ED hz
         rw[<-hxz];exact fj
        .rw[E3 (by simpa using hlt)] at hy;cases hy
       .rw[Af hi] at hy;obtain⟨z',ZB,hyz⟩:=r2.get hy;rw[hz] at ZB;cases ZB;exact hyz
      obtain⟨TT,Nz⟩:=L7 Jv.DD aDN Tp p1 us (FI.set o v') rfl rf qW (by rw[Be];exact r3);rw[setRow_self w b us e fr p1] at TT Nz;exact⟨γ1,Jv.world TT Nz⟩
     .cases hf
   .cases hf
  .cases hf
 .cases hf
theorem kZ{t:IT}{R:Js}:∀{l:List (Nat×Nat)} {γ:Gh} {h:Ag},IT.step (B5 C) run (kM C σ l t) h=some R->CT C γ0 w0 γ β σ h a w->∃γ' h',CT C γ0 w0 γ' β σ h' a w/\IT.step (B5 C) run t h'=some R
 |[],γ,h,AV,hr=>⟨γ,h,hr,AV⟩
 |(s,off)::l,γ,h,AV,hr=>by
  simp only[kM] at AV;split at AV
  .rename_i p hp;simp only[IT.step] at AV;split at AV;·rename_i h1 hf;obtain⟨γ1,Jv⟩:=hr.Hy (Ma (hr.fr.Hz s) hp) hf;exact kZ AV Jv
   .cases AV
  .cases AV
theorem UU{R:Js}:∀{vs Dw:List Aa} {γ:Gh} {h:Ag} {us tS:List Value},IT.step (B5 C) run (NO vs Dw SA) h=some R->CT C γ0 w0 γ β σ h a w->Bb γ vs us->Bb γ Dw.reverse tS->
  ∃γ' h' Hl,CT C γ0 w0 γ' β σ h' a w/\Bb γ' Hl (tS++us)/\IT.step (B5 C) run (SA Hl) h'=some R
 |[],Dw,γ,h,us,tS,AV,hr,h1,h2=>by rw[show us=[] from h1,Bv];exact⟨γ,h,Dw.reverse,hr,h2,AV⟩
 |v::vs,Dw,γ,h,us,tS,AV,hr,h1,h2=>by
  obtain⟨u,Dm,rfl,hv,h1⟩:=h1;simp only[NO,IT.step] at AV;split at AV
  .rename_i h3 v' hf;obtain⟨γ1,DY,Jv,fj⟩:=hr.KW hv hf;have h4:Bb γ1 (v'::Dw).reverse (tS++[u]):=by rw[FQ];exact(Bb.mono DY _ _ h2).append ⟨u,[],rfl,fj,rfl⟩
   obtain⟨γ2,h5,vs2,q1,q2,q3⟩:=UU AV Jv (Bb.mono DY _ _ h1) h4;exact⟨γ2,h5,vs2,q1,by rwa [Ax] at q2,q3⟩
  .cases AV
theorem lA{R:Js}{vs:List Aa}{us:List Value}{γ:Gh}{h:Ag}(AV:IT.step (B5 C) run (SA vs) h=some R)(hv:Bb γ vs us):
  ∃r,R=(.ret,[r],h)/\BH γ r (if hh:us.toArray.size=1 then us.toArray[0] else .tuple us.toArray):=by
 unfold SA at AV;split at AV;·rename_i v;obtain⟨u,Dm,rfl,hvu,hnil⟩:=hv;rw[show Dm=[] from hnil];simp only[IT.step] at AV;cases AV;exact⟨v,rfl,by simpa using hvu⟩
 .rename_i hne;simp only[IT.step] at AV;cases AV;have hlen:us.length≠1:=λe=>by have:=hv.length;rw[e] at this;obtain⟨v,hv⟩:=List.length_eq_one_iff.1 this.symm;exact hne v hv
  refine⟨_,rfl,?_⟩;rw[dif_neg (by simpa using hlen)];exact⟨us.toArray,rfl,by simpa using hv⟩
theorem SQ{fn:Func}{tmps:Array Value}{us:List Value}(h:(fn.results.toList.mapM (HL tmps)).run C.P w= .ok us w):(results fn tmps).run C.P w= .ok (if hh:us.toArray.size=1 then us.toArray[0] else .tuple us.toArray) w:=by
 have e:fn.results.mapM (HL tmps)=(do let l<-fn.results.toList.mapM (HL tmps);pure l.toArray:Sem (Array Value)):=by rw[Array.mapM_eq_mapM_toList];simp
 have e2:results fn tmps=(do let vs<-fn.results.mapM (HL tmps);pure (if hh:vs.size=1 then vs[0] else .tuple vs):Sem Value):=by unfold results;congr 2
 rw[e2,e];simp only[Sem.run_bind,h,Result.andThen_ok,Sem.run_pure]
theorem gh{fn:Func}{R:Js}(AV:IT.step (B5 C) run (ZP C fid fn σ) h=some R)(hr:CT C γ0 w0 γ β σ h a w):
  ∃r h' v γ',R=(.ret,[r],h')/\(results fn a.tmps).run C.P w= .ok v w/\Gq γ' h' w/\J7 γ0 w0 γ' w/\BH γ' r v/\(C.Io fid=true->∃s c,HY γ' w0.heap.size w s c v r):=by
 unfold ZP at AV;split at AV;·cases AV
 .rename_i E4;obtain⟨γ1,h1,Jv,Ik⟩:=kZ AV hr;by_cases ho:C.Io fid=true
  .have zh:∃t x,fn.results.toList=[.tmp t]/\σ.at t= .own x:=by
    have:OD σ fn.results.toList=true:=by
     cases hq:OD σ fn.results.toList with
     |true=>rfl
     |false=>exact absurd (by simp[ho,hq]) E4
    unfold OD at this;split at this
    .rename_i t Jo;split at this;·rename_i x hx;exact⟨t,x,Jo,hx⟩
     .cases this
    .cases this
   obtain⟨t,x,hrs,hx⟩:=zh;have h0:=Jv.fr.Hz t;rw[hx] at h0;have gi:=SQ (C:=C) (w:=w) (fn:=fn) (tmps:=a.tmps) (us:=[a.tmps.getD t undef]) (by rw[hrs];simp[HL]);rw[hrs] at Ik;simp only[FT,hx,D9.Gt,FQ,List.reverse_nil,BD] at Ik;have aDO:Kp h1 x=some (h1,x):=by rcases h0.2 with rfl|⟨_,_,_,_,_,_,_,rfl,_⟩<;>rfl
   have hR:R=(.ret,[x],h1):=by
    split at Ik;·simp only[NO,IT.step,aDO,FQ,List.reverse_nil,BD,SA] at Ik;cases Ik;rfl
    .simp only[IT.step,SA] at Ik;cases Ik;rfl
   exact⟨x,h1,_,γ1,hR,by simpa using gi,Jv.DD,Jv.Dw,h0.1,λ_=>⟨t,none,h0.2⟩⟩
  .obtain⟨vs,us,k1,k2,SN⟩:=SP Ik Jv;simp only[List.reverse_nil,BD] at SN;have gi:=SQ (C:=C) k1;split at SN;·obtain⟨γ2,h2,vs2,q1,q2,q3⟩:=UU SN Jv k2 (tS:=[]) rfl;rw[BD] at q2;obtain⟨r,hR,hrv⟩:=lA q3 q2;exact⟨r,h2,_,γ2,hR,gi,q1.DD,q1.Dw,hrv,λe=>absurd e ho⟩
   .obtain⟨r,hR,hrv⟩:=lA SN k2;exact⟨r,h1,_,γ1,hR,gi,Jv.DD,Jv.Dw,hrv,λe=>absurd e ho⟩
theorem CT.start{γ:Gh}{h:Ag}{w:World}(hi:Gq γ h w)(hg:∀g cs,C.Gg g=some cs->CJ γ cs g 0){args:List Aa}{cargs:Array Value}(ha:Bb γ args cargs.toList)(n:Nat)(β:Nat->Nat):
  CT C γ w γ β (args.map .val++List.replicate (n-args.length) .undef) h {tmps:=cargs++Array.replicate (n-cargs.size) undef,defers:=[]} w:=by
 have hlen:cargs.size=args.length:=by have:=ha.length;simpa using this
 refine⟨hi,⟨by simp[hlen],λs=>?_⟩,J7.refl γ w,rfl,hg⟩;by_cases hs:s<args.length
 .have h1:BG.at (args.map .val++List.replicate (n-args.length) .undef) s= .val args[s]:=by simp[BG.at,List.getD,Ad,hs]
  obtain⟨u,hu,hr⟩:=ha.get (Ai hs);have h2:(cargs++Array.replicate (n-cargs.size) undef).getD s undef=u:=by
   rw[Lr,Array.getElem?_append_left (by omega)];have:cargs[s]?=some u:=by simpa using hu
   rw[this];rfl
  rw[h1,h2];exact hr
 .have h1:BG.at (args.map .val++List.replicate (n-args.length) .undef) s= .undef:=by
   have hm:(args.map D9.val).length=args.length:=by simp
   simp only[BG.at,List.getD];rw[A5 (by omega),List.getElem?_replicate];split<;>rfl
  rw[h1];trivial
def Yl(C:FJ):Prop:=
 (∀f,C.L1 f=true->vI C f)/\∀(f:FuncId) (p:List Aa->IT),C.xw f=some p->∀n,EF C (IT.run (B5 C) n)->∀(args:List Aa) (h:Ag) (r:Aa) (h':Ag),IT.step (B5 C) (IT.run (B5 C) n) (p args) h=some (.ret,[r],h')->
  (∃fn c,C.P.funcs[Ea f]?=some fn/\(fn.name== "runtime.NumGoroutine")=false/\fn.body=some c)/\
  ∀(γ:Gh) (w:World) (cargs:Array Value),Gq γ h w->(∀g cs,C.Gg g=some cs->CJ γ cs g 0)->Bb γ args cargs.toList->
   Calls C.P (Ea f) cargs w λe w'=>match e with
    | .returned v=>∃γ',Gq γ' h' w'/\J7 γ w γ' w'/\BH γ' r v/\(C.Io f=true->∃s c,HY γ' w.heap.size w' s c v r)
    |_=>False
theorem aM(hm:C.P.follows .mixedOrders=true)(wG:∀g cs,C.Gg g=some cs->cs.all Aa.Ls=true)(um:Yl C):∀n,EF C (IT.run (B5 C) n)
 |0=>⟨⟨wG,um.1⟩,λf args h r h' AV=>by simp[IT.run] at AV⟩
 |n+1=>⟨⟨wG,um.1⟩,λf args h r h' AV=>by
  have ih:=aM hm wG um n;simp only[IT.run] at AV;unfold B5 at AV;split at AV;·rename_i p hp;exact um.2 f p hp n ih args h r h' AV
  unfold aDh at AV;split at AV
  .rename_i fn hf;split at AV;·cases AV
   .rename_i hname;unfold uN at AV;split at AV;·cases AV
    .rename_i c hb;refine⟨⟨fn,c,hf,by simpa using hname,hb⟩,λγ w cargs hi hg ha=>calls_of_wp hf hb ?_⟩;refine wF (C:=C) (fid:=f) hm c n ih AV (CT.start hi hg ha fn.ntmps (λ_=>0)) λx γ' β' σ' h1 a' w' k1 _ k3=>?_;have GM:IT.step (B5 C) (IT.run (B5 C) n) (ZP C f fn σ') h1=some (.ret,[r],h')->a'.defers=[]/\∃v,(results fn a'.tmps).run C.P w'= .ok v w'/\∃γ'',Gq γ'' h' w'/\J7 γ w γ'' w'/\BH γ'' r v/\(C.Io f=true->∃s c,HY γ'' w.heap.size w' s c v r):=λaJz=>by obtain⟨r',h2,v,γ'',e,p1,p2,p3,p4,p5⟩:=gh aJz k3;cases e;exact⟨k3.defers,v,p1,γ'',p2,p3,p4,p5⟩
     cases x with
     |normal=>exact GM k1
     |ret=>exact GM k1
     |exit i=>cases k1
  .cases AV⟩
end
theorem Ev.calls{C:FJ}(hm:C.P.follows .mixedOrders=true)(wG:∀g cs,C.Gg g=some cs->cs.all Aa.Ls=true)(um:Yl C){f:FuncId}{args:List Aa}{h:Ag}{Q:Aa->Ag->Prop}(H5:Ev C f args h Q){γ:Gh}{w:World}{cargs:Array Value}(hi:Gq γ h w)(hg:∀g cs,C.Gg g=some cs->CJ γ cs g 0)(ha:Bb γ args cargs.toList):
  Calls C.P (Ea f) cargs w λe w'=>match e with
   | .returned v=>∃r h' γ',Q r h'/\Gq γ' h' w'/\J7 γ w γ' w'/\BH γ' r v
   |_=>False:=by
 obtain⟨n,x,vs,h',AV,rfl,r,rfl,hQ⟩:=H5;refine(((aM hm wG um n).2 f args h r h' AV).2 γ w cargs hi hg ha).mono λe w' he=>?_;cases e with
 |returned v=>obtain⟨γ',p1,p2,p3,_⟩:=he;exact⟨r,h',γ',hQ,p1,p2,p3⟩
 |_=>exact he
end Go.Am
end
section
namespace Go.Am
open Go
inductive Ty where
 |bool
 |int (k:IntKind)
 |str
 |sl (e:Ty)
 |st (fs:List Ty)
 deriving Inhabited
mutual
def Ty.size:Ty->Nat
 | .bool| .int _| .str| .sl _=>1
 | .st fs=>Ty.LB fs
def Ty.LB:List Ty->Nat
 |[]=>0
 |t::ts=>Ty.size t+Ty.LB ts
end
mutual
def PQ(P:Program):Ty->TypeId->Bool
 | .bool,t=>match P.underlying t with|some .bool=>true|_=>false
 | .int k,t=>match P.underlying t with|some (.int k')=>decide (k'=k)|_=>false
 | .str,t=>match P.underlying t with|some .string=>true|_=>false
 | .sl e,t=>match P.underlying t with
  |some (.slice e')=>P.cellsOf e'==Ty.size e&&decide (0<Ty.size e)&&PQ P e e'
  |_=>false
 | .st fs,t=>match P.underlying t with
  |some (.struct fields)=>P.cellsOf t==Ty.LB fs&&N1 P fs fields.toList 0
  |_=>false
def N1(P:Program):List Ty->List Field->Nat->Bool
 |[],[],_=>true
 |ty::Rt,f::fs,off=>f.offset==off&&P.cellsOf f.type==Ty.size ty&&PQ P ty f.type&&N1 P Rt fs (off+Ty.size ty)
 |_,_,_=>false
end
mutual
def Ym:Ty->List Aa->Prop
 | .bool,l=>∃b,l=[.bool b]
 | .int k,l=>∃n,l=[.int k n]/\(Lit.int k n).wf=true
 | .str,l=>∃s:As,l=[.str s]/\s.length<=maxLen
 | .sl e,l=>l=[.slnil]\/∃Au:List (List Aa),l=[.sl (Ty.size e) Au]/\Au.length<=maxLen/\∀r∈Au,Ym e r
 | .st fs,l=>q8 fs l
def q8:List Ty->List Aa->Prop
 |[],l=>l=[]
 |ty::Rt,l=>∃a b,l=a++b/\Ym ty a/\q8 Rt b
end
def Ty.zi:Ty->Bool
 | .st _=>true
 |_=>false
def q9(ty:Ty)(a:Aa):Prop:=if ty.zi then∃cs,a= .agg cs/\Ym ty cs else Ym ty [a]
def TW:List Ty->List Aa->Prop
 |[],l=>l=[]
 |ty::Rt,l=>∃a b,l=a::b/\q9 ty a/\TW Rt b
def FA(W:World):Gh:={HD:=λb o=>(W.cell? ⟨b,o,none⟩).filter (·.oneCell'),mu:=λ_=>none,own:=λ_=>none,sz:=λ_=>none}
theorem wH(W:World):Gq (FA W) [] W:=by refine⟨λb o v h=>?_,λid x h=>by simp at h,λid cs h=>by simp at h,λid es h=>by simp at h,λid b h=>(by cases h),λb x h=>(by cases h),λb n h=>(by cases h)⟩;simp only[FA,Option.filter_eq_some_iff] at h;exact⟨h.1,h.2,.inl rfl⟩
theorem RM{W:World}{b o:Nat}{v:Value}(h:W.cell? ⟨b,o,none⟩=some v)(h1:v.oneCell'=true):(FA W).HD b o=some v:=by simp[FA,h,h1,Option.filter]
theorem SR{α:Type}{p:Nat->α->Prop}:∀(n:Nat),(∀i,i<n->∃x,p i x)->∃l:List α,l.length=n/\∀i x,l[i]?=some x->p i x
 |0,_=>⟨[],rfl,by simp⟩
 |n+1,h=>by
  obtain⟨l,hl,hp⟩:=SR n λi hi=>h i (by omega);obtain⟨x,hx⟩:=h n (by omega);refine⟨l++[x],by simp[hl],λi y hy=>?_⟩;rw[List.getElem?_append] at hy;split at hy;·exact hp i y hy
  .have:i-l.length=0:=by
    rcases Oz (i-l.length) with h0|h0
    .exact h0
    .rw[E3 (by simp;omega)] at hy;cases hy
   rw[this] at hy;simp at hy;subst hy;have:i=n:=by omega
   rw[this];exact hx
section
variable{H:Type}{enc:TypeId×Value->H}{P:Program}{W:World}
theorem Pn{a:Addr}{n:Nat}{cs:List Value}(h:W.cells? 0 a n=some cs)(hn:0<n):a.spot=none:=by
 obtain⟨_,hl,hc⟩:=World.cells?_some h;have h0:=hc 0 hn;have hlt:0<cs.length:=by omega
 rw[Ai hlt] at h0;unfold World.cell? at h0;have ha:a.add 0=a:=by simp[Addr.add]
 rw[ha] at h0;split at h0
 .split at h0;·cases h0
  .rename_i hs;simpa using hs
 .cases h0
mutual
theorem Yn:∀(ty:Ty) {t:TypeId} {fuel:Nat} {cs:List Value} {x:DataW H×List MemPlace},PQ P ty t=true->DataW.trod enc P W 0 (λ_=>true) true fuel t cs=some x->
  ∃as,Ym ty as/\Bb (FA W) as cs/\(∀u∈cs,u.oneCell'=true)/\as.length=Ty.size ty
 | .bool,t,fuel,cs,x,hok,h=>by
  unfold PQ at hok;split at hok;·rename_i ht;obtain⟨b,rfl,_⟩:=DataW.trod_bool ht h;exact⟨[.bool b],⟨b,rfl⟩,⟨_,[],rfl,rfl,rfl⟩,by simp[Value.oneCell'],rfl⟩
  .cases hok
 | .int k,t,fuel,cs,x,hok,h=>by
  unfold PQ at hok;split at hok
  .rename_i k' ht;have hk:k'=k:=by simpa using hok
   subst hk;obtain⟨n,rfl,_,hw⟩:=DataW.trod_int ht h;exact⟨[.int k' n],⟨n,rfl,hw⟩,⟨_,[],rfl,rfl,rfl⟩,by simp[Value.oneCell'],rfl⟩
  .cases hok
 | .str,t,fuel,cs,x,hok,h=>by
  unfold PQ at hok;split at hok
  .rename_i ht;obtain⟨s,rfl,_,hs⟩:=DataW.trod_string ht h;refine⟨[.str s.data.toList],⟨_,rfl,by
    have e:s.data.toList.length=s.size:=by rw[Ci];rfl
    rw[e];exact hs⟩,⟨_,[],rfl,?_,rfl⟩,by simp[Value.oneCell'],rfl⟩
   show Value.string s= .string ⟨⟨s.data.toList⟩⟩;congr 1
  .cases hok
 | .sl e,t,fuel,cs,x,hok,h=>by
  unfold PQ at hok;split at hok
  .rename_i e' ht;simp only[BK,beq_iff_eq,DK] at hok;obtain⟨⟨hce,hpos⟩,aJA⟩:=hok;rcases DataW.trod_slice ht h with⟨rfl,_⟩|⟨a,len,cap,elems,rest,n,_,rfl,_,_,hl,hm,hlen,hel,hsp,_⟩
   .exact⟨[.slnil],.inl rfl,⟨_,[],rfl,rfl,rfl⟩,by simp[Value.oneCell'],rfl⟩
   .have spot:0<cap->a.spot=none:=λhc=>by
     have ha:a.add 0=a:=by simp[Addr.add]
     rcases Oz len with h0|h0
     .obtain⟨Jv,K5⟩:=hsp rfl;have:=K5 0 (by omega);rw[Ai (show 0<rest.length by omega)] at this;have zj:(len+0)*P.cellsOf e'=0:=by rw[h0];simp
      rw[zj,ha] at this;obtain⟨vs,hv,_⟩:=Option.bind_eq_some_iff.1 this;exact Pn hv (by omega)
     .have:=hel 0 h0;rw[Ai (show 0<elems.length by omega)] at this;rw[dd,ha] at this;obtain⟨vs,hv,_⟩:=Option.bind_eq_some_iff.1 this;exact Pn hv (by omega)
    obtain⟨Au,dT,aD⟩:=SR (p:=λi (r:List Aa)=>Ym e r/\r.length=Ty.size e/\CJ (FA W) r a.block (a.off+i*Ty.size e)) len λi hi=>by
     have:=hel i hi;rw[Ai (show i<elems.length by omega)] at this;obtain⟨vs,hv,hd⟩:=Option.bind_eq_some_iff.1 this;obtain⟨r,p1,p2,p3,p4⟩:=Yn e aJA hd;refine⟨r,p1,p4,CJ.Gi λj y hj=>?_⟩;obtain⟨u,hu,hyu⟩:=p2.get hj;obtain⟨_,hvl,hvc⟩:=World.cells?_some hv;have ZG:j<P.cellsOf e':=by have:=(Ae.1 hu).1;omega
     have hc:=hvc j ZG;rw[hu] at hc;have eP:a=⟨a.block,a.off,none⟩:=by have:=spot (by omega);cases a;simp_all
     have Mb:(a.add (i*P.cellsOf e')).add j=⟨a.block,a.off+i*Ty.size e+j,none⟩:=by rw[hce];generalize a.block=b at*;generalize a.off=o at*;subst eP;rw[Addr.add_lit,Addr.add_lit]
     rw[Mb] at hc;exact⟨u,RM hc (p3 u (CE hu)),hyu⟩
    refine⟨[.sl (Ty.size e) Au],.inr ⟨Au,rfl,by omega,λr hr=>?_⟩,⟨_,[],rfl,⟨a,cap,by rw[dT],by omega,?_,ET.Gi λi r hr=>?_⟩,rfl⟩,by simp[Value.oneCell'],rfl⟩;·obtain⟨i,hi⟩:=CU hr;exact(aD i r hi).1
    .rcases Oz cap with h0|h0
     .exact .inr h0
     .exact .inl (spot h0)
    .exact⟨(aD i r hr).2.1,(aD i r hr).2.2⟩
  .cases hok
 | .st fs,t,fuel,cs,x,hok,h=>by
  unfold PQ at hok;split at hok
  .rename_i fields ht;simp only[BK,beq_iff_eq] at hok;obtain⟨hct,hf⟩:=hok;obtain⟨xs,n,_,_,hcl,hxl,X5⟩:=DataW.trod_struct ht h;obtain⟨as,p1,p2,p3,p4⟩:=SU fs (fields:=fields.toList) (off:=0) (cs:=cs) (n:=n) hf (λi f hi=>by
    have:=X5 i f (by simpa using hi);have hlt:i<fields.size:=by have:=(Ae.1 hi).1;simpa using this
    rw[Ai (show i<xs.length by omega)] at this;exact⟨_,this⟩) (by rw[hcl,hct];omega)
   have e1:(cs.drop 0).take (Ty.LB fs)=cs:=by rw[Qg];exact Az (by rw[hcl,hct];exact Ac _)
   rw[e1] at p2 p3;exact⟨as,p1,p2,p3,p4⟩
  .cases hok
theorem SU:∀(Rt:List Ty) {fields:List Field} {off:Nat} {cs:List Value} {n:Nat},N1 P Rt fields off=true->
  (∀(i:Nat) (f:Field),fields[i]?=some f->∃y,DataW.trod enc P W 0 (λ_=>true) true n f.type ((cs.drop f.offset).take (P.cellsOf f.type))=some y)->off+Ty.LB Rt<=cs.length->
  ∃as,q8 Rt as/\Bb (FA W) as ((cs.drop off).take (Ty.LB Rt))/\(∀u∈(cs.drop off).take (Ty.LB Rt),u.oneCell'=true)/\as.length=Ty.LB Rt
 |[],fields,off,cs,n,hok,h,hl=>by refine⟨[],rfl,?_,?_,rfl⟩<;>simp[Ty.LB,Bb]
 |ty::Rt,fields,off,cs,n,hok,h,hl=>by
  cases fields with
  |nil=>simp[N1] at hok
  |cons f fs=>
   simp only[N1,BK,beq_iff_eq] at hok;obtain⟨⟨⟨ho,hc⟩,W0⟩,Xj⟩:=hok;obtain⟨y,hy⟩:=h 0 f rfl;rw[ho,hc] at hy;obtain⟨as,p1,p2,p3,p4⟩:=Yn ty W0 hy;simp only[Ty.LB] at hl;obtain⟨bs,q1,q2,q3,q4⟩:=SU Rt Xj (λi g hi=>h (i+1) g (by simpa using hi)) (by omega);have e1:(cs.drop off).take (Ty.LB (ty::Rt))=(cs.drop off).take (Ty.size ty)++(cs.drop (off+Ty.size ty)).take (Ty.LB Rt):=by simp only[Ty.LB];rw[List.take_add,E9]
   rw[e1];refine⟨as++bs,⟨as,bs,rfl,p1,q1⟩,p2.append q2,λu hu=>?_,by simp[p4,q4,Ty.LB]⟩;rcases Ap.1 hu with hu|hu
   .exact p3 u hu
   .exact q3 u hu
end
theorem Yo{ty:Ty}{t:TypeId}{v:Value}{base:Nat}(hok:PQ P ty t=true)(hv:Value.okWide P W .any base t v):if ty.zi then∃cs,v= .agg cs else v.cells=#[v]:=by
 cases ty with
 |st fs=>
  unfold PQ at hok;split at hok;·rename_i fields ht;unfold Value.okWide at hv;rw[ht] at hv;obtain⟨cs,e,_⟩:=hv;exact⟨cs,e⟩
  .cases hok
 |_=>
  unfold PQ at hok;split at hok;·rename_i ht;unfold Value.okWide at hv;rw[ht] at hv;simp only[Cell.okWide,ht,Cell.ok] at hv;cases v<;>first|rfl|exact hv.elim
  .cases hok
theorem Xp:∀{Rt:List Ty} {ts:List TypeId} {vs:List Value} {ds:List (DataW H)} {ps:List MemPlace} {base:Nat},DataW.TrodAll enc P W 0 (λ_=>true) true ts vs ds ps->Rt.length=ts.length->(∀(i:Nat) (ty:Ty) (t:TypeId),Rt[i]?=some ty->ts[i]?=some t->PQ P ty t=true)->
  (∀(i:Nat) (t:TypeId) (v:Value),ts[i]?=some t->vs[i]?=some v->Value.okWide P W .any base t v)->∃as,TW Rt as/\Bb (FA W) as vs
 |[],[],[],[],_,_,_,_,_,_=>⟨[],rfl,rfl⟩
 |ty::Rt,t::ts,v::vs,d::ds,ps,base,⟨p,q,⟨fuel,h1⟩,h2,_⟩,hl,hok,PR=>by
  have W0:=hok 0 ty t rfl rfl;obtain⟨cells,p1,p2,p3,p4⟩:=Yn ty W0 h1;obtain⟨bs,q1,q2⟩:=Xp h2 (by simpa using hl) (λi ty t h h'=>hok (i+1) ty t (by simpa using h) (by simpa using h')) (λi t v h h'=>PR (i+1) t v (by simpa using h) (by simpa using h'));have hc:=Yo W0 (PR 0 t v rfl rfl);have:∃a,q9 ty a/\BH (FA W) a v:=by
   by_cases hst:ty.zi=true;·rw[if_pos hst] at hc;obtain⟨us,rfl⟩:=hc;exact⟨.agg cells,(by unfold q9;rw[if_pos hst];exact⟨cells,rfl,p1⟩),us,rfl,by simpa[Value.cells] using p2,by simpa[Value.cells] using p3⟩
   .rw[if_neg hst] at hc;rw[hc] at p2;obtain⟨u,us,e,hu,hnil⟩:∃c FI,cells=c::FI/\BH (FA W) c v/\FI=[]:=by
     cases cells with
     |nil=>cases p2
     |cons c FI=>obtain⟨u,Dm,e,h1,h2⟩:=p2;simp at e;obtain⟨rfl,rfl⟩:=e;exact⟨c,FI,rfl,h1,by cases FI with|nil=>rfl|cons _ _=>obtain⟨_,_,e,_⟩:=h2;cases e⟩
    subst hnil;subst e;exact⟨u,(by unfold q9;rw[if_neg hst];exact p1),hu⟩
  obtain⟨a,ha,hr⟩:=this;exact⟨a::bs,⟨a,bs,rfl,ha,q1⟩,⟨v,vs,rfl,hr,q2⟩⟩
 |[],_::_,_,_,_,_,_,hl,_,_=>by simp at hl
 |_::_,[],_,_,_,_,_,hl,_,_=>by simp at hl
 |[],[],_::_,_,_,_,h,_,_,_=>by cases h
 |[],[],[],_::_,_,_,h,_,_,_=>by cases h
 |_::_,_::_,[],_,_,_,h,_,_,_=>by cases h
 |_::_,_::_,_::_,[],_,_,h,_,_,_=>by cases h
theorem UW{W':World}{may:MemPlace->Prop}(h1:W'.os=W.os)(h2:W'.output=W.output)(hb:∀i,i<W.heap.size->W'.heap[i]?=W.heap[i]?):W.keptBut W' may:=by
 refine⟨h1,h2,λi hi=>?_⟩;rw[hb i hi];split;·rename_i c t fr c' t' qC e1 e2;rw[e1] at e2;cases e2;exact⟨rfl,rfl,rfl,λ_ _=>rfl⟩
 .rename_i e1 e2;rw[e1] at e2;cases e2;exact .inr ⟨rfl,rfl⟩
 .rfl
theorem Po(hl:laidOutB P=true){W':World}(hb:RowKit.Below W.heap.size W W'):∀{ts:List TypeId} {vs:List Value} {ds:List (DataW H)} {ps:List MemPlace},(∀t∈ts,P.readableRec t=true/\t<P.types.size)->
  DataW.TrodAll enc P W 0 (λ_=>true) true ts vs ds ps->(∀x∈ps,x.block<W.heap.size)->DataW.TrodAll enc P W' 0 (λb=>decide (b<W.heap.size)) true ts vs ds ps
 |[],[],[],ps,_,h,_=>h
 |t::ts,v::vs,d::ds,ps,ZC,⟨p,q,h1,h2,e⟩,hlt=>by subst e;have ht:=ZC t (by simp);exact⟨p,q,RowKit.Below.trod hl ht.1 ht.2 h1 hb λx hx=>hlt x (CF _ hx),Po hl hb (λt' h'=>ZC t' (by simp[h'])) h2 λx hx=>hlt x (BV _ hx),rfl⟩
 |[],[],_::_,_,_,h,_=>by cases h
 |[],_::_,_,_,_,h,_=>by cases h
 |_::_,[],_,_,_,h,_=>by cases h
 |_::_,_::_,[],_,_,h,_=>by cases h
end
theorem Yp{C:FJ}(hm:C.P.follows .mixedOrders=true)(wG:∀g cs,C.Gg g=some cs->cs.all Aa.Ls=true)(um:Yl C)(hl:laidOutB C.P=true){f:FuncId}{fn:Func}{rt:TypeId}(hrf:f<=99999)(hrt:fn.resultTypes=#[rt])(hrb:C.P.underlying rt=some .bool){Rt:List Ty}(hlen:Rt.length=fn.params.size)
  (aJC:∀(i:Nat) (ty:Ty) (t:TypeId),Rt[i]?=some ty->fn.params[i]?=some t->PQ C.P ty t=true) (aDP:∀t∈fn.params.toList,C.P.readableRec t=true/\t<C.P.types.size)
  (H5:∀as,TW Rt as->Ev C f as [] λr _=>r= .bool true) {s:ChangeSpec} (tw:s.vars=[])
  {H:Type} (hfn:∀ds:List (DataW H),ds.length=fn.params.size->s.fn H ds={results:=[.lit (.bool true)],args:=ds})
  {enc:TypeId×Value->H} {W:World} {base:Nat} {args:Array Value} {ds gs:List (DataW H)} {before:List MemPlace} (hg:∀g cs,C.Gg g=some cs->CJ (FA W) cs g 0)
  (PR:∀(j:Nat) (t:TypeId) (v:Value),fn.params[j]?=some t->args[j]?=some v->Value.okWide C.P W .any base t v) (hW:DataW.Whole enc C.P fn.params.toList s.vars false W args.toList ds gs before):
  Calls C.P f args W λe W'=>∃v,e= .returned v/\s.post enc C.P fn false true false false W args v W':=by
 have hW':=hW;have hlt:=hW.lt;obtain⟨p,q,hA,hV,rfl,hfz,dh⟩:=hW;rw[tw] at hV;have zc:gs=[]/\q=[]:=by
  cases gs with
  |nil=>exact⟨rfl,hV⟩
  |cons _ _=>cases hV
 obtain⟨rfl,rfl⟩:=zc;obtain⟨as,WD,Nz⟩:=Xp hA (by simpa using hlen) (λi ty t h h'=>aJC i ty t h (by simpa using h')) (λi t v h h'=>PR i t v (by simpa using h) (by simpa using h'));have fL:ds.length=fn.params.size:=by
  have key:∀{ts:List TypeId} {vs:List Value} {ds:List (DataW H)} {ps:List MemPlace},DataW.TrodAll enc C.P W 0 (λ_=>true) true ts vs ds ps->ds.length=ts.length:=by
   intro ts;induction ts with
   |nil=>intro vs ds ps h;cases vs<;>cases ds<;>first|rfl|cases h
   |cons t ts ih=>
    intro vs ds ps h;cases vs with
    |nil=>cases h
    |cons v vs=>
     cases ds with
     |nil=>cases h
     |cons d ds=>obtain⟨_,_,_,h2,_⟩:=h;simp[ih h2]
  simpa using key hA
 have Wy:=(H5 as WD).calls hm wG um (wH W) hg Nz;rw[show Ea f=f from if_pos hrf] at Wy;refine Wy.mono λe W' he=>?_;cases e with
 |returned v=>
  obtain⟨r,h',γ',rfl,hi,JE,hv⟩:=he;have hvb:v= .bool true:=hv;subst hvb;have hold:∀i,i<W.heap.size->W'.heap[i]?=W.heap[i]?:=λi vQ=>(JE.MK i vQ λid h0=>by cases h0).1;have hbelow:RowKit.Below W.heap.size W W':=⟨JE.os,JE.tape,JE.output,JE.size,hold⟩;refine⟨_,rfl,ds,[],p++[],[],p,[],hW',?_,?_,?_,UW JE.os JE.output hold,λh0=>by cases h0⟩;·rw[Bv,hfn ds fL,hrt];exact⟨[],[],RowKit.shut_bool hrb true,rfl,rfl⟩
  .rw[Bv,hfn ds fL];exact Po hl hbelow aDP hA λx hx=>hlt x (by simpa using hx)
  .rw[Bv,hfn ds fL,tw];rfl
 |_=>exact he.elim
end Go.Am
end
