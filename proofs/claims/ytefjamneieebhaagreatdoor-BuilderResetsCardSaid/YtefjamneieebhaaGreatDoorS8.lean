/- Lemmas -/
import Derived.Scope
import Derived.Test.YtefjamneieebhaaGreatDoorS7
import Derived.Carry
import Derived.ReadAgain
set_option linter.unusedVariables false
set_option linter.unusedSimpArgs false
section
namespace Go.Am
open Go
def ue(x y:D5):Prop:=
 match x with
 | .box ver cs ow=>∃Fs Gc MG,y= .box Fs Gc MG/\ver<=Fs/\(Fs=ver->Gc=cs/\MG=ow)
 | .EG t o=>y= .EG t o\/y= .undef
 |x=>y=x
theorem ue.refl(x:D5):ue x x:=by
 cases x with
 |box ver cs ow=>exact⟨ver,cs,ow,rfl,Ac _,λ_=>⟨rfl,rfl⟩⟩
 |EG t o=>exact .inl rfl
 |_=>rfl
theorem ue.trans{x y z:D5}(h:ue x y)(k:ue y z):ue x z:=by
 cases x with
 |box ver cs ow=>
  obtain⟨v1,c1,o1,rfl,h1,h2⟩:=h;obtain⟨v2,c2,o2,rfl,k1,k2⟩:=k;refine⟨v2,c2,o2,rfl,Bt h1 k1,λe=>?_⟩;have e1:v1=ver:=by omega
  have e2:v2=v1:=by omega
  obtain⟨rfl,rfl⟩:=k2 e2;exact h2 e1
 |EG t o=>
  rcases h with rfl|rfl
  .exact k
  .exact .inr k
 |_=>rw[show y=_ from h] at k;exact k
def Gw(W:List Nat)(σ τ:BD):Prop:=τ.length=σ.length/\∀s,s∉W->ue (σ.at s) (τ.at s)
theorem Gw.refl(W:List Nat)(σ:BD):Gw W σ σ:=⟨rfl,λ_ _=> .refl _⟩
theorem Gw.trans{W:List Nat}{σ τ ρ:BD}(h:Gw W σ τ)(k:Gw W τ ρ):Gw W σ ρ:=⟨k.1.trans h.1,λs hs=>(h.2 s hs).trans (k.2 s hs)⟩
theorem Gw.mono{W W':List Nat}{σ τ:BD}(h:Gw W σ τ)(hw:∀s∈W,s∈W'):Gw W' σ τ:=⟨h.1,λs hs=>h.2 s λhm=>hs (hw s hm)⟩
theorem Gw.set{W:List Nat}{σ:BD}{s:Nat}{x:D5}(hs:s∈W):Gw W σ (σ.set s x):=
 ⟨by simp,λt ht=>by rw[BD.Fl λe=>ht (by rw[<-e];exact hs)];exact .refl _⟩
theorem Gw.put{W:List Nat}{σ:BD}{d:Option Nat}{x:D5}(hs:∀s∈d.toList,s∈W):Gw W σ (σ.put d x):=by
 cases d with
 |none=>exact .refl _ _
 |some d=>exact .set (hs d (by simp))
section
variable{C:FG}{fid:FuncId}{ops:List Oper}{run:IT->Ad->Option Jo}{σ σ':BD}{h h':Ad}{W:List Nat}
theorem Gw.drop(σ:BD)(ds:List Nat):Gw W σ (σ.drop ds):=by
 refine⟨BD.length_drop σ ds,λs _=>?_⟩;rw[BD.TW];cases hx:σ.at s with
 |EG t o=>
  simp only
  split;·exact .inr rfl
  .exact .inl rfl
 |_=>exact .refl _
theorem fZ{r:Er}{ds:List Nat}(hd:r.Mf C run (σ.drop ds) h σ' h')(hw:∀s∈r.wf,s∈W):Gw W σ σ':=by obtain⟨ws,rfl,h1,_⟩:=Xp hd;refine(Gw.drop σ ds).trans ⟨BD.IV ws _,λs hs=>?_⟩;rw[BD.F0 ws _ s λp hp e=>hs (hw s (by rw[<-e];exact h1 p hp))];exact .refl _
theorem OL{x:Operand}{d:Nat}{take:Bool}{r:Er}(h:Jw C σ x d take=some r):∀s∈r.wf,s=d\/(take=true/\x= .tmp s):=by
 unfold Jw at h;split at h;·cases h;simp[Er.wf]
 .cases h;simp[Er.wf]
 .split at h
  .rename_i ht;cases h;intro s hs;simp only[Er.wf,BH,Ao] at hs;rcases hs with hs|hs
   .revert hs;generalize hX:Qu _ _=tf;intro hs;unfold Qu at hX;split at hX;·subst hX;simp at hs;exact .inr ⟨ht,by rw[hs]⟩
    .subst hX;simp at hs
   .exact .inl (by simpa using hs)
  .cases hc:HE _ with
   |none=>rw[hc] at h;cases h
   |some sl=>rw[hc] at h;cases h;simp[Er.wf]
 .cases hc:HE _ with
  |none=>rw[hc] at h;cases h
  |some sl=>rw[hc] at h;cases h;simp[Er.wf]
 .cases h
theorem QL{x:Operand}{p:Nat×Aa}(h:CY σ x=some p):x= .tmp p.1:=by
 cases x with
 |tmp t=>
  simp only[CY] at h;cases hx:σ.at t with
  |own v=>rw[hx] at h;cases h;rfl
  |_=>rw[hx] at h;cases h
 |_=>cases h
theorem aS{t:TypeId}{v:Aa}{d:Nat}{r:Er}(h:SC C fid t v d=some r):r.wf=[d]:=by
 unfold SC at h;split at h;·cases h
 .split at h;·cases h
  .split at h<;>(cases h;rfl)
theorem Pp:∀{xs:List Operand} {vs:List Aa} {fz:List (Nat×List Aa)},Gs C σ xs=some (vs,fz)->∀p∈fz,p.1∈Jy xs
 |[],vs,fz,hc=>by cases hc;simp
 |x::xs,vs,fz,hc=>by
  unfold Gs at hc;split at hc;·cases hc
  .rename_i Hi fz' hxs;have ih:=Pp hxs;have up:∀p∈fz',p.1∈Jy (x::xs):=λp hp=>by obtain⟨y,hy,he⟩:=Ch.1 (ih p hp);exact Ch.2 ⟨y,List.mem_cons_of_mem _ hy,he⟩
   split at hc
   .rename_i s ver cs ow hs;split at hc;·cases hc
    .cases hc;intro p hp;rcases AL.1 hp with rfl|hp
     .simp[Jy]
     .exact up p hp
   .rename_i sl _ hs;cases hv:sl.Gr with
    |none=>rw[hv] at hc;cases hc
    |some u=>rw[hv] at hc;cases hc;exact up
   .cases hc
theorem lJ{o:Oper}{r:Er}(hc:Fq C fid ops σ o=some r)(hd:r.Mf C run (σ.drop r.news) h σ' h'):Gw (EO ops o) σ σ':=by
 have QK:∀s∈o.dst.toList,s∈EO ops o:=λs hs=>CE _ hs
 have hwf:(∀s∈r.wf,s∈EO ops o)->Gw (EO ops o) σ σ':=fZ hd
 have WE:r.wf=o.dst.toList->Gw (EO ops o) σ σ':=λe=>hwf (by rw[e];exact QK)
 have SP:∀{m x},Ti m o.dst x=some r->Gw (EO ops o) σ σ':=λ{m x} he=>by
  obtain⟨_,_,rfl⟩:=Ha he
  exact WE rfl
 have GH:∀{p x},RF p o.dst x=some r->Gw (EO ops o) σ σ':=λ{p x} he=>by
  obtain⟨args,_,rfl⟩:=Dy he
  exact WE (by simp[Er.wf])
 unfold Fq at hc
 split at hc
 .rename_i x ho
  split at hc
  .rename_i d FD
   refine hwf λs hs=>?_
   rcases OL hc s hs with rfl|⟨ht,rfl⟩
   .exact QK s (by rw[FD];simp)
   .refine BU _ ?_
    simp[ho,FD,ht]
  .cases hc
 .rename_i x ho
  split at hc
  .rename_i d FD
   refine hwf λs hs=>?_
   rcases OL hc s hs with rfl|⟨ht,rfl⟩
   .exact QK s (by rw[FD];simp)
   .refine BU _ ?_
    simp[ho]
  .cases hc
 .rename_i c x y ho
  split at hc
  .rename_i d _ FD
   refine hwf λs hs=>?_
   rcases OL hc s hs with rfl|⟨ht,rfl⟩
   .exact QK s (by rw[FD];simp)
   .cases ht
  .rename_i d _ FD
   refine hwf λs hs=>?_
   rcases OL hc s hs with rfl|⟨ht,rfl⟩
   .exact QK s (by rw[FD];simp)
   .cases ht
  .exact GH hc
 .split at hc
  .rename_i d z FD hz
   split at hc
   .split at hc
    .cases hc;exact WE (by rw[FD];rfl)
    .cases hc
   .exact WE (by rw[aS hc,FD];rfl)
  .cases hc
 .split at hc
  .rename_i d v FD hz
   exact WE (by rw[aS hc,FD];rfl)
  .cases hc
 .split at hc
  .split at hc
   .exact GH hc
   .cases hc
  .cases hc
 .split at hc
  .split at hc
   .split at hc
    .cases ha:Bq C σ _ with
     |none=>rw[ha] at hc;cases hc
     |some args=>rw[ha] at hc;cases hc;exact WE (by simp[Er.wf])
    .cases hc
   .cases hc
  .cases hc
 .split at hc
  .rename_i d FD
   unfold Kn at hc
   split at hc
   .cases hc;exact WE (by rw[FD];rfl)
   .rename_i s off ver cs ow ht ha
    split at hc
    .simp only at hc
     split at hc
     .cases hc
      rw[MQ (by simp)] at hd
      obtain⟨rfl,rfl⟩:=hd
      have hs:σ.at s= .box ver cs ow:=by
       unfold Fp at ha
       split at ha
       .rename_i hs;cases ha;exact Gi hs
       .split at ha
        .rename_i hb;cases ha;exact hb
        .cases ha
       .exact absurd ha (by cases hv:D5.Gr _<;>simp)
       .cases ha
      refine⟨by simp[BD.drop,BD.Eb],λt htW=>?_⟩
      have htd:t≠d:=λe=>htW (QK t (by rw[FD,e];simp))
      have vO:s<σ.length:=BD.NX (by rw[hs];simp)
      show ue (σ.at t) (BD.at ((σ.set s _).set d _) t)
      rw[BD.Fl (λe=>htd e.symm)]
      by_cases ZG:s=t
      .subst ZG
       rw[BD.ES vO,hs]
       exact⟨_,_,_,rfl,Gd _,λe=>absurd e (by omega)⟩
      .rw[BD.Fl ZG];exact .refl _
     .cases hc;exact WE (by rw[FD];rfl)
    .cases hc
   .split at hc
    .cases hc;exact WE (by rw[FD];rfl)
    .cases hc
   .cases hc
  .cases hc
 .rename_i t x y ho
  split at hc
  .rename_i FD
   unfold IB at hc
   split at hc
   .cases hc;exact hwf (by simp[Er.wf])
   .rename_i m sh s off ver cs ow v hsz eF ha hv
    split at hc
    .cases hc
     obtain⟨_,rfl,rfl⟩:=hd
     have hs:σ.at s= .box ver cs ow:=by
      unfold Fp at ha
      split at ha
      .rename_i hs;cases ha;exact Gi hs
      .split at ha
       .rename_i hb;cases ha;exact hb
       .cases ha
      .exact absurd ha (by cases hv:D5.Gr _<;>simp)
      .cases ha
     have Wz:∀(D:Option (Nat×Aa)),(∀p,D=some p->p.1∈EO ops o/\p.1≠s)->∀X:List Aa×List Nat,Gw (EO ops o) σ ((σ.Dm D).set s (.box (ver+1) X.1 X.2)):=by
      intro D hD X
      refine⟨by cases D<;>simp[BD.Dm],λt htW=>?_⟩
      have hlen:s<(σ.Dm D).length:=by
       have:s<σ.length:=BD.NX (by rw[hs];simp)
       cases D<;>simpa[BD.Dm] using this
      by_cases ZG:s=t
      .subst ZG
       rw[BD.ES hlen,hs]
       exact⟨_,_,_,rfl,Gd _,λe=>absurd e (by omega)⟩
      .rw[BD.Fl ZG]
       cases D with
       |none=>exact .refl _
       |some p=>
        obtain⟨k1,k2⟩:=hD p rfl
        simp only[BD.Dm]
        rw[BD.Fl (λe=>htW (by rw[<-e];exact k1))]
        exact .refl _
     refine Wz _ (λp hp=>?_) (_,_)
     split at hp
     .have hy:=QL hp
      subst hy
      refine⟨BU _ (by simp[ho]),λe=>?_⟩
      simp only[CY] at hp
      rw[e,hs] at hp
      cases hp
     .cases hp
    .cases hc
   .cases hc
  .cases hc
 .split at hc
  .rename_i FD _ _
   cases hc;exact WE (by rw[FD];rfl)
  .rename_i FD _ _
   cases hc;exact WE (by rw[FD];rfl)
  .exact GH hc
 .split at hc
  .exact GH hc
  .cases hc
 .exact GH hc
 .split at hc
  .cases hv:Es C σ _ with
   |none=>rw[hv] at hc;cases hc
   |some v=>rw[hv] at hc;cases hc;exact WE rfl
  .split at hc
   .cases hv:Es C σ _ with
    |none=>rw[hv] at hc;cases hc
    |some v=>rw[hv] at hc;cases hc;exact WE rfl
   .exact GH hc
  .exact GH hc
  .cases hc
 .rename_i fn first captured ho
  split at hc
  .rename_i d as bs fz FD ha hb
   cases hc
   refine hwf λs hs=>?_
   simp only[Er.wf,AL] at hs
   rcases hs with rfl|hs
   .exact QK s (by rw[FD];simp)
   .obtain⟨p,hp,rfl⟩:=Bk.1 hs
    refine BU _ ?_
    simp only[ho]
    exact Pp hb p hp
  .cases hc
 .cases hc;exact WE rfl
 .split at hc
  .split at hc
   .cases hc;exact WE rfl
   .cases hc
  .cases hc
 .split at hc
  .split at hc
   .cases hc;exact hwf (by simp[Er.wf])
   .cases hc
  .cases hc
 .split at hc
  .split at hc
   .cases hc;exact hwf (by simp[Er.wf])
   .cases hc
  .cases hc
 .split at hc
  .split at hc
   .cases hc;exact WE rfl
   .cases hc;exact WE rfl
   .cases hc
  .cases hc
 .split at hc
  .split at hc
   .exact SP hc
   .cases hc
  .cases hc
 .split at hc
  .cases hc
  .exact SP hc
  .cases hc
 .split at hc
  .split at hc
   .exact SP hc
   .cases hc
  .cases hc
 .split at hc
  .rename_i FD
   exact SP (by rw[FD];exact hc)
  .cases hc
 .split at hc
  .exact GH hc
  .split at hc
   .split at hc
    .exact SP hc
    .exact GH hc
   .cases hc
  .cases hc
 .split at hc
  .rename_i off sh d hf FD
   split at hc
   .cases hc;exact WE (by rw[FD];rfl)
   .cases hc;exact WE (by rw[FD];rfl)
   .exact GH (by rw[FD];exact hc)
  .cases hc
 .split at hc
  .exact GH hc
  .cases hc
 .split at hc
  .split at hc
   .exact GH hc
   .cases hc
  .split at hc
   .split at hc
    .cases hc
    .exact GH hc
   .cases hc
  .cases hc
 .split at hc
  .exact GH hc
  .split at hc
   .exact GH hc
   .cases hc
  .cases hc
 .exact GH hc
 .rename_i c ho
  unfold PM at hc
  split at hc
  .split at hc
   .split at hc
    .exact GH hc
    .exact GH hc
    .cases hc
   .cases hc
  .rename_i hcl
   split at hc
   .rename_i t t' s x h0 h1 Ed
    have Wz:∀p,CY σ s=some p->p.1∈EO ops o:=λp hp=>by
     have:=QL hp
     subst this
     refine BU _ ?_
     simp only[ho,hcl,Ed]
     simp[Jy]
    split at hc
    all_goals first
     |(cases hc;done)
     | (split at hc
        . split at hc
          . split at hc
            . split at hc
              . split at hc
                . cases hc
                  refine hwf fun q hq => ?_
                  simp only [Er.wf, Ao] at hq
                  rcases hq with hq | hq
                  . exact QK q hq
                  . cases gA : CY σ s with
                    | none => rw [gA] at hq; simp at hq
                    | some p => rw [gA] at hq; simp at hq; rw [hq]; exact Wz p gA
                . split at hc
                  . cases hc
                    refine hwf fun q hq => ?_
                    simp only [Er.wf, Ao] at hq
                    rcases hq with hq | hq
                    . exact QK q hq
                    . cases gA : CY σ s with
                      | none => rw [gA] at hq; simp at hq
                      | some p => rw [gA] at hq; simp at hq; rw [hq]; exact Wz p gA
                  . cases hc
                    refine hwf fun q hq => ?_
                    simp only [Er.wf, Ao] at hq
                    rcases hq with hq | hq
                    . exact QK q hq
                    . cases gA : CY σ s with
                      | none => rw [gA] at hq; simp at hq
                      | some p => rw [gA] at hq; simp at hq; rw [hq]; exact Wz p gA
              . split at hc
                . cases hc
                  refine hwf fun q hq => QK q (by simpa [Er.wf] using hq)
                . cases hc
            . cases hc
          . cases hc
        . cases hc)
   .cases hc
  .split at hc
   .split at hc
    all_goals first
     |(cases hc;done)
     | (split at hc
        . exact SP hc
        . cases hc)
   .cases hc
  .split at hc
   .split at hc
    .split at hc
     .exact SP hc
     .cases hc
    .cases hc
   .cases hc
  .split at hc
   .exact GH hc
   .cases hc
  .split at hc
   .exact GH hc
   .cases hc
  .split at hc
   .split at hc
    .split at hc
     .exact SP hc
     .cases hc
    .cases hc
   split at hc
   .cases ha:Bq C σ c.args.toList with
    |none=>rw[ha] at hc;cases hc
    |some args=>
     rw[ha] at hc
     simp only[BR,BA] at hc
     split at hc<;>(cases hc;exact WE rfl)
   .cases hc
  .split at hc
   .cases hc;exact WE rfl
   .cases hc
  .cases hc
 .cases hc
end
end Go.Am
end
section
namespace Go.Am
open Go
def wR:EK->Exit
 | .normal=> .normal
 | .exit i=> .exit i
 | .ret=> .ret
theorem M1:∀{l m:List Nat},l.Nodup->(∀x∈l,x∈m)->l.length<=m.length
 |[],_,_,_=>AR _
 |x::l,m,hn,hs=>by have hx:=hs x (by simp);have h1:=M1 (l:=l) (m:=m.erase x) (BV.1 hn).2 λy hy=>(List.mem_erase_of_ne λe=>(BV.1 hn).1 (by rw[<-e];exact hy)).2 (hs y (by simp[hy]));rw[List.length_erase_of_mem hx] at h1;have:0<m.length:=List.length_pos_of_mem hx;simp;omega
theorem Yn{P:Program}{c:Code}{Q:Exit->Act->World->Prop}(T:Nat->Act->World->Prop)(round:∀n a w,T n a w->c.wp P (Exit.then (λa' w'=>∃m,m<n/\T m a' w') Q) a w)(n:Nat)(a:Act)(w:World)(h0:T n a w):(Code.loop c).wp P Q a w:=by
 intro b k cs;have key:∀n a w,T n a w->∃e a' w',Q e a' w'/\Arrives P (lone (b.at a (.code c:: .inLoop c::k)) cs w) b k cs e a' w':=by
  intro n;induction n using Nat.strongRecOn with
  |_ n ih=>
   intro a w hT;obtain⟨e,a1,w1,hq,gj⟩:=round n a w hT b (.inLoop c::k) cs;by_cases he:e= .normal;·subst he;obtain⟨m,hm,hT1⟩:=hq;obtain⟨e2,a2,w2,q2,r2⟩:=ih m hm a1 w1 hT1;exact⟨e2,a2,w2,q2,.of_steps (Go.Steps.trans gj (.one step_inLoop)) r2⟩
   .exact⟨e,a1,w1,by cases e<;>first|exact hq|exact absurd rfl he,.pass (x:= .inLoop c) rfl (λ_ _=> .inl he) gj⟩
 obtain⟨e,a',w',hq,gj⟩:=key n a w h0;exact⟨e,a',w',hq,.of_steps (.one step_loop) gj⟩
section
variable{C:FG}{γ0 γ:Gh}{w0 w:World}{β:Nat->Nat}{σ:BD}{h:Ad}{a:Act}{fid:FuncId}{run:IT->Ad->Option Jo}
theorem Yo{ops:List Oper}{o:Oper}{K:BD->IT}{R:Jo}(hr:IT.step (B5 C) run (RG C fid ops σ o K) h=some R):
  ∃σ1,(σ1=σ\/∃s b,s∈EW ops o/\σ.at s= .val (.bool b)/\σ1=σ.set s (.NC b))/\
   ((HU ops σ1 o= .Mc true/\IT.step (B5 C) run (uZ C fid ops σ1 o K) h=some R)\/(HU ops σ1 o= .Mc false/\IT.step (B5 C) run (K (σ1.put o.dst .skip)) h=some R)):=by
 unfold RG at hr;split at hr;·rename_i hg;exact⟨σ,.inl rfl,.inl ⟨hg,hr⟩⟩
 .rename_i hg;exact⟨σ,.inl rfl,.inr ⟨hg,hr⟩⟩
 .rename_i s v want hg;have y_:s∈EW ops o/\σ.at s= .val v/\∀b,HU ops (σ.set s (.NC b)) o= .Mc (b==want):=by
   unfold HU at hg⊢;unfold EW;cases ho:o.guard with
   |none=>rw[ho] at hg;cases hg
   |some g=>
    obtain⟨j,want'⟩:=g;rw[ho] at hg;simp only at hg⊢;cases hd:(ops[j]?).bind (·.dst) with
    |none=>rw[hd] at hg;cases hg
    |some s'=>
     rw[hd] at hg;simp only at hg⊢;cases hx:σ.at s' with
     |val v'=>rw[hx] at hg;cases hg;refine⟨by simp,hx,λb=>?_⟩;rw[BD.ES (BD.NX (by rw[hx];simp))]
     |NC c=>rw[hx] at hg;cases hg
     |skip=>rw[hx] at hg;cases hg
     |_=>rw[hx] at hg;cases hg
  obtain⟨g1,g2,g3⟩:=y_;simp only[IT.step] at hr;split at hr
  .refine⟨σ.set s (.NC true),.inr ⟨s,true,g1,g2,rfl⟩,?_⟩;rw[g3];cases want with
   |true=>exact .inl ⟨rfl,hr⟩
   |false=>exact .inr ⟨rfl,hr⟩
  .refine⟨σ.set s (.NC false),.inr ⟨s,false,g1,g2,rfl⟩,?_⟩;rw[g3];cases want with
   |true=>exact .inr ⟨rfl,hr⟩
   |false=>exact .inl ⟨rfl,hr⟩
  .cases hr
 .cases hr
theorem lK(hS:ED C run){ops:Array Oper}{Q:Exit->Act->World->Prop}{W:List Nat}{K:BD->IT}{R:Jo}:∀(rest:List Oper) (k:Nat) (γ:Gh) (β:Nat->Nat) (σ:BD) (h:Ad) (a:Act) (w:World),
  ops.toList.drop k=rest->(∀o∈rest,(∀s∈EO ops.toList o,s∈W)/\∀s∈EW ops.toList o,s∈W)->IT.step (B5 C) run (kV C fid ops.toList rest σ K) h=some R->CR C γ0 w0 γ β σ h a w->
  (∀γ' β' σ' h' a' w',IT.step (B5 C) run (K σ') h'=some R->Gw W σ σ'->CR C γ0 w0 γ' β' σ' h' a' w'->Q .normal a' w')->wpOps C.P ops Q (List.range' k rest.length) a w
 |[],k,γ,β,σ,h,a,w,_,_,AV,hr,hQ=>by simp only[BT,List.range'_zero,wpOps];exact hQ γ β σ h a w AV (.refl _ _) hr
 |o::rest,k,γ,β,σ,h,a,w,hk,hW,AV,hr,hQ=>by
  have ho:ops[k]?=some o:=by
   have:ops.toList[k]?=some o:=by have h0:=Cd (·[0]?) hk;simpa[Cz] using h0
   simpa using this
  have hk':ops.toList.drop (k+1)=rest:=by have h0:=Cd (List.drop 1) hk;simpa[E5] using h0
  obtain⟨za,wK⟩:=hW o (by simp);simp only[Bd,List.range'_succ,wpOps,ho];obtain⟨σ1,hσ1,Ie⟩:=Yo AV;have Jr:CR C γ0 w0 γ β σ1 h a w/\Gw W σ σ1:=by
   rcases hσ1 with rfl|⟨s,b,g1,g2,rfl⟩
   .exact⟨hr,.refl _ _⟩
   .have h0:=hr.fr.Hs s;rw[g2] at h0;exact⟨hr.ZY h0,.set (wK s g1)⟩
  obtain⟨Jr,aDN⟩:=Jr;have next:∀γ' β' σ' h' a' w',IT.step (B5 C) run (kV C fid ops.toList rest σ' K) h'=some R->Gw W σ σ'->CR C γ0 w0 γ' β' σ' h' a' w'->wpOps C.P ops Q (List.range' (k+1) rest.length) a' w':=λγ' β' σ' h' a' w' Pq qX Fu=>lK hS rest (k+1) γ' β' σ' h' a' w' hk' (λo ho=>hW o (by simp[ho])) Pq Fu λγ2 β2 σ2 h2 a2 w2 KX aJG aDO=>hQ γ2 β2 σ2 h2 a2 w2 KX (qX.trans aJG) aDO
  rcases Ie with⟨hg,If⟩|⟨hg,If⟩
  .rw[if_pos (KF Jr hg)];unfold uZ at If;split at If;·rename_i r hc;obtain⟨σ2,h2,hd,SQ⟩:=W9 If;exact .inl (wJ hS hc hd Jr λγ' β' a' w' Fu=>next γ' β' σ2 h2 a' w' SQ (aDN.trans ((lJ hc hd).mono za)) Fu)
   .cases If
  .rw[if_neg (by rw[KF Jr hg];simp)];exact next γ β _ h _ w If (aDN.trans (.put λs hs=>za s (CE _ hs))) (Jr.put λ_ _=>rfl)
theorem gB{W:List Nat}{d:Option Nat}{σ σ':BD}(h:LB d σ σ')(hd:∀s∈d.toList,s∈W):Gw W σ σ':=by
 unfold LB at h;cases d with
 |none=>simp only at h;rw[h];exact .refl _ _
 |some d=>
  simp only at h;split at h;·obtain⟨b,_,rfl⟩:=h;exact .set (hd d (by simp))
  .rw[h];exact .refl _ _
theorem gC{ops:List Oper}{an:List Nat}{W:List Nat}(hW:∀o∈ops,∀s∈EO ops o,s∈W){fl:List Jp}{L:List St}{σ σf:BD}{h hf:Ad}(hs:Steps C fid ops run an fl L σ h σf hf):Gw W σ σf:=by
 induction hs with
 |nil=>exact .refl _ _
 |cons h1 _ _ ih=>
  refine Gw.trans ?_ ih;obtain⟨o,ho,⟨_,_,_,rfl,rfl⟩|⟨r,σ2,hg,hc,_,hd,_,ha⟩⟩:=h1;·exact .put λs hs=>hW o (CD ho) s (CE _ hs)
  .refine((lJ hc hd).mono λs hs=>hW o (CD ho) s hs).trans (gB ha λs hs=>?_);split at hs;·exact hW o (CD ho) s (CE _ hs)
   .simp at hs
theorem UY(hm:C.P.follows .mixedOrders=true)(hS:ED C run){id:Nat}{ops:Array Oper}{draw:Bool}{Q:Exit->Act->World->Prop}{K:BD->IT}{R:Jo}(AV:IT.step (B5 C) run (Qy C fid ops.toList draw σ K) h=some R)(hr:CR C γ0 w0 γ β σ h a w)
  (hQ:∀γ' β' σ' h' a' w',IT.step (B5 C) run (K σ') h'=some R->Gw (ops.toList.flatMap (EO ops.toList)++ops.toList.flatMap (EW ops.toList)) σ σ'->CR C γ0 w0 γ' β' σ' h' a' w'->Q .normal a' w'):(Code.region id ops draw).wp C.P Q a w:=by
 unfold Qy at AV;cases draw with
 |false=>refine wp_region ?_;have:=lK (W:=ops.toList.flatMap (EO ops.toList)++ops.toList.flatMap (EW ops.toList)) hS ops.toList 0 γ β σ h a w rfl (λo ho=>⟨λs hs=>CE _ (List.mem_flatMap.2 ⟨o,ho,hs⟩),λs hs=>BU _ (List.mem_flatMap.2 ⟨o,ho,hs⟩)⟩) AV hr hQ;simpa[List.range_eq_range'] using this
 |true=>
  simp only[BK] at AV;split at AV
  .rename_i FD;obtain⟨L,σf,hf,h1,h2,h3⟩:=PV AV;refine wp_region_any hm ?_;have zb:=h2;unfold Ux at zb;simp only[List.reverse_nil,BG,BL] at zb;have aDP:lI (Uv ops.toList) L:=by have:=Xs zb.1;rw[List.pairwise_map] at this;exact this
   have hlt:=h1.lt;have X9:∀i,i<ops.size->i∈L.map (·.idx):=λi hi=>by have:=EI.1 zb.2 i (by simpa using hi);simpa using this
   have dr:(L.map (·.idx)).Nodup:=by rw[List.Nodup,List.pairwise_map];exact aDP.imp λh=>h.1
   have hlen:L.length=ops.size:=by
    have p1:(L.map (·.idx)).length<=(List.range ops.size).length:=M1 dr (λi hi=>by obtain⟨s,hs,rfl⟩:=Bk.1 hi;simpa using hlt s hs)
    have p2:(List.range ops.size).length<=(L.map (·.idx)).length:=M1 List.nodup_range λi hi=>X9 i (by simpa using hi);simp at p1 p2;omega
   have qX:=gC (W:=ops.toList.flatMap (EO ops.toList)++ops.toList.flatMap (EW ops.toList)) (λo ho s hs=>CE _ (List.mem_flatMap.2 ⟨o,ho,hs⟩)) h1;refine rF hS FD (λγ' β' a' w' Fu=>hQ γ' β' σf hf a' w' h3 qX Fu) ops.size L _ γ β σ h a w.drew hlen h1 aDP ⟨by simp,λi hi=>⟨λ_=>X9 i hi,λ_=>by simp[Array.getD,hi]⟩,λj hj e _=>?_⟩ hr.drew;exfalso;rcases AT j ops.size with hlt|D1
   .simp[Array.getD,hlt] at hj
   .simp[Array.getD,Nat.not_lt.2 D1] at hj
  .cases AV
end
end Go.Am
end
section
namespace Go.Am
open Go
def OM(x y:D5):Prop:=
 (∃u,x.Gr=some u/\y= .val u)\/(∃v,x= .own v/\y= .own v)\/∃ver cs ow Fs MG,x= .box ver cs ow/\y= .box Fs cs MG/\∀o∈MG,o∈ow
theorem BD.HI:∀(ws:List Nat) (σ:BD) (s:Nat),(σ.clear ws).at s=if s∈ws then .undef else σ.at s
 |[],σ,s=>by simp[BD.clear]
 |t::ws,σ,s=>by
  rw[BD.clear,BD.HI ws];by_cases h:s∈ws;·simp[h]
  .by_cases h2:s=t
   .subst h2;rw[BD.UT];by_cases hl:s<σ.length;·simp[hl]
    .have:σ.at s= .undef:=by simp[BD.at,List.getD,hl]
     simp[h,hl,this]
   .rw[BD.Fl λe=>h2 e.symm];simp[h,h2]
theorem BD.I9:∀(ws:List Nat) (σ:BD),(σ.clear ws).length=σ.length
 |[],σ=>rfl
 |t::ws,σ=>by rw[BD.clear,BD.I9 ws];simp
section
variable{C:FG}{γ0 γ:Gh}{w0 w:World}{β:Nat->Nat}{σ:BD}{h:Ad}{a:Act}{fid:FuncId}{run:IT->Ad->Option Jo}
theorem OM.rel{B s:Nat}{x y:D5}{v:Value}(hx:Ko γ β B w s x v)(hf:OM x y):Ko γ β B w s y v:=by
 rcases hf with⟨u,hu,rfl⟩|⟨u,rfl,rfl⟩|⟨ver,cs,ow,Fs,MG,rfl,rfl,NI⟩
 .exact Mg hx hu
 .exact hx
 .obtain⟨p1,p2,p3,us,e,p4,p5,p6,p7⟩:=hx;exact⟨p1,p2,p3,us,e,p4,p5,p6,λo ho=>p7 o (NI o ho)⟩
theorem SR{σs:BD}{G:BD->IT}{R:Jo}{vs:List Aa}:∀{l:List (Nat×Sh)} {i:Nat} {σa:BD},Uy σs l=some (vs.drop i)->σa.length=σs.length->IT.step (B5 C) run (IE vs l i σa G) h=some R->
  ∃σh,IT.step (B5 C) run (G σh) h=some R/\σh.length=σa.length/\(∀s,s∉l.map (·.1)->σh.at s=σa.at s)/\(∀s,s∈l.map (·.1)->OM (σs.at s) (σh.at s)/\
   ((∃Fs Gc MG,σh.at s= .box Fs Gc MG/\W0 (σa.at s)<Fs)\/∀ver cs ow,σs.at s≠ .box ver cs ow))
 |[],i,σa,_,_,hr=>⟨σa,hr,rfl,λ_ _=>rfl,by simp⟩
 |(s,sh)::l,i,σa,hv,hl,hr=>by
  have hd:∃v Hi,vs.drop i=v::Hi/\vs.drop (i+1)=Hi/\vs.getD i .nilIface=v/\Uy σs l=some Hi/\
    (match(generalizing:=false) sh,σs.at s with| .val,x=>x.Gr| .own,.own v=>some v| .box n ow,.box _ cs MG=>if cs.length=n/\ow.all (MG.contains ·) then some (.agg cs) else none|_,_=>none)=some v:=by
   unfold Uy at hv;simp only at hv;split at hv
   .rename_i v Hi h1 h2;simp only[BA] at hv;refine⟨v,Hi,hv.symm,?_,?_,h2,h1⟩;·have:=Cd (List.drop 1) hv;simpa[E5] using this.symm
    .have:=Cd (·[0]?) hv;simp only[JN,Cz,Bn] at this;simp[List.getD,<-this]
   .cases hv
  obtain⟨v,Hi,hdr,aJH,Yh,UI,QM⟩:=hd;have hlt:s<σa.length:=by rw[hl];refine BD.NX λe=>?_;rw[e] at QM;cases sh<;>simp[D5.Gr] at QM
  have go:∀(y:D5),OM (σs.at s) y->((∃Fs Gc MG,y= .box Fs Gc MG/\W0 (σa.at s)<Fs)\/∀ver cs ow,σs.at s≠ .box ver cs ow)->IT.step (B5 C) run (IE vs l (i+1) (σa.set s y) G) h=some R->
    ∃σh,IT.step (B5 C) run (G σh) h=some R/\σh.length=σa.length/\(∀t,t∉((s,sh)::l).map (·.1)->σh.at t=σa.at t)/\(∀t,t∈((s,sh)::l).map (·.1)->OM (σs.at t) (σh.at t)/\
     ((∃Fs Gc MG,σh.at t= .box Fs Gc MG/\W0 (σa.at t)<Fs)\/∀ver cs ow,σs.at t≠ .box ver cs ow)):=by
   intro y hy hy2 Fu;obtain⟨σh,k1,k2,k3,k4⟩:=SR (l:=l) (i:=i+1) (σa:=σa.set s y) (by rw[aJH];exact UI) (by simpa using hl) Fu;refine⟨σh,k1,by simpa using k2,λt ht=>?_,λt ht=>?_⟩;·simp only[Bl,AL,not_or] at ht;rw[k3 t ht.2,BD.Fl λe=>ht.1 e.symm]
   .by_cases hm:t∈l.map (·.1)
    .obtain⟨q1,q2⟩:=k4 t hm;refine⟨q1,q2.imp (λ⟨Fs,Gc,MG,e1,e2⟩=>⟨Fs,Gc,MG,e1,?_⟩) id⟩;by_cases ZG:s=t
     .subst ZG;rw[BD.ES hlt] at e2;rcases hy2 with⟨v1,c1,o1,rfl,h1⟩|hn
      .simp only[W0] at e2;omega
      .rcases q1 with⟨u,_,e⟩|⟨u,_,e⟩|⟨ver,cs,ow,_,_,e,_⟩
       .rw[e1] at e;cases e
       .rw[e1] at e;cases e
       .exact absurd e (hn _ _ _)
     .rwa [BD.Fl ZG] at e2
    .have ZG:t=s:=by simp only[Bl,AL] at ht;exact ht.resolve_right hm
     subst ZG;rw[k3 t hm,BD.ES hlt];exact⟨hy,hy2⟩
  cases sh with
  |val=>
   simp only[IE,Yh] at hr;have wS:(σs.at s).Gr=some v:=by simpa using QM
   refine go (.val v) (.inl ⟨v,wS,rfl⟩) (.inr λver cs ow e=>?_) hr;rw[e] at wS;cases wS
  |own=>
   simp only[IE,Yh] at hr;cases hx:σs.at s with
   |own u=>rw[hx] at QM;cases QM;exact go (.own v) (.inr (.inl ⟨v,hx,rfl⟩)) (.inr λver cs ow e=>by rw[hx] at e;cases e) hr
   |_=>rw[hx] at QM;cases QM
  |box n ow=>
   simp only[IE,Yh,IT.step] at hr;cases hx:σs.at s with
   |box ver cs MG=>
    rw[hx] at QM;simp only at QM;split at QM
    .rename_i HG;cases QM;split at hr;·rename_i hn;rw[RK hn] at hr;refine go (.box (W0 (σa.at s)+1) cs ow) (.inr (.inr ⟨ver,cs,MG,_,ow,hx,rfl,λo ho=>?_⟩)) (.inl ⟨_,_,_,rfl,tZ _⟩) hr;have:=EI.1 HG.2 o ho;simpa using this
     .cases hr
    .cases QM
   |_=>rw[hx] at QM;cases QM
theorem CR.zc(hr:CR C γ0 w0 γ β σ h a w){τ:BD}(hl:τ.length=σ.length)(hs:∀s,τ.at s= .undef\/τ.at s=σ.at s\/OM (σ.at s) (τ.at s)):CR C γ0 w0 γ β τ h a w:=by
 refine⟨hr.DD,⟨by rw[hl];exact hr.fr.size,λs=>?_⟩,hr.Dw,hr.defers,hr.Gf⟩;have h0:=hr.fr.Hs s;rcases hs s with e|e|e
 .rw[e];trivial
 .rw[e];exact h0
 .exact e.rel h0
structure wT(σ0:BD)(ws:List Nat)(l:List (Nat×Sh))(σ':BD)(vs:List Aa):Prop where
 vec:Uy σ' l=some vs
 len:σ'.length=σ0.length
 same:∀s,s∉l.map (·.1)->σ0.at s= .undef\/σ0.at s=σ'.at s
 box:∀s ver cs ow,σ0.at s= .box ver cs ow->∃Fs Gc MG,σ'.at s= .box Fs Gc MG
theorem aT{σ0 σ':BD}{l:List (Nat×Sh)}(hk:eT σ0 σ' l=true){s:Nat}(hs:s∉l.map (·.1)):(∀ver cs ow,σ0.at s= .box ver cs ow->∃Gc MG,σ'.at s= .box ver Gc MG)/\(∀t o,σ0.at s= .EG t o->∃t' o',σ'.at s= .EG t' o'):=by
 have hc:(l.map (·.1)).contains s=false:=by
  cases hc:(l.map (·.1)).contains s with
  |false=>rfl
  |true=>exact absurd (by simpa using hc) hs
 have TZ:s<σ0.length->(match σ0.at s with
   | .box ver _ _=>(l.map (·.1)).contains s||(match σ'.at s with| .box Fs _ _=>Fs==ver|_=>false)
   | .EG _ _=>(l.map (·.1)).contains s||(match σ'.at s with| .EG _ _=>true|_=>false)
   |_=>true)=true:=λhl=>by
  unfold eT at hk;exact EI.1 hk s (by simpa using hl)
 constructor
 .intro ver cs ow hx;have:=TZ (BD.NX (by rw[hx];simp));rw[hx] at this;simp only[hc,Ji] at this;split at this
  .rename_i Fs Gc MG hy;have e:Fs=ver:=by simpa using this
   subst e;exact⟨Gc,MG,hy⟩
  .cases this
 .intro t o hx;have:=TZ (BD.NX (by rw[hx];simp));rw[hx] at this;simp only[hc,Ji] at this;split at this;·rename_i t' o' hy;exact⟨t',o',hy⟩
  .cases this
theorem N6{σ0 σh σ':BD}{ws:List Nat}{l:List (Nat×Sh)}{x:EK}{R:Jo}(Tt:IT.step (B5 C) run (RI σ0 l x σ') h=some R)(qX:Gw ws σh σ')(hlen:σh.length=σ0.length)
  (hin:∀s,s∈ws->σ0.at s= .undef) (Me:∀s,s∉l.map (·.1)->σ0.at s= .undef\/σ0.at s=σh.at s) (aJI:∀s ver cs ow,σ0.at s= .box ver cs ow->∃Fs Gc MG,σh.at s= .box Fs Gc MG):
  ∃vs,R=(x,vs,h)/\wT σ0 ws l σ' vs:=by
 unfold RI at Tt;split at Tt
 .rename_i hk;split at Tt
  .rename_i vs hv;cases Tt;refine⟨vs,rfl,hv,qX.1.trans hlen,λs hs=>?_,λs ver cs ow hb=>?_⟩
   .by_cases hw:s∈ws;·exact .inl (hin s hw)
    .rcases Me s hs with e|e
     .exact .inl e
     .right;have Wl:=qX.2 s hw;obtain⟨k1,k2⟩:=aT hk hs;rw[e] at k1 k2⊢;cases hx:σh.at s with
      |box ver cs ow=>rw[hx] at Wl;obtain⟨v1,c1,o1,e1,_,e2⟩:=Wl;obtain⟨c2,o2,e3⟩:=k1 ver cs ow hx;rw[e1] at e3;cases e3;obtain⟨rfl,rfl⟩:=e2 rfl;exact e1.symm
      |EG t o=>
       rw[hx] at Wl;rcases Wl with e1|e1
       .exact e1.symm
       .obtain⟨t',o',e2⟩:=k2 t o hx;rw[e1] at e2;cases e2
      |_=>rw[hx] at Wl;exact(show σ'.at s=_ from Wl).symm
   .have hw:s∉ws:=λhw=>by rw[hin s hw] at hb;cases hb
    obtain⟨v1,c1,o1,e1⟩:=aJI s ver cs ow hb;have Wl:=qX.2 s hw;rw[e1] at Wl;obtain⟨v2,c2,o2,e2,_⟩:=Wl;exact⟨v2,c2,o2,e2⟩
  .cases Tt
 .cases Tt
theorem wT.next{σ0 σ':BD}{ws:List Nat}{l:List (Nat×Sh)}{vs:List Aa}(he:wT σ0 ws l σ' vs){G:BD->IT}{R:Jo}(hr:CR C γ0 w0 γ β σ' h a w)(AV:IT.step (B5 C) run (IE vs l 0 σ0 G) h=some R):
  ∃σh,IT.step (B5 C) run (G σh) h=some R/\CR C γ0 w0 γ β σh h a w/\σh.length=σ0.length/\(∀s,s∉l.map (·.1)->σh.at s=σ0.at s)/\(∀s ver cs ow,σ0.at s= .box ver cs ow->∃Fs Gc MG,σh.at s= .box Fs Gc MG/\(s∈l.map (·.1)->ver<Fs)):=by
 obtain⟨σh,k1,k2,k3,k4⟩:=SR (σs:=σ') (by simpa using he.vec) he.len.symm AV;refine⟨σh,k1,hr.zc (k2.trans he.len.symm) λs=>?_,k2,k3,λs ver cs ow hb=>?_⟩
 .by_cases hm:s∈l.map (·.1);·exact .inr (.inr (k4 s hm).1)
  .rw[k3 s hm];rcases he.same s hm with e|e
   .exact .inl e
   .exact .inr (.inl e)
 .by_cases hm:s∈l.map (·.1)
  .obtain⟨_,q⟩:=k4 s hm;obtain⟨v1,c1,o1,e1⟩:=he.box s ver cs ow hb;rcases q with⟨Fs,Gc,MG,e2,e3⟩|q
   .exact⟨Fs,Gc,MG,e2,λ_=>by rw[hb] at e3;exact e3⟩
   .exact absurd e1 (q _ _ _)
  .exact⟨ver,cs,ow,by rw[k3 s hm];exact hb,λh=>absurd h hm⟩
theorem N7{σ σ0 σh:BD}{ws W:List Nat}{l:List (Nat×Sh)}(h0:σ0=σ.clear ws)(hv:u9 l ws σ=true)(hl:σh.length=σ0.length)(h1:∀s,s∉l.map (·.1)->σh.at s=σ0.at s)
  (h2:∀s ver cs ow,σ0.at s= .box ver cs ow->∃Fs Gc MG,σh.at s= .box Fs Gc MG/\(s∈l.map (·.1)->ver<Fs)) (hW:∀s∈ws,s∈W):Gw W σ σh:=by
 refine⟨by rw[hl,h0,BD.I9],λs hs=>?_⟩;have hws:s∉ws:=λhm=>hs (hW s hm);have e0:σ0.at s=σ.at s:=by rw[h0,BD.HI,if_neg hws]
 by_cases hm:s∈l.map (·.1)
 .obtain⟨p,hp,rfl⟩:=Bk.1 hm;have:=EI.1 hv p hp;simp only[Bool.or_eq_true,List.contains_iff_mem] at this;rcases this with this|this
  .exact absurd this hws
  .cases hx:σ.at p.1 with
   |box ver cs ow=>obtain⟨v1,c1,o1,e1,e2⟩:=h2 p.1 ver cs ow (by rw[e0];exact hx);have:=e2 hm;exact⟨v1,c1,o1,e1,by omega,λe=>by omega⟩
   |_=>rw[hx] at this;cases this
 .rw[h1 s hm,e0];exact .refl _
theorem ED.le{n m:Nat}(h:ED C (IT.run (B5 C) n))(uf:m<=n):ED C (IT.run (B5 C) m):=⟨h.1,λf args h0 r h' AV=>h.2 f args h0 r h' (IT.Ij uf AV)⟩
theorem wU(hm:C.P.follows .mixedOrders=true):∀(c:Code) (n:Nat),ED C (IT.run (B5 C) n)->∀{K:EK->BD->IT} {R:Jo} {σ:BD} {h:Ad} {a:Act} {w:World} {γ:Gh} {β:Nat->Nat} {Q:Exit->Act->World->Prop},
  IT.step (B5 C) (IT.run (B5 C) n) (Ft C fid c σ K) h=some R->CR C γ0 w0 γ β σ h a w->
  (∀x γ' β' σ' h' a' w',IT.step (B5 C) (IT.run (B5 C) n) (K x σ') h'=some R->Gw (CO c++B0 c) σ σ'->CR C γ0 w0 γ' β' σ' h' a' w'->Q (wR x) a' w')->c.wp C.P Q a w:=by
 intro c;induction c with
 |skip=>intro n hS K R σ h a w γ β Q AV hr hK;exact wp_skip (hK .normal γ β σ h a w AV (.refl _ _) hr)
 |region id ops draw=>
  intro n hS K R σ h a w γ β Q AV hr hK;simp only[Ft] at AV;split at AV;·exact UY hm hS AV hr λγ' β' σ' h' a' w' h1 h2 h3=>hK .normal γ' β' σ' h' a' w' h1 h2 h3
  .rename_i l hl;unfold X8 at AV;simp only at AV;split at AV
   .rename_i hv;simp only[IT.step] at AV;split at AV
    .rename_i x vs h1 UZ;refine UY hm hS UZ hr λγ' β' σ' h' a' w' k1 k2 k3=>?_;obtain⟨Hi,e,he⟩:=N6 (h:=h') k1 k2 (by rw[BD.I9]) (λs hs=>by rw[BD.HI,if_pos hs]) (λs _=>by rw[BD.HI];split<;>simp) (λs ver cs ow hb=>by
      rw[BD.HI] at hb;split at hb;·cases hb
      .exact⟨ver,cs,ow,hb⟩)
     cases e;obtain⟨σh,p1,p2,p3,p4,p5⟩:=he.next k3 AV;exact hK .normal γ' β' σh h1 a' w' p1 (N7 rfl hv p3 p4 p5 (λs hs=>hs)) p2
    .cases AV
   .cases AV
 |seq x y ihx ihy=>
  intro n hS K R σ h a w γ β Q AV hr hK;simp only[Ft] at AV;refine wp_seq (ihx n hS AV hr λe γ' β' σ' h' a' w' h1 h2 h3=>?_);have up:∀σ2,Gw (CO x++B0 x) σ σ2->Gw (CO (.seq x y)++B0 (.seq x y)) σ σ2:=λσ2 ho=>ho.mono λs hs=>by simp only[CO,B0,Ao] at hs⊢;rcases hs with hs|hs<;>simp[hs]
  cases e with
  |normal=>refine ihy n hS h1 h3 λe2 γ2 β2 σ2 Xq a2 w2 k1 k2 k3=>hK e2 γ2 β2 σ2 Xq a2 w2 k1 ((up _ h2).trans (k2.mono λs hs=>?_)) k3;simp only[CO,B0,Ao] at hs⊢;rcases hs with hs|hs<;>simp[hs]
  |exit i=>exact hK (.exit i) γ' β' σ' h' a' w' h1 (up _ h2) h3
  |ret=>exact hK .ret γ' β' σ' h' a' w' h1 (up _ h2) h3
 |cond c x y ihx ihy=>
  intro n hS K R σ h a w γ β Q AV hr hK;have upx:∀{σ1 σ2:BD},Gw (CO x++B0 x) σ1 σ2->Gw (CO (.cond c x y)++B0 (.cond c x y)) σ1 σ2:=λ{σ1 σ2} ho=>ho.mono λs hs=>by cases c<;>simp only[CO,B0,Ao,AL] at hs⊢<;>rcases hs with hs|hs<;>simp[hs]
  have upy:∀{σ1 σ2:BD},Gw (CO y++B0 y) σ1 σ2->Gw (CO (.cond c x y)++B0 (.cond c x y)) σ1 σ2:=λ{σ1 σ2} ho=>ho.mono λs hs=>by cases c<;>simp only[CO,B0,Ao,AL] at hs⊢<;>rcases hs with hs|hs<;>simp[hs]
  simp only[Ft] at AV;split at AV;·rename_i hc;obtain⟨s,h1,_⟩:=Fv hr hc;exact wp_cond_true h1 (ihx n hS AV hr λe γ' β' σ' h' a' w' k1 k2 k3=>hK e γ' β' σ' h' a' w' k1 (upx k2) k3)
  .rename_i hc;obtain⟨s,h1,_⟩:=Fv hr hc;exact wp_cond_false h1 (ihy n hS AV hr λe γ' β' σ' h' a' w' k1 k2 k3=>hK e γ' β' σ' h' a' w' k1 (upy k2) k3)
  .rename_i s v hc;have tl:σ.at s= .val v:=Gi hc;have h0:=hr.fr.Hs s;rw[tl] at h0;have arms:∀{K':EK->BD->IT} {R':Jo} {Q':Exit->Act->World->Prop},IT.step (B5 C) (IT.run (B5 C) n) (.AH v (Ft C fid x (σ.set s (.NC true)) K') (Ft C fid y (σ.set s (.NC false)) K')) h=some R'->
     (∀e γ' β' σ' h' a' w',IT.step (B5 C) (IT.run (B5 C) n) (K' e σ') h'=some R'->Gw (CO (.cond (.tmp s) x y)++B0 (.cond (.tmp s) x y)) σ σ'->CR C γ0 w0 γ' β' σ' h' a' w'->Q' (wR e) a' w')->(Code.cond (.tmp s) x y).wp C.P Q' a w:=by
    intro K' R' Q' Pq hK';have rB:∀b:Bool,Gw (CO (.cond (.tmp s) x y)++B0 (.cond (.tmp s) x y)) σ (σ.set s (.NC b)):=λb=> .set (by simp[B0]);simp only[IT.step] at Pq;split at Pq;·have hv:a.eval (.tmp s)= .bool true:=h0;exact wp_cond_true hv (ihx n hS Pq (hr.ZY h0) λe γ' β' σ' h' a' w' k1 k2 k3=>hK' e γ' β' σ' h' a' w' k1 ((rB true).trans (upx k2)) k3)
    .have hv:a.eval (.tmp s)= .bool false:=h0;exact wp_cond_false hv (ihy n hS Pq (hr.ZY h0) λe γ' β' σ' h' a' w' k1 k2 k3=>hK' e γ' β' σ' h' a' w' k1 ((rB false).trans (upy k2)) k3)
    .cases Pq
   split at AV;·exact arms AV hK
   .rename_i l hl;unfold X8 at AV;simp only at AV;split at AV
    .rename_i hv;simp only[IT.step] at AV;split at AV
     .rename_i e vs h1 UZ;refine arms UZ λe2 γ' β' σ' h' a' w' k1 k2 k3=>?_;obtain⟨Hi,eq,he⟩:=N6 (h:=h') (ws:=s::(CO x++CO y++B0 x++B0 y)) k1 (k2.mono λt ht=>by
        simp only[CO,B0,Ao,AL] at ht⊢;rcases ht with(ht|ht)|ht|ht|ht<;>simp[ht]) (by rw[BD.I9]) (λt ht=>by rw[BD.HI,if_pos ht]) (λt _=>by rw[BD.HI];split<;>simp) (λt ver cs ow hb=>by
       rw[BD.HI] at hb;split at hb;·cases hb
       .exact⟨ver,cs,ow,hb⟩)
      cases eq;obtain⟨σh,p1,p2,p3,p4,p5⟩:=he.next k3 AV;exact hK e γ' β' σh h1 a' w' p1 (N7 rfl hv p3 p4 p5 (λt ht=>by simp only[CO,B0,Ao,AL] at ht⊢;rcases ht with ht|((ht|ht)|ht)|ht<;>simp[ht])) p2
     .cases AV
    .cases AV
  .cases AV
 |block id b ih=>
  intro n hS K R σ h a w γ β Q AV hr hK;simp only[Ft] at AV;refine wp_block (ih n hS AV hr λe γ' β' σ' h' a' w' h1 h2 h3=>?_);cases e with
  |normal=>exact hK .normal γ' β' σ' h' a' w' h1 h2 h3
  |exit i=>
   simp only at h1;show if i=id then Q .normal a' w' else Q (.exit i) a' w'
   by_cases hi:i=id;·rw[if_pos hi] at h1⊢;exact hK .normal γ' β' σ' h' a' w' h1 h2 h3
   .rw[if_neg hi] at h1⊢;exact hK (.exit i) γ' β' σ' h' a' w' h1 h2 h3
  |ret=>exact hK .ret γ' β' σ' h' a' w' h1 h2 h3
 |loop b ih=>
  intro n hS K R σ h a w γ β Q AV hr hK;simp only[Ft] at AV;generalize hl:C.xn fid ((FW b).getD 0)=l at AV;generalize aPe:(FW b).getD 0=key at AV;generalize h0:σ.clear (CO b++B0 b)=σ0 at AV;split at AV
  .rename_i hv;split at AV;·cases AV
   .rename_i init aDQ;have aDR:σ0.length=σ.length:=by rw[<-h0,BD.I9]
    have hin:∀s,s∈CO b++B0 b->σ0.at s= .undef:=λs hs=>by rw[<-h0,BD.HI,if_pos hs]
    refine Yn (λm a w=>∃γ β σ1 h vs,CR C γ0 w0 γ β σ1 h a w/\wT σ0 (CO b++B0 b) l σ1 vs/\m<=n+1/\
     IT.run (B5 C) m (.loop key vs (λvs=>IE vs l 0 σ0 λσh=>Ft C fid b σh λx σ'=>RI σ0 l x σ') λx vs=>IE vs l 0 σ0 λσ'=>tg K x σ') h=some R) ?_ (n+1) a w
     ⟨γ,β,σ,h,init,hr,⟨aDQ,aDR.symm,λs _=>by rw[<-h0,BD.HI];split<;>simp,λs ver cs ow hb=>by
      rw[<-h0,BD.HI] at hb;split at hb;·cases hb
      .exact⟨ver,cs,ow,hb⟩⟩,Ac _,AV⟩
    rintro m a1 w1 ⟨γ1,β1,σ1,h1,vs,Jr,he1,uf,If⟩;cases m with
    |zero=>simp[IT.run] at If
    |succ m=>
     simp only[IT.run,IT.step] at If;have body:∀{x:EK} {Hi:List Aa} {h':Ad},IT.step (B5 C) (IT.run (B5 C) m) (IE vs l 0 σ0 λσh=>Ft C fid b σh λx σ'=>RI σ0 l x σ') h1=some (x,Hi,h')->∀{Q':Exit->Act->World->Prop},
       (∀γ' β' σ' a' w',CR C γ0 w0 γ' β' σ' h' a' w'->wT σ0 (CO b++B0 b) l σ' Hi->Q' (wR x) a' w')->b.wp C.P Q' a1 w1:=by
      intro x Hi h' hb Q' hQ';obtain⟨σh,p1,p2,p3,p4,p5⟩:=he1.next Jr hb;refine ih m (hS.le (by omega)) p1 p2 λy γ' β' σ' h2 a' w' k1 k2 k3=>?_;obtain⟨vs2,eq,he⟩:=N6 k1 k2 p3 hin (λs hs=> .inr (p4 s hs).symm) λs ver cs ow hb=>by obtain⟨v1,c1,o1,e1,_⟩:=p5 s ver cs ow hb;exact⟨v1,c1,o1,e1⟩
      cases eq;exact hQ' γ' β' σ' a' w' k3 he
     split at If;·rename_i Hi h' hb;exact body hb λγ' β' σ' a' w' Fu Pb=>⟨m,tZ m,γ',β',σ',h',Hi,Fu,Pb,by omega,If⟩
     .rename_i x Hi h' hne hb;refine body hb λγ' β' σ' a' w' Fu Pb=>?_;have SQ:=IT.Jz (λt h r=>IT.Ij (fn:=B5 C) (show m<=n by omega)) _ _ _ If;obtain⟨σh,p1,p2,p3,p4,p5⟩:=Pb.next Fu SQ;have ho:=N7 h0.symm hv p3 p4 p5 λs hs=>hs;cases x with
      |normal=>exact absurd rfl hne
      |exit i=>exact hK _ γ' β' σh h' a' w' p1 ho p2
      |ret=>exact hK _ γ' β' σh h' a' w' p1 ho p2
     .cases If
  .cases AV
 |exit id=>intro n hS K R σ h a w γ β Q AV hr hK;exact wp_exit (hK (.exit id) γ β σ h a w AV (.refl _ _) hr)
 |ret=>intro n hS K R σ h a w γ β Q AV hr hK;exact wp_ret (hK .ret γ β σ h a w AV (.refl _ _) hr)
 |label l=>intro n hS K R σ h a w γ β Q AV hr hK;exact wp_label (hK .normal γ β σ h a w AV (.refl _ _) hr)
 |scope b ih=>
  intro n hS K R σ h a w γ β Q AV hr hK;simp only[Ft] at AV;refine wp_scope_straight (ih n hS AV hr λe γ' β' σ' h' a' w' h1 h2 h3=>?_);cases e with
  |normal=>exact hK .normal γ' β' σ' h' a' w' h1 h2 h3
  |exit i=>exact hK (.exit i) γ' β' σ' h' a' w' h1 h2 h3
  |ret=>exact hK .ret γ' β' σ' h' a' w' h1 h2 h3
 |_=>intros n hS K R σ h a w γ β Q AV hr hK;cases AV
end
end Go.Am
end
section
namespace Go.Am
open Go
section
variable{C:FG}{γ0 γ:Gh}{w0 w:World}{β:Nat->Nat}{σ:BD}{h:Ad}{a:Act}{fid:FuncId}{run:IT->Ad->Option Jo}
def HJ(tmps:Array Value):ResultVar->Sem Value
 | .tmp t=>pure (tmps.getD t undef)
 | .cell a t=>do loadVar t (<-asAddr (tmps.getD a undef))
theorem QN{P:Program}{t:TypeId}{b o:Nat}{v:Value}(h:(Instr.loadAt t (.pointer (some ⟨b,o,none⟩))).run P w= .ok v w):(loadVar t ⟨b,o,none⟩).run P w= .ok v w:=by simpa[Instr.loadAt,Instr.sureAddr] using h
theorem SU{K:List Aa->IT}{R:Jo}:∀{rs:List ResultVar} {Dw:List Aa},IT.step (B5 C) run (FO C σ rs Dw K) h=some R->CR C γ0 w0 γ β σ h a w->
  ∃vs us,(rs.mapM (HJ a.tmps)).run C.P w= .ok us w/\A9 γ vs us/\IT.step (B5 C) run (K (Dw.reverse++vs)) h=some R
 |[],Dw,AV,hr=>⟨[],[],by simp,rfl,by simpa[FO] using AV⟩
 |rv::rs,Dw,AV,hr=>by
  have one:∀(v:Aa) (u:Value),(HJ a.tmps rv).run C.P w= .ok u w->BE γ v u->IT.step (B5 C) run (FO C σ rs (v::Dw) K) h=some R->
    ∃vs us,((rv::rs).mapM (HJ a.tmps)).run C.P w= .ok us w/\A9 γ vs us/\IT.step (B5 C) run (K (Dw.reverse++vs)) h=some R:=by
   intro v u h1 h2 h3;obtain⟨vs,us,k1,k2,k3⟩:=SU h3 hr;refine⟨v::vs,u::us,?_,⟨u,us,rfl,h2,k2⟩,by simpa using k3⟩;simp[List.mapM_cons,h1,k1]
  cases rv with
  |tmp t=>
   simp only[FO] at AV;split at AV;·rename_i v hv;exact one v _ (by simp[HJ]) (Mg (hr.fr.Hs t) hv) AV
   .cases AV
  |cell p t=>
   have zd:∀(b o:Nat) (v:Aa),a.tmps.getD p undef= .pointer (some ⟨b,o,none⟩)->(∃u,(Instr.loadAt t (.pointer (some ⟨b,o,none⟩))).run C.P w= .ok u w/\BE γ v u)->IT.step (B5 C) run (FO C σ rs (v::Dw) K) h=some R->
     ∃vs us,((ResultVar.cell p t::rs).mapM (HJ a.tmps)).run C.P w= .ok us w/\A9 γ vs us/\IT.step (B5 C) run (K (Dw.reverse++vs)) h=some R:=by
    intro b o v hp ⟨u,h1,h2⟩ h3;refine one v u ?_ h2 h3;simp only[HJ,hp,asAddr,Sem.run_bind,Sem.run_pure,Result.andThen_ok];exact QN h1
   simp only[FO] at AV;split at AV
   .rename_i s off ver cs ow ht ha;split at AV;·rename_i hlt;obtain⟨hs,hx⟩:=J5 hr ha;obtain⟨u,q1,q2,_⟩:=JR hr ht hs (r:=cs.getD off .nilIface) (off:=off) (by simp[EN,List.getD,Ae hlt]);exact zd _ _ _ hx ⟨u,q1,q2⟩ AV
    .cases AV
   .rename_i n s off ver cs ow ht ha;split at AV;·rename_i DV;obtain⟨hs,hx⟩:=J5 hr ha;obtain⟨u,q1,q2,_⟩:=JR hr ht hs (r:= .agg ((cs.drop off).take n)) (off:=off) (by simp[EN,DV]);exact zd _ _ _ hx ⟨u,q1,q2⟩ AV
    .cases AV
   .rename_i n p' ht ha;simp only[IT.step] at AV;split at AV
    .rename_i v hv;have lD:=PU hr ha;unfold A6 at hv;split at hv;·rename_i cs;obtain⟨b,k,fM,hm⟩:=lD;obtain⟨us,p1,p2⟩:=hm.values;exact zd b k v fM (HF (w:=w) ht p1 (λj u hj=>(hr.DD.Hy _ _ _ (p2 j u hj)).1) (λu hu=>by obtain⟨j,hj⟩:=CS hu;exact(hr.DD.Hy _ _ _ (p2 j u hj)).2.1) hv) AV
     .rename_i id off;obtain⟨b,hb,fM⟩:=lD;split at hv
      .rename_i cs hcs;obtain⟨us,e,fr,p1,pf,p2,p3⟩:=hr.DD.cells id cs hcs b hb;refine zd b off v fM (HF (w:=w) (b:=b) (o:=off) ht (p2.drop off) (λj u hj=>?_) (λu hu=>p3 u (Bv hu)) (N1 hv)) AV;rw[cell_of_row w _ _ us e fr p1];rw[Cz,Cf] at hj;split at hj;·simpa using hj
       .cases hj
      .cases hv
     .cases hv
    .cases AV
   .cases AV
theorem CR.Hr(hr:CR C γ0 w0 γ β σ h a w){p:Aa}{off:Nat}{u:Value}{h':Ad}(hp:BE γ p u)(hf:KS h off p=some h'):∃γ',CR C γ0 w0 γ' β σ h' a w:=by
 unfold KS at hf;split at hf;·cases hf;exact⟨γ,hr⟩
 .rename_i id o0;generalize o0+off=o at hf;obtain⟨b,hb,_⟩:=hp;split at hf
  .rename_i cs hcs;split at hf
   .rename_i v hv;obtain⟨us,e,fr,p1,pf,p2,p3⟩:=hr.DD.cells id cs hcs b hb;obtain⟨x,hx,yk⟩:=p2.get hv;cases hq:Kl h v with
    |none=>rw[hq] at hf;cases hf
    |some q=>
     obtain⟨h1,v'⟩:=q;rw[hq] at hf;simp only[Ct] at hf;split at hf
     .rename_i Gc aDS;cases hf;obtain⟨γ1,DV,Jr,fo⟩:=hr.KR yk hq;have Tu:=DV.mu _ _ hb;obtain⟨us1,e1,fr1,r1,rf,r2,r3⟩:=Jr.DD.cells id Gc aDS b Tu;rw[p1] at r1;cases r1;have rB:A9 γ1 (Gc.set o v') (us.toList.take (Gc.set o v').length):=by
       rw[Bj];refine A9.Gg (by simp[r2.length]) λi y z hy hz=>?_;by_cases hi:o=i
       .subst hi;by_cases hlt:o<Gc.length
        .rw[AN hlt] at hy;cases hy;have hxz:x=z:=by rw[C6 hlt] at hz;have aJK:o<cs.length:=(Ah.1 hv).1;rw[C6 aJK] at hx;rw[hx] at hz;exact C8 hz
         rw[<-hxz];exact fo
        .rw[EZ (by simpa using hlt)] at hy;cases hy
       .rw[Aj hi] at hy;obtain⟨z',ZF,hyz⟩:=r2.get hy;rw[hz] at ZF;cases ZF;exact hyz
      obtain⟨TX,NH⟩:=Md Jr.DD aDS Tu p1 us (Gc.set o v') rfl rf rB (by rw[Bj];exact r3);rw[setRow_self w b us e fr p1] at TX NH;exact⟨γ1,Jr.world TX NH⟩
     .cases hf
   .cases hf
  .cases hf
 .cases hf
theorem lL{t:IT}{R:Jo}:∀{l:List (Nat×Nat)} {γ:Gh} {h:Ad},IT.step (B5 C) run (kY C σ l t) h=some R->CR C γ0 w0 γ β σ h a w->∃γ' h',CR C γ0 w0 γ' β σ h' a w/\IT.step (B5 C) run t h'=some R
 |[],γ,h,AV,hr=>⟨γ,h,hr,AV⟩
 |(s,off)::l,γ,h,AV,hr=>by
  simp only[kY] at AV;split at AV
  .rename_i p hp;simp only[IT.step] at AV;split at AV;·rename_i h1 hf;obtain⟨γ1,Jr⟩:=hr.Hr (Mg (hr.fr.Hs s) hp) hf;exact lL AV Jr
   .cases AV
  .cases AV
theorem U0{R:Jo}:∀{vs Dw:List Aa} {γ:Gh} {h:Ad} {us uD:List Value},IT.step (B5 C) run (NV vs Dw SE) h=some R->CR C γ0 w0 γ β σ h a w->A9 γ vs us->A9 γ Dw.reverse uD->
  ∃γ' h' Hi,CR C γ0 w0 γ' β σ h' a w/\A9 γ' Hi (uD++us)/\IT.step (B5 C) run (SE Hi) h'=some R
 |[],Dw,γ,h,us,uD,AV,hr,h1,h2=>by rw[show us=[] from h1,BC];exact⟨γ,h,Dw.reverse,hr,h2,AV⟩
 |v::vs,Dw,γ,h,us,uD,AV,hr,h1,h2=>by
  obtain⟨u,Dj,rfl,hv,h1⟩:=h1;simp only[NV,IT.step] at AV;split at AV
  .rename_i h3 v' hf;obtain⟨γ1,DV,Jr,fo⟩:=hr.KR hv hf;have h4:A9 γ1 (v'::Dw).reverse (uD++[u]):=by rw[FN];exact(A9.mono DV _ _ h2).append ⟨u,[],rfl,fo,rfl⟩
   obtain⟨γ2,h5,vs2,q1,q2,q3⟩:=U0 AV Jr (A9.mono DV _ _ h1) h4;exact⟨γ2,h5,vs2,q1,by rwa [AD] at q2,q3⟩
  .cases AV
theorem lM{R:Jo}{vs:List Aa}{us:List Value}{γ:Gh}{h:Ad}(AV:IT.step (B5 C) run (SE vs) h=some R)(hv:A9 γ vs us):
  ∃r,R=(.ret,[r],h)/\BE γ r (if hh:us.toArray.size=1 then us.toArray[0] else .tuple us.toArray):=by
 unfold SE at AV;split at AV;·rename_i v;obtain⟨u,Dj,rfl,hvu,hnil⟩:=hv;rw[show Dj=[] from hnil];simp only[IT.step] at AV;cases AV;exact⟨v,rfl,by simpa using hvu⟩
 .rename_i hne;simp only[IT.step] at AV;cases AV;have hlen:us.length≠1:=λe=>by have:=hv.length;rw[e] at this;obtain⟨v,hv⟩:=List.length_eq_one_iff.1 this.symm;exact hne v hv
  refine⟨_,rfl,?_⟩;rw[dif_neg (by simpa using hlen)];exact⟨us.toArray,rfl,by simpa using hv⟩
theorem SV{fn:Func}{tmps:Array Value}{us:List Value}(h:(fn.results.toList.mapM (HJ tmps)).run C.P w= .ok us w):(results fn tmps).run C.P w= .ok (if hh:us.toArray.size=1 then us.toArray[0] else .tuple us.toArray) w:=by
 have e:fn.results.mapM (HJ tmps)=(do let l<-fn.results.toList.mapM (HJ tmps);pure l.toArray:Sem (Array Value)):=by rw[Array.mapM_eq_mapM_toList];simp
 have e2:results fn tmps=(do let vs<-fn.results.mapM (HJ tmps);pure (if hh:vs.size=1 then vs[0] else .tuple vs):Sem Value):=by unfold results;congr 2
 rw[e2,e];simp only[Sem.run_bind,h,Result.andThen_ok,Sem.run_pure]
theorem gl{fn:Func}{R:Jo}(AV:IT.step (B5 C) run (ZX C fid fn σ) h=some R)(hr:CR C γ0 w0 γ β σ h a w):
  ∃r h' v γ',R=(.ret,[r],h')/\(results fn a.tmps).run C.P w= .ok v w/\Gp γ' h' w/\J3 γ0 w0 γ' w/\BE γ' r v/\(C.Ii fid=true->∃s c,HV γ' w0.heap.size w s c v r):=by
 unfold ZX at AV;split at AV;·cases AV
 .rename_i E0;obtain⟨γ1,h1,Jr,If⟩:=lL AV hr;by_cases ho:C.Ii fid=true
  .have ze:∃t x,fn.results.toList=[.tmp t]/\σ.at t= .own x:=by
    have:OG σ fn.results.toList=true:=by
     cases hq:OG σ fn.results.toList with
     |true=>rfl
     |false=>exact absurd (by simp[ho,hq]) E0
    unfold OG at this;split at this
    .rename_i t Jk;split at this;·rename_i x hx;exact⟨t,x,Jk,hx⟩
     .cases this
    .cases this
   obtain⟨t,x,hrs,hx⟩:=ze;have h0:=Jr.fr.Hs t;rw[hx] at h0;have gm:=SV (C:=C) (w:=w) (fn:=fn) (tmps:=a.tmps) (us:=[a.tmps.getD t undef]) (by rw[hrs];simp[HJ]);rw[hrs] at If;simp only[FO,hx,D5.Gr,FN,List.reverse_nil,BG] at If;have aDT:Kl h1 x=some (h1,x):=by rcases h0.2 with rfl|⟨_,_,_,_,_,_,_,rfl,_⟩<;>rfl
   have hR:R=(.ret,[x],h1):=by
    split at If;·simp only[NV,IT.step,aDT,FN,List.reverse_nil,BG,SE] at If;cases If;rfl
    .simp only[IT.step,SE] at If;cases If;rfl
   exact⟨x,h1,_,γ1,hR,by simpa using gm,Jr.DD,Jr.Dw,h0.1,λ_=>⟨t,none,h0.2⟩⟩
  .obtain⟨vs,us,k1,k2,SQ⟩:=SU If Jr;simp only[List.reverse_nil,BG] at SQ;have gm:=SV (C:=C) k1;split at SQ;·obtain⟨γ2,h2,vs2,q1,q2,q3⟩:=U0 SQ Jr k2 (uD:=[]) rfl;rw[BG] at q2;obtain⟨r,hR,hrv⟩:=lM q3 q2;exact⟨r,h2,_,γ2,hR,gm,q1.DD,q1.Dw,hrv,λe=>absurd e ho⟩
   .obtain⟨r,hR,hrv⟩:=lM SQ k2;exact⟨r,h1,_,γ1,hR,gm,Jr.DD,Jr.Dw,hrv,λe=>absurd e ho⟩
theorem CR.start{γ:Gh}{h:Ad}{w:World}(hi:Gp γ h w)(hg:∀g cs,C.Gf g=some cs->CI γ cs g 0){args:List Aa}{cargs:Array Value}(ha:A9 γ args cargs.toList)(n:Nat)(β:Nat->Nat):
  CR C γ w γ β (args.map .val++List.replicate (n-args.length) .undef) h {tmps:=cargs++Array.replicate (n-cargs.size) undef,defers:=[]} w:=by
 have hlen:cargs.size=args.length:=by have:=ha.length;simpa using this
 refine⟨hi,⟨by simp[hlen],λs=>?_⟩,J3.refl γ w,rfl,hg⟩;by_cases hs:s<args.length
 .have h1:BD.at (args.map .val++List.replicate (n-args.length) .undef) s= .val args[s]:=by simp[BD.at,List.getD,Af,hs]
  obtain⟨u,hu,hr⟩:=ha.get (Ae hs);have h2:(cargs++Array.replicate (n-cargs.size) undef).getD s undef=u:=by
   rw[Lq,Array.getElem?_append_left (by omega)];have:cargs[s]?=some u:=by simpa using hu
   rw[this];rfl
  rw[h1,h2];exact hr
 .have h1:BD.at (args.map .val++List.replicate (n-args.length) .undef) s= .undef:=by
   have hm:(args.map D5.val).length=args.length:=by simp
   simp only[BD.at,List.getD];rw[Bg (by omega),List.getElem?_replicate];split<;>rfl
  rw[h1];trivial
def Yp(C:FG):Prop:=
 (∀f,C.L7 f=true->vV C f)/\∀(f:FuncId) (p:List Aa->IT),C.xo f=some p->∀n,ED C (IT.run (B5 C) n)->∀(args:List Aa) (h:Ad) (r:Aa) (h':Ad),IT.step (B5 C) (IT.run (B5 C) n) (p args) h=some (.ret,[r],h')->
  (∃fn c,C.P.funcs[D6 f]?=some fn/\(fn.name== "runtime.NumGoroutine")=false/\fn.body=some c)/\
  ∀(γ:Gh) (w:World) (cargs:Array Value),Gp γ h w->(∀g cs,C.Gf g=some cs->CI γ cs g 0)->A9 γ args cargs.toList->
   Calls C.P (D6 f) cargs w λe w'=>match e with
    | .returned v=>∃γ',Gp γ' h' w'/\J3 γ w γ' w'/\BE γ' r v/\(C.Ii f=true->∃s c,HV γ' w.heap.size w' s c v r)
    |_=>False
theorem aU(hm:C.P.follows .mixedOrders=true)(wV:∀g cs,C.Gf g=some cs->cs.all Aa.Ls=true)(ug:Yp C):∀n,ED C (IT.run (B5 C) n)
 |0=>⟨⟨wV,ug.1⟩,λf args h r h' AV=>by simp[IT.run] at AV⟩
 |n+1=>⟨⟨wV,ug.1⟩,λf args h r h' AV=>by
  have ih:=aU hm wV ug n;simp only[IT.run] at AV;unfold B5 at AV;split at AV;·rename_i p hp;exact ug.2 f p hp n ih args h r h' AV
  unfold aDm at AV;split at AV
  .rename_i fn hf;split at AV;·cases AV
   .rename_i hname;unfold vA at AV;split at AV;·cases AV
    .rename_i c hb;refine⟨⟨fn,c,hf,by simpa using hname,hb⟩,λγ w cargs hi hg ha=>calls_of_wp hf hb ?_⟩;refine wU (C:=C) (fid:=f) hm c n ih AV (CR.start hi hg ha fn.ntmps (λ_=>0)) λx γ' β' σ' h1 a' w' k1 _ k3=>?_;have Hv:IT.step (B5 C) (IT.run (B5 C) n) (ZX C f fn σ') h1=some (.ret,[r],h')->a'.defers=[]/\∃v,(results fn a'.tmps).run C.P w'= .ok v w'/\∃γ'',Gp γ'' h' w'/\J3 γ w γ'' w'/\BE γ'' r v/\(C.Ii f=true->∃s c,HV γ'' w.heap.size w' s c v r):=λaJM=>by obtain⟨r',h2,v,γ'',e,p1,p2,p3,p4,p5⟩:=gl aJM k3;cases e;exact⟨k3.defers,v,p1,γ'',p2,p3,p4,p5⟩
     cases x with
     |normal=>exact Hv k1
     |ret=>exact Hv k1
     |exit i=>cases k1
  .cases AV⟩
end
theorem Ev.calls{C:FG}(hm:C.P.follows .mixedOrders=true)(wV:∀g cs,C.Gf g=some cs->cs.all Aa.Ls=true)(ug:Yp C){f:FuncId}{args:List Aa}{h:Ad}{Q:Aa->Ad->Prop}(Ik:Ev C f args h Q){γ:Gh}{w:World}{cargs:Array Value}(hi:Gp γ h w)(hg:∀g cs,C.Gf g=some cs->CI γ cs g 0)(ha:A9 γ args cargs.toList):
  Calls C.P (D6 f) cargs w λe w'=>match e with
   | .returned v=>∃r h' γ',Q r h'/\Gp γ' h' w'/\J3 γ w γ' w'/\BE γ' r v
   |_=>False:=by
 obtain⟨n,x,vs,h',AV,rfl,r,rfl,hQ⟩:=Ik;refine(((aU hm wV ug n).2 f args h r h' AV).2 γ w cargs hi hg ha).mono λe w' he=>?_;cases e with
 |returned v=>obtain⟨γ',p1,p2,p3,_⟩:=he;exact⟨r,h',γ',hQ,p1,p2,p3⟩
 |_=>exact he
end Go.Am
end
section
namespace Go.Am
open Go
inductive Ty where
 |bool
 |int (k:IntKind)
 |str
 |sl (e:Ty)
 |st (fs:List Ty)
 deriving Inhabited
mutual
def Ty.size:Ty->Nat
 | .bool| .int _| .str| .sl _=>1
 | .st fs=>Ty.LC fs
def Ty.LC:List Ty->Nat
 |[]=>0
 |t::ts=>Ty.size t+Ty.LC ts
end
mutual
def LW(P:Program):Ty->TypeId->Bool
 | .bool,t=>match P.underlying t with|some .bool=>true|_=>false
 | .int k,t=>match P.underlying t with|some (.int k')=>decide (k'=k)|_=>false
 | .str,t=>match P.underlying t with|some .string=>true|_=>false
 | .sl e,t=>match P.underlying t with
  |some (.slice e')=>P.cellsOf e'==Ty.size e&&decide (0<Ty.size e)&&LW P e e'
  |_=>false
 | .st fs,t=>match P.underlying t with
  |some (.struct fields)=>P.cellsOf t==Ty.LC fs&&N8 P fs fields.toList 0
  |_=>false
def N8(P:Program):List Ty->List Field->Nat->Bool
 |[],[],_=>true
 |ty::tys,f::fs,off=>f.offset==off&&P.cellsOf f.type==Ty.size ty&&LW P ty f.type&&N8 P tys fs (off+Ty.size ty)
 |_,_,_=>false
end
mutual
def Yq:Ty->List Aa->Prop
 | .bool,l=>∃b,l=[.bool b]
 | .int k,l=>∃n,l=[.int k n]/\(Lit.int k n).wf=true
 | .str,l=>∃s:Ap,l=[.str s]/\s.length<=maxLen
 | .sl e,l=>l=[.slnil]\/∃Au:List (List Aa),l=[.sl (Ty.size e) Au]/\Au.length<=maxLen/\∀r∈Au,Yq e r
 | .st fs,l=>rG fs l
def rG:List Ty->List Aa->Prop
 |[],l=>l=[]
 |ty::tys,l=>∃a b,l=a++b/\Yq ty a/\rG tys b
end
def Ty.zf:Ty->Bool
 | .st _=>true
 |_=>false
def rH(ty:Ty)(a:Aa):Prop:=if ty.zf then∃cs,a= .agg cs/\Yq ty cs else Yq ty [a]
def ON:List Ty->List Aa->Prop
 |[],l=>l=[]
 |ty::tys,l=>∃a b,l=a::b/\rH ty a/\ON tys b
def Fw(W:World):Gh:={Hy:=λb o=>(W.cell? ⟨b,o,none⟩).filter (·.oneCell'),mu:=λ_=>none,own:=λ_=>none,sz:=λ_=>none}
theorem wW(W:World):Gp (Fw W) [] W:=by refine⟨λb o v h=>?_,λid x h=>by simp at h,λid cs h=>by simp at h,λid es h=>by simp at h,λid b h=>(by cases h),λb x h=>(by cases h),λb n h=>(by cases h)⟩;simp only[Fw,Option.filter_eq_some_iff] at h;exact⟨h.1,h.2,.inl rfl⟩
theorem RQ{W:World}{b o:Nat}{v:Value}(h:W.cell? ⟨b,o,none⟩=some v)(h1:v.oneCell'=true):(Fw W).Hy b o=some v:=by simp[Fw,h,h1,Option.filter]
theorem SW{α:Type}{p:Nat->α->Prop}:∀(n:Nat),(∀i,i<n->∃x,p i x)->∃l:List α,l.length=n/\∀i x,l[i]?=some x->p i x
 |0,_=>⟨[],rfl,by simp⟩
 |n+1,h=>by
  obtain⟨l,hl,hp⟩:=SW n λi hi=>h i (by omega);obtain⟨x,hx⟩:=h n (by omega);refine⟨l++[x],by simp[hl],λi y hy=>?_⟩;rw[List.getElem?_append] at hy;split at hy;·exact hp i y hy
  .have:i-l.length=0:=by
    rcases OC (i-l.length) with h0|h0
    .exact h0
    .rw[EZ (by simp;omega)] at hy;cases hy
   rw[this] at hy;simp at hy;subst hy;have:i=n:=by omega
   rw[this];exact hx
section
variable{H:Type}{enc:TypeId×Value->H}{P:Program}{W:World}
theorem Pr{a:Addr}{n:Nat}{cs:List Value}(h:W.cells? 0 a n=some cs)(hn:0<n):a.spot=none:=by
 obtain⟨_,hl,hc⟩:=World.cells?_some h;have h0:=hc 0 hn;have hlt:0<cs.length:=by omega
 rw[Ae hlt] at h0;unfold World.cell? at h0;have ha:a.add 0=a:=by simp[Addr.add]
 rw[ha] at h0;split at h0
 .split at h0;·cases h0
  .rename_i hs;simpa using hs
 .cases h0
mutual
theorem Yr:∀(ty:Ty) {t:TypeId} {fuel:Nat} {cs:List Value} {x:DataW H×List MemPlace},LW P ty t=true->DataW.trod enc P W 0 (λ_=>true) true fuel t cs=some x->
  ∃as,Yq ty as/\A9 (Fw W) as cs/\(∀u∈cs,u.oneCell'=true)/\as.length=Ty.size ty
 | .bool,t,fuel,cs,x,hok,h=>by
  unfold LW at hok;split at hok;·rename_i ht;obtain⟨b,rfl,_⟩:=DataW.trod_bool ht h;exact⟨[.bool b],⟨b,rfl⟩,⟨_,[],rfl,rfl,rfl⟩,by simp[Value.oneCell'],rfl⟩
  .cases hok
 | .int k,t,fuel,cs,x,hok,h=>by
  unfold LW at hok;split at hok
  .rename_i k' ht;have hk:k'=k:=by simpa using hok
   subst hk;obtain⟨n,rfl,_,hw⟩:=DataW.trod_int ht h;exact⟨[.int k' n],⟨n,rfl,hw⟩,⟨_,[],rfl,rfl,rfl⟩,by simp[Value.oneCell'],rfl⟩
  .cases hok
 | .str,t,fuel,cs,x,hok,h=>by
  unfold LW at hok;split at hok
  .rename_i ht;obtain⟨s,rfl,_,hs⟩:=DataW.trod_string ht h;refine⟨[.str s.data.toList],⟨_,rfl,by
    have e:s.data.toList.length=s.size:=by rw[Cg];rfl
    rw[e];exact hs⟩,⟨_,[],rfl,?_,rfl⟩,by simp[Value.oneCell'],rfl⟩
   show Value.string s= .string ⟨⟨s.data.toList⟩⟩;congr 1
  .cases hok
 | .sl e,t,fuel,cs,x,hok,h=>by
  unfold LW at hok;split at hok
  .rename_i e' ht;simp only[BL,beq_iff_eq,DJ] at hok;obtain⟨⟨hce,hpos⟩,aJN⟩:=hok;rcases DataW.trod_slice ht h with⟨rfl,_⟩|⟨a,len,cap,elems,rest,n,_,rfl,_,_,hl,hm,hlen,hel,hsp,_⟩
   .exact⟨[.slnil],.inl rfl,⟨_,[],rfl,rfl,rfl⟩,by simp[Value.oneCell'],rfl⟩
   .have spot:0<cap->a.spot=none:=λhc=>by
     have ha:a.add 0=a:=by simp[Addr.add]
     rcases OC len with h0|h0
     .obtain⟨Jr,KX⟩:=hsp rfl;have:=KX 0 (by omega);rw[Ae (show 0<rest.length by omega)] at this;have zg:(len+0)*P.cellsOf e'=0:=by rw[h0];simp
      rw[zg,ha] at this;obtain⟨vs,hv,_⟩:=Option.bind_eq_some_iff.1 this;exact Pr hv (by omega)
     .have:=hel 0 h0;rw[Ae (show 0<elems.length by omega)] at this;rw[dj,ha] at this;obtain⟨vs,hv,_⟩:=Option.bind_eq_some_iff.1 this;exact Pr hv (by omega)
    obtain⟨Au,eI,aL⟩:=SW (p:=λi (r:List Aa)=>Yq e r/\r.length=Ty.size e/\CI (Fw W) r a.block (a.off+i*Ty.size e)) len λi hi=>by
     have:=hel i hi;rw[Ae (show i<elems.length by omega)] at this;obtain⟨vs,hv,hd⟩:=Option.bind_eq_some_iff.1 this;obtain⟨r,p1,p2,p3,p4⟩:=Yr e aJN hd;refine⟨r,p1,p4,CI.Gg λj y hj=>?_⟩;obtain⟨u,hu,hyu⟩:=p2.get hj;obtain⟨_,hvl,hvc⟩:=World.cells?_some hv;have fP:j<P.cellsOf e':=by have:=(Ah.1 hu).1;omega
     have hc:=hvc j fP;rw[hu] at hc;have fC:a=⟨a.block,a.off,none⟩:=by have:=spot (by omega);cases a;simp_all
     have Mh:(a.add (i*P.cellsOf e')).add j=⟨a.block,a.off+i*Ty.size e+j,none⟩:=by rw[hce];generalize a.block=b at*;generalize a.off=o at*;subst fC;rw[Addr.add_lit,Addr.add_lit]
     rw[Mh] at hc;exact⟨u,RQ hc (p3 u (CD hu)),hyu⟩
    refine⟨[.sl (Ty.size e) Au],.inr ⟨Au,rfl,by omega,λr hr=>?_⟩,⟨_,[],rfl,⟨a,cap,by rw[eI],by omega,?_,EP.Gg λi r hr=>?_⟩,rfl⟩,by simp[Value.oneCell'],rfl⟩;·obtain⟨i,hi⟩:=CS hr;exact(aL i r hi).1
    .rcases OC cap with h0|h0
     .exact .inr h0
     .exact .inl (spot h0)
    .exact⟨(aL i r hr).2.1,(aL i r hr).2.2⟩
  .cases hok
 | .st fs,t,fuel,cs,x,hok,h=>by
  unfold LW at hok;split at hok
  .rename_i fields ht;simp only[BL,beq_iff_eq] at hok;obtain⟨hct,hf⟩:=hok;obtain⟨xs,n,_,_,hcl,hxl,X9⟩:=DataW.trod_struct ht h;obtain⟨as,p1,p2,p3,p4⟩:=SX fs (fields:=fields.toList) (off:=0) (cs:=cs) (n:=n) hf (λi f hi=>by
    have:=X9 i f (by simpa using hi);have hlt:i<fields.size:=by have:=(Ah.1 hi).1;simpa using this
    rw[Ae (show i<xs.length by omega)] at this;exact⟨_,this⟩) (by rw[hcl,hct];omega)
   have e1:(cs.drop 0).take (Ty.LC fs)=cs:=by rw[Qm];exact Ay (by rw[hcl,hct];exact Ac _)
   rw[e1] at p2 p3;exact⟨as,p1,p2,p3,p4⟩
  .cases hok
theorem SX:∀(tys:List Ty) {fields:List Field} {off:Nat} {cs:List Value} {n:Nat},N8 P tys fields off=true->
  (∀(i:Nat) (f:Field),fields[i]?=some f->∃y,DataW.trod enc P W 0 (λ_=>true) true n f.type ((cs.drop f.offset).take (P.cellsOf f.type))=some y)->off+Ty.LC tys<=cs.length->
  ∃as,rG tys as/\A9 (Fw W) as ((cs.drop off).take (Ty.LC tys))/\(∀u∈(cs.drop off).take (Ty.LC tys),u.oneCell'=true)/\as.length=Ty.LC tys
 |[],fields,off,cs,n,hok,h,hl=>by refine⟨[],rfl,?_,?_,rfl⟩<;>simp[Ty.LC,A9]
 |ty::tys,fields,off,cs,n,hok,h,hl=>by
  cases fields with
  |nil=>simp[N8] at hok
  |cons f fs=>
   simp only[N8,BL,beq_iff_eq] at hok;obtain⟨⟨⟨ho,hc⟩,Xb⟩,wF⟩:=hok;obtain⟨y,hy⟩:=h 0 f rfl;rw[ho,hc] at hy;obtain⟨as,p1,p2,p3,p4⟩:=Yr ty Xb hy;simp only[Ty.LC] at hl;obtain⟨bs,q1,q2,q3,q4⟩:=SX tys wF (λi g hi=>h (i+1) g (by simpa using hi)) (by omega);have e1:(cs.drop off).take (Ty.LC (ty::tys))=(cs.drop off).take (Ty.size ty)++(cs.drop (off+Ty.size ty)).take (Ty.LC tys):=by simp only[Ty.LC];rw[List.take_add,E5]
   rw[e1];refine⟨as++bs,⟨as,bs,rfl,p1,q1⟩,p2.append q2,λu hu=>?_,by simp[p4,q4,Ty.LC]⟩;rcases Ao.1 hu with hu|hu
   .exact p3 u hu
   .exact q3 u hu
end
theorem Ys{ty:Ty}{t:TypeId}{v:Value}{base:Nat}(hok:LW P ty t=true)(hv:Value.okWide P W .any base t v):if ty.zf then∃cs,v= .agg cs else v.cells=#[v]:=by
 cases ty with
 |st fs=>
  unfold LW at hok;split at hok;·rename_i fields ht;unfold Value.okWide at hv;rw[ht] at hv;obtain⟨cs,e,_⟩:=hv;exact⟨cs,e⟩
  .cases hok
 |_=>
  unfold LW at hok;split at hok;·rename_i ht;unfold Value.okWide at hv;rw[ht] at hv;simp only[Cell.okWide,ht,Cell.ok] at hv;cases v<;>first|rfl|exact hv.elim
  .cases hok
theorem Xt:∀{tys:List Ty} {ts:List TypeId} {vs:List Value} {ds:List (DataW H)} {ps:List MemPlace} {base:Nat},DataW.TrodAll enc P W 0 (λ_=>true) true ts vs ds ps->tys.length=ts.length->(∀(i:Nat) (ty:Ty) (t:TypeId),tys[i]?=some ty->ts[i]?=some t->LW P ty t=true)->
  (∀(i:Nat) (t:TypeId) (v:Value),ts[i]?=some t->vs[i]?=some v->Value.okWide P W .any base t v)->∃as,ON tys as/\A9 (Fw W) as vs
 |[],[],[],[],_,_,_,_,_,_=>⟨[],rfl,rfl⟩
 |ty::tys,t::ts,v::vs,d::ds,ps,base,⟨p,q,⟨fuel,h1⟩,h2,_⟩,hl,hok,Kr=>by
  have Xb:=hok 0 ty t rfl rfl;obtain⟨cells,p1,p2,p3,p4⟩:=Yr ty Xb h1;obtain⟨bs,q1,q2⟩:=Xt h2 (by simpa using hl) (λi ty t h h'=>hok (i+1) ty t (by simpa using h) (by simpa using h')) (λi t v h h'=>Kr (i+1) t v (by simpa using h) (by simpa using h'));have hc:=Ys Xb (Kr 0 t v rfl rfl);have:∃a,rH ty a/\BE (Fw W) a v:=by
   by_cases hst:ty.zf=true;·rw[if_pos hst] at hc;obtain⟨us,rfl⟩:=hc;exact⟨.agg cells,(by unfold rH;rw[if_pos hst];exact⟨cells,rfl,p1⟩),us,rfl,by simpa[Value.cells] using p2,by simpa[Value.cells] using p3⟩
   .rw[if_neg hst] at hc;rw[hc] at p2;obtain⟨u,us,e,hu,hnil⟩:∃c Gc,cells=c::Gc/\BE (Fw W) c v/\Gc=[]:=by
     cases cells with
     |nil=>cases p2
     |cons c Gc=>obtain⟨u,Dj,e,h1,h2⟩:=p2;simp at e;obtain⟨rfl,rfl⟩:=e;exact⟨c,Gc,rfl,h1,by cases Gc with|nil=>rfl|cons _ _=>obtain⟨_,_,e,_⟩:=h2;cases e⟩
    subst hnil;subst e;exact⟨u,(by unfold rH;rw[if_neg hst];exact p1),hu⟩
  obtain⟨a,ha,hr⟩:=this;exact⟨a::bs,⟨a,bs,rfl,ha,q1⟩,⟨v,vs,rfl,hr,q2⟩⟩
 |[],_::_,_,_,_,_,_,hl,_,_=>by simp at hl
 |_::_,[],_,_,_,_,_,hl,_,_=>by simp at hl
 |[],[],_::_,_,_,_,h,_,_,_=>by cases h
 |[],[],[],_::_,_,_,h,_,_,_=>by cases h
 |_::_,_::_,[],_,_,_,h,_,_,_=>by cases h
 |_::_,_::_,_::_,[],_,_,h,_,_,_=>by cases h
theorem U1{W':World}{may:MemPlace->Prop}(h1:W'.os=W.os)(h2:W'.output=W.output)(hb:∀i,i<W.heap.size->W'.heap[i]?=W.heap[i]?):W.keptBut W' may:=by
 refine⟨h1,h2,λi hi=>?_⟩;rw[hb i hi];split;·rename_i c t fr c' t' qL e1 e2;rw[e1] at e2;cases e2;exact⟨rfl,rfl,rfl,λ_ _=>rfl⟩
 .rename_i e1 e2;rw[e1] at e2;cases e2;exact .inr ⟨rfl,rfl⟩
 .rfl
theorem Ps(hl:laidOutB P=true){W':World}(hb:RowKit.Below W.heap.size W W'):∀{ts:List TypeId} {vs:List Value} {ds:List (DataW H)} {ps:List MemPlace},(∀t∈ts,P.readableRec t=true/\t<P.types.size)->
  DataW.TrodAll enc P W 0 (λ_=>true) true ts vs ds ps->(∀x∈ps,x.block<W.heap.size)->DataW.TrodAll enc P W' 0 (λb=>decide (b<W.heap.size)) true ts vs ds ps
 |[],[],[],ps,_,h,_=>h
 |t::ts,v::vs,d::ds,ps,ZG,⟨p,q,h1,h2,e⟩,hlt=>by subst e;have ht:=ZG t (by simp);exact⟨p,q,RowKit.Below.trod hl ht.1 ht.2 h1 hb λx hx=>hlt x (CE _ hx),Ps hl hb (λt' h'=>ZG t' (by simp[h'])) h2 λx hx=>hlt x (BU _ hx),rfl⟩
 |[],[],_::_,_,_,h,_=>by cases h
 |[],_::_,_,_,_,h,_=>by cases h
 |_::_,[],_,_,_,h,_=>by cases h
 |_::_,_::_,[],_,_,h,_=>by cases h
end
theorem M2{C:FG}(hm:C.P.follows .mixedOrders=true)(wV:∀g cs,C.Gf g=some cs->cs.all Aa.Ls=true)(ug:Yp C)(hl:laidOutB C.P=true){f:FuncId}{fn:Func}{rt:TypeId}(hrf:f<=99999)(hrt:fn.resultTypes=#[rt])(hrb:C.P.underlying rt=some .bool){tys:List Ty}(hlen:tys.length=fn.params.size)
  (aJP:∀(i:Nat) (ty:Ty) (t:TypeId),tys[i]?=some ty->fn.params[i]?=some t->LW C.P ty t=true) (aDU:∀t∈fn.params.toList,C.P.readableRec t=true/\t<C.P.types.size)
  (Ik:∀as,ON tys as->Ev C f as [] λr _=>r= .bool true) {s:ChangeSpec} (tl:s.vars=[])
  {H:Type} (hfn:∀ds:List (DataW H),ds.length=fn.params.size->s.fn H ds={results:=[.lit (.bool true)],args:=ds})
  {enc:TypeId×Value->H} {W:World} {base:Nat} {args:Array Value} {ds gs:List (DataW H)} {before:List MemPlace} (hg:∀g cs,C.Gf g=some cs->CI (Fw W) cs g 0)
  (Kr:∀(j:Nat) (t:TypeId) (v:Value),fn.params[j]?=some t->args[j]?=some v->Value.okWide C.P W .any base t v) (hW:DataW.Whole enc C.P fn.params.toList s.vars false W args.toList ds gs before):
  Calls C.P f args W λe W'=>∃v,e= .returned v/\s.post enc C.P fn false true false false W args v W':=by
 have hW':=hW;have hlt:=hW.lt;obtain⟨p,q,hA,hV,rfl,hfz,dr⟩:=hW;rw[tl] at hV;have y_:gs=[]/\q=[]:=by
  cases gs with
  |nil=>exact⟨rfl,hV⟩
  |cons _ _=>cases hV
 obtain⟨rfl,rfl⟩:=y_;obtain⟨as,WG,NH⟩:=Xt hA (by simpa using hlen) (λi ty t h h'=>aJP i ty t h (by simpa using h')) (λi t v h h'=>Kr i t v (by simpa using h) (by simpa using h'));have gA:ds.length=fn.params.size:=by
  have key:∀{ts:List TypeId} {vs:List Value} {ds:List (DataW H)} {ps:List MemPlace},DataW.TrodAll enc C.P W 0 (λ_=>true) true ts vs ds ps->ds.length=ts.length:=by
   intro ts;induction ts with
   |nil=>intro vs ds ps h;cases vs<;>cases ds<;>first|rfl|cases h
   |cons t ts ih=>
    intro vs ds ps h;cases vs with
    |nil=>cases h
    |cons v vs=>
     cases ds with
     |nil=>cases h
     |cons d ds=>obtain⟨_,_,_,h2,_⟩:=h;simp[ih h2]
  simpa using key hA
 have WA:=(Ik as WG).calls hm wV ug (wW W) hg NH;rw[show D6 f=f from if_pos hrf] at WA;refine WA.mono λe W' he=>?_;cases e with
 |returned v=>
  obtain⟨r,h',γ',rfl,hi,JC,hv⟩:=he;have hvb:v= .bool true:=hv;subst hvb;have hold:∀i,i<W.heap.size->W'.heap[i]?=W.heap[i]?:=λi wC=>(JC.MO i wC λid h0=>by cases h0).1;have hbelow:RowKit.Below W.heap.size W W':=⟨JC.os,JC.tape,JC.output,JC.size,hold⟩;refine⟨_,rfl,ds,[],p++[],[],p,[],hW',?_,?_,?_,U1 JC.os JC.output hold,λh0=>by cases h0⟩;·rw[BC,hfn ds gA,hrt];exact⟨[],[],RowKit.shut_bool hrb true,rfl,rfl⟩
  .rw[BC,hfn ds gA];exact Ps hl hbelow aDU hA λx hx=>hlt x (by simpa using hx)
  .rw[BC,hfn ds gA,tl];rfl
 |_=>exact he.elim
end Go.Am
end
