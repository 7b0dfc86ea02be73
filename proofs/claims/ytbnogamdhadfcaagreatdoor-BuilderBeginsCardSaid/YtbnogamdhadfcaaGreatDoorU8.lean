/- Lemmas -/
import Derived.Scope
import Derived.Test.YtbnogamdhadfcaaGreatDoorU7
import Derived.Carry
import Derived.ReadAgain
set_option linter.unusedVariables false
set_option linter.unusedSimpArgs false
section
namespace Go.Am
open Go
def ui(x y:D6):Prop:=
 match x with
 | .box ver cs ow=>∃Fw Gf Mz,y= .box Fw Gf Mz/\ver<=Fw/\(Fw=ver->Gf=cs/\Mz=ow)
 | .EG t o=>y= .EG t o\/y= .undef
 |x=>y=x
theorem ui.refl(x:D6):ui x x:=by
 cases x with
 |box ver cs ow=>exact⟨ver,cs,ow,rfl,Ac _,λ_=>⟨rfl,rfl⟩⟩
 |EG t o=>exact .inl rfl
 |_=>rfl
theorem ui.trans{x y z:D6}(h:ui x y)(k:ui y z):ui x z:=by
 cases x with
 |box ver cs ow=>
  obtain⟨v1,c1,o1,rfl,h1,h2⟩:=h;obtain⟨v2,c2,o2,rfl,k1,k2⟩:=k;refine⟨v2,c2,o2,rfl,Bt h1 k1,λe=>?_⟩;have e1:v1=ver:=by omega
  have e2:v2=v1:=by omega
  obtain⟨rfl,rfl⟩:=k2 e2;exact h2 e1
 |EG t o=>
  rcases h with rfl|rfl
  .exact k
  .exact .inr k
 |_=>rw[show y=_ from h] at k;exact k
def Gz(W:List Nat)(σ τ:BD):Prop:=τ.length=σ.length/\∀s,s∉W->ui (σ.at s) (τ.at s)
theorem Gz.refl(W:List Nat)(σ:BD):Gz W σ σ:=⟨rfl,λ_ _=> .refl _⟩
theorem Gz.trans{W:List Nat}{σ τ ρ:BD}(h:Gz W σ τ)(k:Gz W τ ρ):Gz W σ ρ:=⟨k.1.trans h.1,λs hs=>(h.2 s hs).trans (k.2 s hs)⟩
theorem Gz.mono{W W':List Nat}{σ τ:BD}(h:Gz W σ τ)(hw:∀s∈W,s∈W'):Gz W' σ τ:=⟨h.1,λs hs=>h.2 s λhm=>hs (hw s hm)⟩
theorem Gz.set{W:List Nat}{σ:BD}{s:Nat}{x:D6}(hs:s∈W):Gz W σ (σ.set s x):=
 ⟨by simp,λt ht=>by rw[BD.Fp λe=>ht (by rw[<-e];exact hs)];exact .refl _⟩
theorem Gz.put{W:List Nat}{σ:BD}{d:Option Nat}{x:D6}(hs:∀s∈d.toList,s∈W):Gz W σ (σ.put d x):=by
 cases d with
 |none=>exact .refl _ _
 |some d=>exact .set (hs d (by simp))
section
variable{C:FI}{fid:FuncId}{ops:List Oper}{run:IT->Ae->Option Jn}{σ σ':BD}{h h':Ae}{W:List Nat}
theorem Gz.drop(σ:BD)(ds:List Nat):Gz W σ (σ.drop ds):=by
 refine⟨BD.length_drop σ ds,λs _=>?_⟩;rw[BD.TQ];cases hx:σ.at s with
 |EG t o=>
  simp only
  split;·exact .inr rfl
  .exact .inl rfl
 |_=>exact .refl _
theorem fN{r:Er}{ds:List Nat}(hd:r.L9 C run (σ.drop ds) h σ' h')(hw:∀s∈r.wf,s∈W):Gz W σ σ':=by obtain⟨ws,rfl,h1,_⟩:=Xj hd;refine(Gz.drop σ ds).trans ⟨BD.IU ws _,λs hs=>?_⟩;rw[BD.F9 ws _ s λp hp e=>hs (hw s (by rw[<-e];exact h1 p hp))];exact .refl _
theorem OD{x:Operand}{d:Nat}{take:Bool}{r:Er}(h:Ju C σ x d take=some r):∀s∈r.wf,s=d\/(take=true/\x= .tmp s):=by
 unfold Ju at h;split at h;·cases h;simp[Er.wf]
 .cases h;simp[Er.wf]
 .split at h
  .rename_i ht;cases h;intro s hs;simp only[Er.wf,BI,Ao] at hs;rcases hs with hs|hs
   .revert hs;generalize hX:Qp _ _=tf;intro hs;unfold Qp at hX;split at hX;·subst hX;simp at hs;exact .inr ⟨ht,by rw[hs]⟩
    .subst hX;simp at hs
   .exact .inl (by simpa using hs)
  .cases hc:HG _ with
   |none=>rw[hc] at h;cases h
   |some sl=>rw[hc] at h;cases h;simp[Er.wf]
 .cases hc:HG _ with
  |none=>rw[hc] at h;cases h
  |some sl=>rw[hc] at h;cases h;simp[Er.wf]
 .cases h
theorem QG{x:Operand}{p:Nat×Aa}(h:CZ σ x=some p):x= .tmp p.1:=by
 cases x with
 |tmp t=>
  simp only[CZ] at h;cases hx:σ.at t with
  |own v=>rw[hx] at h;cases h;rfl
  |_=>rw[hx] at h;cases h
 |_=>cases h
theorem aK{t:TypeId}{v:Aa}{d:Nat}{r:Er}(h:Ss C fid t v d=some r):r.wf=[d]:=by
 unfold Ss at h;split at h;·cases h
 .split at h;·cases h
  .split at h<;>(cases h;rfl)
theorem Pg:∀{xs:List Operand} {vs:List Aa} {fz:List (Nat×List Aa)},Gv C σ xs=some (vs,fz)->∀p∈fz,p.1∈Jv xs
 |[],vs,fz,hc=>by cases hc;simp
 |x::xs,vs,fz,hc=>by
  unfold Gv at hc;split at hc;·cases hc
  .rename_i Hi fz' hxs;have ih:=Pg hxs;have up:∀p∈fz',p.1∈Jv (x::xs):=λp hp=>by obtain⟨y,hy,he⟩:=Ci.1 (ih p hp);exact Ci.2 ⟨y,List.mem_cons_of_mem _ hy,he⟩
   split at hc
   .rename_i s ver cs ow hs;split at hc;·cases hc
    .cases hc;intro p hp;rcases AM.1 hp with rfl|hp
     .simp[Jv]
     .exact up p hp
   .rename_i sl _ hs;cases hv:sl.Gu with
    |none=>rw[hv] at hc;cases hc
    |some u=>rw[hv] at hc;cases hc;exact up
   .cases hc
theorem kY{o:Oper}{r:Er}(hc:Fv C fid ops σ o=some r)(hd:r.L9 C run (σ.drop r.news) h σ' h'):Gz (EP ops o) σ σ':=by
 have QF:∀s∈o.dst.toList,s∈EP ops o:=λs hs=>CE _ hs
 have hwf:(∀s∈r.wf,s∈EP ops o)->Gz (EP ops o) σ σ':=fN hd
 have WA:r.wf=o.dst.toList->Gz (EP ops o) σ σ':=λe=>hwf (by rw[e];exact QF)
 have SI:∀{m x},S8 m o.dst x=some r->Gz (EP ops o) σ σ':=λ{m x} he=>by
  obtain⟨_,_,rfl⟩:=Hc he
  exact WA rfl
 have GJ:∀{p x},Rx p o.dst x=some r->Gz (EP ops o) σ σ':=λ{p x} he=>by
  obtain⟨args,_,rfl⟩:=Dy he
  exact WA (by simp[Er.wf])
 unfold Fv at hc
 split at hc
 .rename_i x ho
  split at hc
  .rename_i d FG
   refine hwf λs hs=>?_
   rcases OD hc s hs with rfl|⟨ht,rfl⟩
   .exact QF s (by rw[FG];simp)
   .refine BU _ ?_
    simp[ho,FG,ht]
  .cases hc
 .rename_i x ho
  split at hc
  .rename_i d FG
   refine hwf λs hs=>?_
   rcases OD hc s hs with rfl|⟨ht,rfl⟩
   .exact QF s (by rw[FG];simp)
   .refine BU _ ?_
    simp[ho]
  .cases hc
 .rename_i c x y ho
  split at hc
  .rename_i d _ FG
   refine hwf λs hs=>?_
   rcases OD hc s hs with rfl|⟨ht,rfl⟩
   .exact QF s (by rw[FG];simp)
   .cases ht
  .rename_i d _ FG
   refine hwf λs hs=>?_
   rcases OD hc s hs with rfl|⟨ht,rfl⟩
   .exact QF s (by rw[FG];simp)
   .cases ht
  .exact GJ hc
 .split at hc
  .rename_i d z FG hz
   split at hc
   .split at hc
    .cases hc;exact WA (by rw[FG];rfl)
    .cases hc
   .exact WA (by rw[aK hc,FG];rfl)
  .cases hc
 .split at hc
  .rename_i d v FG hz
   exact WA (by rw[aK hc,FG];rfl)
  .cases hc
 .split at hc
  .split at hc
   .exact GJ hc
   .cases hc
  .cases hc
 .split at hc
  .split at hc
   .split at hc
    .cases ha:Bq C σ _ with
     |none=>rw[ha] at hc;cases hc
     |some args=>rw[ha] at hc;cases hc;exact WA (by simp[Er.wf])
    .cases hc
   .cases hc
  .cases hc
 .split at hc
  .rename_i d FG
   unfold Kp at hc
   split at hc
   .cases hc;exact WA (by rw[FG];rfl)
   .rename_i s off ver cs ow ht ha
    split at hc
    .simp only at hc
     split at hc
     .cases hc
      rw[MJ (by simp)] at hd
      obtain⟨rfl,rfl⟩:=hd
      have hs:σ.at s= .box ver cs ow:=by
       unfold Fu at ha
       split at ha
       .rename_i hs;cases ha;exact Gl hs
       .split at ha
        .rename_i hb;cases ha;exact hb
        .cases ha
       .exact absurd ha (by cases hv:D6.Gu _<;>simp)
       .cases ha
      refine⟨by simp[BD.drop,BD.Ec],λt htW=>?_⟩
      have htd:t≠d:=λe=>htW (QF t (by rw[FG,e];simp))
      have uZ:s<σ.length:=BD.NN (by rw[hs];simp)
      show ui (σ.at t) (BD.at ((σ.set s _).set d _) t)
      rw[BD.Fp (λe=>htd e.symm)]
      by_cases ZC:s=t
      .subst ZC
       rw[BD.ET uZ,hs]
       exact⟨_,_,_,rfl,Gg _,λe=>absurd e (by omega)⟩
      .rw[BD.Fp ZC];exact .refl _
     .cases hc;exact WA (by rw[FG];rfl)
    .cases hc
   .split at hc
    .cases hc;exact WA (by rw[FG];rfl)
    .cases hc
   .cases hc
  .cases hc
 .rename_i t x y ho
  split at hc
  .rename_i FG
   unfold IA at hc
   split at hc
   .cases hc;exact hwf (by simp[Er.wf])
   .rename_i m sh s off ver cs ow v hsz dT ha hv
    split at hc
    .cases hc
     obtain⟨_,rfl,rfl⟩:=hd
     have hs:σ.at s= .box ver cs ow:=by
      unfold Fu at ha
      split at ha
      .rename_i hs;cases ha;exact Gl hs
      .split at ha
       .rename_i hb;cases ha;exact hb
       .cases ha
      .exact absurd ha (by cases hv:D6.Gu _<;>simp)
      .cases ha
     have Wv:∀(D:Option (Nat×Aa)),(∀p,D=some p->p.1∈EP ops o/\p.1≠s)->∀X:List Aa×List Nat,Gz (EP ops o) σ ((σ.Dm D).set s (.box (ver+1) X.1 X.2)):=by
      intro D hD X
      refine⟨by cases D<;>simp[BD.Dm],λt htW=>?_⟩
      have hlen:s<(σ.Dm D).length:=by
       have:s<σ.length:=BD.NN (by rw[hs];simp)
       cases D<;>simpa[BD.Dm] using this
      by_cases ZC:s=t
      .subst ZC
       rw[BD.ET hlen,hs]
       exact⟨_,_,_,rfl,Gg _,λe=>absurd e (by omega)⟩
      .rw[BD.Fp ZC]
       cases D with
       |none=>exact .refl _
       |some p=>
        obtain⟨k1,k2⟩:=hD p rfl
        simp only[BD.Dm]
        rw[BD.Fp (λe=>htW (by rw[<-e];exact k1))]
        exact .refl _
     refine Wv _ (λp hp=>?_) (_,_)
     split at hp
     .have hy:=QG hp
      subst hy
      refine⟨BU _ (by simp[ho]),λe=>?_⟩
      simp only[CZ] at hp
      rw[e,hs] at hp
      cases hp
     .cases hp
    .cases hc
   .cases hc
  .cases hc
 .split at hc
  .rename_i FG _ _
   cases hc;exact WA (by rw[FG];rfl)
  .rename_i FG _ _
   cases hc;exact WA (by rw[FG];rfl)
  .exact GJ hc
 .split at hc
  .exact GJ hc
  .cases hc
 .exact GJ hc
 .split at hc
  .cases hv:Es C σ _ with
   |none=>rw[hv] at hc;cases hc
   |some v=>rw[hv] at hc;cases hc;exact WA rfl
  .split at hc
   .cases hv:Es C σ _ with
    |none=>rw[hv] at hc;cases hc
    |some v=>rw[hv] at hc;cases hc;exact WA rfl
   .exact GJ hc
  .exact GJ hc
  .cases hc
 .rename_i fn first captured ho
  split at hc
  .rename_i d as bs fz FG ha hb
   cases hc
   refine hwf λs hs=>?_
   simp only[Er.wf,AM] at hs
   rcases hs with rfl|hs
   .exact QF s (by rw[FG];simp)
   .obtain⟨p,hp,rfl⟩:=Bk.1 hs
    refine BU _ ?_
    simp only[ho]
    exact Pg hb p hp
  .cases hc
 .cases hc;exact WA rfl
 .split at hc
  .split at hc
   .cases hc;exact WA rfl
   .cases hc
  .cases hc
 .split at hc
  .split at hc
   .cases hc;exact hwf (by simp[Er.wf])
   .cases hc
  .cases hc
 .split at hc
  .split at hc
   .cases hc;exact hwf (by simp[Er.wf])
   .cases hc
  .cases hc
 .split at hc
  .split at hc
   .cases hc;exact WA rfl
   .cases hc;exact WA rfl
   .cases hc
  .cases hc
 .split at hc
  .split at hc
   .exact SI hc
   .cases hc
  .cases hc
 .split at hc
  .cases hc
  .exact SI hc
  .cases hc
 .split at hc
  .split at hc
   .exact SI hc
   .cases hc
  .cases hc
 .split at hc
  .rename_i FG
   exact SI (by rw[FG];exact hc)
  .cases hc
 .split at hc
  .exact GJ hc
  .split at hc
   .split at hc
    .exact SI hc
    .exact GJ hc
   .cases hc
  .cases hc
 .split at hc
  .rename_i off sh d hf FG
   split at hc
   .cases hc;exact WA (by rw[FG];rfl)
   .cases hc;exact WA (by rw[FG];rfl)
   .exact GJ (by rw[FG];exact hc)
  .cases hc
 .split at hc
  .exact GJ hc
  .cases hc
 .split at hc
  .split at hc
   .exact GJ hc
   .cases hc
  .split at hc
   .split at hc
    .cases hc
    .exact GJ hc
   .cases hc
  .cases hc
 .split at hc
  .exact GJ hc
  .split at hc
   .exact GJ hc
   .cases hc
  .cases hc
 .exact GJ hc
 .rename_i c ho
  unfold PF at hc
  split at hc
  .split at hc
   .split at hc
    .exact GJ hc
    .exact GJ hc
    .cases hc
   .cases hc
  .rename_i hcl
   split at hc
   .rename_i t t' s x h0 h1 Ee
    have Wv:∀p,CZ σ s=some p->p.1∈EP ops o:=λp hp=>by
     have:=QG hp
     subst this
     refine BU _ ?_
     simp only[ho,hcl,Ee]
     simp[Jv]
    split at hc
    all_goals first
     |(cases hc;done)
     | (split at hc
        . split at hc
          . split at hc
            . split at hc
              . split at hc
                . cases hc
                  refine hwf fun q hq => ?_
                  simp only [Er.wf, Ao] at hq
                  rcases hq with hq | hq
                  . exact QF q hq
                  . cases fO : CZ σ s with
                    | none => rw [fO] at hq; simp at hq
                    | some p => rw [fO] at hq; simp at hq; rw [hq]; exact Wv p fO
                . split at hc
                  . cases hc
                    refine hwf fun q hq => ?_
                    simp only [Er.wf, Ao] at hq
                    rcases hq with hq | hq
                    . exact QF q hq
                    . cases fO : CZ σ s with
                      | none => rw [fO] at hq; simp at hq
                      | some p => rw [fO] at hq; simp at hq; rw [hq]; exact Wv p fO
                  . cases hc
                    refine hwf fun q hq => ?_
                    simp only [Er.wf, Ao] at hq
                    rcases hq with hq | hq
                    . exact QF q hq
                    . cases fO : CZ σ s with
                      | none => rw [fO] at hq; simp at hq
                      | some p => rw [fO] at hq; simp at hq; rw [hq]; exact Wv p fO
              . split at hc
                . cases hc
                  refine hwf fun q hq => QF q (by simpa [Er.wf] using hq)
                . cases hc
            . cases hc
          . cases hc
        . cases hc)
   .cases hc
  .split at hc
   .split at hc
    all_goals first
     |(cases hc;done)
     | (split at hc
        . exact SI hc
        . cases hc)
   .cases hc
  .split at hc
   .split at hc
    .split at hc
     .exact SI hc
     .cases hc
    .cases hc
   .cases hc
  .split at hc
   .exact GJ hc
   .cases hc
  .split at hc
   .exact GJ hc
   .cases hc
  .split at hc
   .split at hc
    .split at hc
     .exact SI hc
     .cases hc
    .cases hc
   split at hc
   .cases ha:Bq C σ c.args.toList with
    |none=>rw[ha] at hc;cases hc
    |some args=>
     rw[ha] at hc
     simp only[BR,BC] at hc
     split at hc<;>(cases hc;exact WA rfl)
   .cases hc
  .split at hc
   .cases hc;exact WA rfl
   .cases hc
  .cases hc
 .cases hc
end
end Go.Am
end
section
namespace Go.Am
open Go
def wA:EL->Exit
 | .normal=> .normal
 | .exit i=> .exit i
 | .ret=> .ret
theorem MU:∀{l m:List Nat},l.Nodup->(∀x∈l,x∈m)->l.length<=m.length
 |[],_,_,_=>AO _
 |x::l,m,hn,hs=>by have hx:=hs x (by simp);have h1:=MU (l:=l) (m:=m.erase x) (BW.1 hn).2 λy hy=>(List.mem_erase_of_ne λe=>(BW.1 hn).1 (by rw[<-e];exact hy)).2 (hs y (by simp[hy]));rw[List.length_erase_of_mem hx] at h1;have:0<m.length:=List.length_pos_of_mem hx;simp;omega
theorem Yh{P:Program}{c:Code}{Q:Exit->Act->World->Prop}(T:Nat->Act->World->Prop)(round:∀n a w,T n a w->c.wp P (Exit.then (λa' w'=>∃m,m<n/\T m a' w') Q) a w)(n:Nat)(a:Act)(w:World)(h0:T n a w):(Code.loop c).wp P Q a w:=by
 intro b k cs;have key:∀n a w,T n a w->∃e a' w',Q e a' w'/\Arrives P (lone (b.at a (.code c:: .inLoop c::k)) cs w) b k cs e a' w':=by
  intro n;induction n using Nat.strongRecOn with
  |_ n ih=>
   intro a w hT;obtain⟨e,a1,w1,hq,fw⟩:=round n a w hT b (.inLoop c::k) cs;by_cases he:e= .normal;·subst he;obtain⟨m,hm,hT1⟩:=hq;obtain⟨e2,a2,w2,q2,r2⟩:=ih m hm a1 w1 hT1;exact⟨e2,a2,w2,q2,.of_steps (Go.Steps.trans fw (.one step_inLoop)) r2⟩
   .exact⟨e,a1,w1,by cases e<;>first|exact hq|exact absurd rfl he,.pass (x:= .inLoop c) rfl (λ_ _=> .inl he) fw⟩
 obtain⟨e,a',w',hq,fw⟩:=key n a w h0;exact⟨e,a',w',hq,.of_steps (.one step_loop) fw⟩
section
variable{C:FI}{γ0 γ:Gh}{w0 w:World}{β:Nat->Nat}{σ:BD}{h:Ae}{a:Act}{fid:FuncId}{run:IT->Ae->Option Jn}
theorem Yi{ops:List Oper}{o:Oper}{K:BD->IT}{R:Jn}(hr:IT.step (B5 C) run (Ry C fid ops σ o K) h=some R):
  ∃σ1,(σ1=σ\/∃s b,s∈EY ops o/\σ.at s= .val (.bool b)/\σ1=σ.set s (.Nq b))/\
   ((HT ops σ1 o= .L6 true/\IT.step (B5 C) run (uJ C fid ops σ1 o K) h=some R)\/(HT ops σ1 o= .L6 false/\IT.step (B5 C) run (K (σ1.put o.dst .skip)) h=some R)):=by
 unfold Ry at hr;split at hr;·rename_i hg;exact⟨σ,.inl rfl,.inl ⟨hg,hr⟩⟩
 .rename_i hg;exact⟨σ,.inl rfl,.inr ⟨hg,hr⟩⟩
 .rename_i s v want hg;have zf:s∈EY ops o/\σ.at s= .val v/\∀b,HT ops (σ.set s (.Nq b)) o= .L6 (b==want):=by
   unfold HT at hg⊢;unfold EY;cases ho:o.guard with
   |none=>rw[ho] at hg;cases hg
   |some g=>
    obtain⟨j,want'⟩:=g;rw[ho] at hg;simp only at hg⊢;cases hd:(ops[j]?).bind (·.dst) with
    |none=>rw[hd] at hg;cases hg
    |some s'=>
     rw[hd] at hg;simp only at hg⊢;cases hx:σ.at s' with
     |val v'=>rw[hx] at hg;cases hg;refine⟨by simp,hx,λb=>?_⟩;rw[BD.ET (BD.NN (by rw[hx];simp))]
     |Nq c=>rw[hx] at hg;cases hg
     |skip=>rw[hx] at hg;cases hg
     |_=>rw[hx] at hg;cases hg
  obtain⟨g1,g2,g3⟩:=zf;simp only[IT.step] at hr;split at hr
  .refine⟨σ.set s (.Nq true),.inr ⟨s,true,g1,g2,rfl⟩,?_⟩;rw[g3];cases want with
   |true=>exact .inl ⟨rfl,hr⟩
   |false=>exact .inr ⟨rfl,hr⟩
  .refine⟨σ.set s (.Nq false),.inr ⟨s,false,g1,g2,rfl⟩,?_⟩;rw[g3];cases want with
   |true=>exact .inr ⟨rfl,hr⟩
   |false=>exact .inl ⟨rfl,hr⟩
  .cases hr
 .cases hr
theorem kZ(hS:ED C run){ops:Array Oper}{Q:Exit->Act->World->Prop}{W:List Nat}{K:BD->IT}{R:Jn}:∀(rest:List Oper) (k:Nat) (γ:Gh) (β:Nat->Nat) (σ:BD) (h:Ae) (a:Act) (w:World),
  ops.toList.drop k=rest->(∀o∈rest,(∀s∈EP ops.toList o,s∈W)/\∀s∈EY ops.toList o,s∈W)->IT.step (B5 C) run (kJ C fid ops.toList rest σ K) h=some R->CS C γ0 w0 γ β σ h a w->
  (∀γ' β' σ' h' a' w',IT.step (B5 C) run (K σ') h'=some R->Gz W σ σ'->CS C γ0 w0 γ' β' σ' h' a' w'->Q .normal a' w')->wpOps C.P ops Q (List.range' k rest.length) a w
 |[],k,γ,β,σ,h,a,w,_,_,AU,hr,hQ=>by simp only[BT,List.range'_zero,wpOps];exact hQ γ β σ h a w AU (.refl _ _) hr
 |o::rest,k,γ,β,σ,h,a,w,hk,hW,AU,hr,hQ=>by
  have ho:ops[k]?=some o:=by
   have:ops.toList[k]?=some o:=by have h0:=Ce (·[0]?) hk;simpa[Cz] using h0
   simpa using this
  have hk':ops.toList.drop (k+1)=rest:=by have h0:=Ce (List.drop 1) hk;simpa[E7] using h0
  obtain⟨zg,vV⟩:=hW o (by simp);simp only[Bc,List.range'_succ,wpOps,ho];obtain⟨σ1,hσ1,Ie⟩:=Yi AU;have Jq:CS C γ0 w0 γ β σ1 h a w/\Gz W σ σ1:=by
   rcases hσ1 with rfl|⟨s,b,g1,g2,rfl⟩
   .exact⟨hr,.refl _ _⟩
   .have h0:=hr.fr.Hv s;rw[g2] at h0;exact⟨hr.ZQ h0,.set (vV s g1)⟩
  obtain⟨Jq,aDM⟩:=Jq;have next:∀γ' β' σ' h' a' w',IT.step (B5 C) run (kJ C fid ops.toList rest σ' K) h'=some R->Gz W σ σ'->CS C γ0 w0 γ' β' σ' h' a' w'->wpOps C.P ops Q (List.range' (k+1) rest.length) a' w':=λγ' β' σ' h' a' w' Ph qN Fy=>kZ hS rest (k+1) γ' β' σ' h' a' w' hk' (λo ho=>hW o (by simp[ho])) Ph Fy λγ2 β2 σ2 h2 a2 w2 K0 aJC aDN=>hQ γ2 β2 σ2 h2 a2 w2 K0 (qN.trans aJC) aDN
  rcases Ie with⟨hg,If⟩|⟨hg,If⟩
  .rw[if_pos (KF Jq hg)];unfold uJ at If;split at If;·rename_i r hc;obtain⟨σ2,h2,hd,SJ⟩:=WX If;exact .inl (vU hS hc hd Jq λγ' β' a' w' Fy=>next γ' β' σ2 h2 a' w' SJ (aDM.trans ((kY hc hd).mono zg)) Fy)
   .cases If
  .rw[if_neg (by rw[KF Jq hg];simp)];exact next γ β _ h _ w If (aDM.trans (.put λs hs=>zg s (CE _ hs))) (Jq.put λ_ _=>rfl)
theorem fP{W:List Nat}{d:Option Nat}{σ σ':BD}(h:Lw d σ σ')(hd:∀s∈d.toList,s∈W):Gz W σ σ':=by
 unfold Lw at h;cases d with
 |none=>simp only at h;rw[h];exact .refl _ _
 |some d=>
  simp only at h;split at h;·obtain⟨b,_,rfl⟩:=h;exact .set (hd d (by simp))
  .rw[h];exact .refl _ _
theorem fQ{ops:List Oper}{an:List Nat}{W:List Nat}(hW:∀o∈ops,∀s∈EP ops o,s∈W){fl:List Jo}{L:List St}{σ σf:BD}{h hf:Ae}(hs:Steps C fid ops run an fl L σ h σf hf):Gz W σ σf:=by
 induction hs with
 |nil=>exact .refl _ _
 |cons h1 _ _ ih=>
  refine Gz.trans ?_ ih;obtain⟨o,ho,⟨_,_,_,rfl,rfl⟩|⟨r,σ2,hg,hc,_,hd,_,ha⟩⟩:=h1;·exact .put λs hs=>hW o (CD ho) s (CE _ hs)
  .refine((kY hc hd).mono λs hs=>hW o (CD ho) s hs).trans (fP ha λs hs=>?_);split at hs;·exact hW o (CD ho) s (CE _ hs)
   .simp at hs
theorem UR(hm:C.P.follows .mixedOrders=true)(hS:ED C run){id:Nat}{ops:Array Oper}{draw:Bool}{Q:Exit->Act->World->Prop}{K:BD->IT}{R:Jn}(AU:IT.step (B5 C) run (Qt C fid ops.toList draw σ K) h=some R)(hr:CS C γ0 w0 γ β σ h a w)
  (hQ:∀γ' β' σ' h' a' w',IT.step (B5 C) run (K σ') h'=some R->Gz (ops.toList.flatMap (EP ops.toList)++ops.toList.flatMap (EY ops.toList)) σ σ'->CS C γ0 w0 γ' β' σ' h' a' w'->Q .normal a' w'):(Code.region id ops draw).wp C.P Q a w:=by
 unfold Qt at AU;cases draw with
 |false=>refine wp_region ?_;have:=kZ (W:=ops.toList.flatMap (EP ops.toList)++ops.toList.flatMap (EY ops.toList)) hS ops.toList 0 γ β σ h a w rfl (λo ho=>⟨λs hs=>CE _ (List.mem_flatMap.2 ⟨o,ho,hs⟩),λs hs=>BU _ (List.mem_flatMap.2 ⟨o,ho,hs⟩)⟩) AU hr hQ;simpa[List.range_eq_range'] using this
 |true=>
  simp only[BN] at AU;split at AU
  .rename_i FG;obtain⟨L,σf,hf,h1,h2,h3⟩:=PM AU;refine wp_region_any hm ?_;have zh:=h2;unfold Uq at zh;simp only[List.reverse_nil,BH,BK] at zh;have aDO:kX (Un ops.toList) L:=by have:=Xm zh.1;rw[List.pairwise_map] at this;exact this
   have hlt:=h1.lt;have X3:∀i,i<ops.size->i∈L.map (·.idx):=λi hi=>by have:=EJ.1 zh.2 i (by simpa using hi);simpa using this
   have kR:(L.map (·.idx)).Nodup:=by rw[List.Nodup,List.pairwise_map];exact aDO.imp λh=>h.1
   have hlen:L.length=ops.size:=by
    have p1:(L.map (·.idx)).length<=(List.range ops.size).length:=MU kR (λi hi=>by obtain⟨s,hs,rfl⟩:=Bk.1 hi;simpa using hlt s hs)
    have p2:(List.range ops.size).length<=(L.map (·.idx)).length:=MU List.nodup_range λi hi=>X3 i (by simpa using hi);simp at p1 p2;omega
   have qN:=fQ (W:=ops.toList.flatMap (EP ops.toList)++ops.toList.flatMap (EY ops.toList)) (λo ho s hs=>CE _ (List.mem_flatMap.2 ⟨o,ho,hs⟩)) h1;refine qZ hS FG (λγ' β' a' w' Fy=>hQ γ' β' σf hf a' w' h3 qN Fy) ops.size L _ γ β σ h a w.drew hlen h1 aDO ⟨by simp,λi hi=>⟨λ_=>X3 i hi,λ_=>by simp[Array.getD,hi]⟩,λj hj e _=>?_⟩ hr.drew;exfalso;rcases AT j ops.size with hlt|D2
   .simp[Array.getD,hlt] at hj
   .simp[Array.getD,Nat.not_lt.2 D2] at hj
  .cases AU
end
end Go.Am
end
section
namespace Go.Am
open Go
def OE(x y:D6):Prop:=
 (∃u,x.Gu=some u/\y= .val u)\/(∃v,x= .own v/\y= .own v)\/∃ver cs ow Fw Mz,x= .box ver cs ow/\y= .box Fw cs Mz/\∀o∈Mz,o∈ow
theorem BD.HJ:∀(ws:List Nat) (σ:BD) (s:Nat),(σ.clear ws).at s=if s∈ws then .undef else σ.at s
 |[],σ,s=>by simp[BD.clear]
 |t::ws,σ,s=>by
  rw[BD.clear,BD.HJ ws];by_cases h:s∈ws;·simp[h]
  .by_cases h2:s=t
   .subst h2;rw[BD.UN];by_cases hl:s<σ.length;·simp[hl]
    .have:σ.at s= .undef:=by simp[BD.at,List.getD,hl]
     simp[h,hl,this]
   .rw[BD.Fp λe=>h2 e.symm];simp[h,h2]
theorem BD.I8:∀(ws:List Nat) (σ:BD),(σ.clear ws).length=σ.length
 |[],σ=>rfl
 |t::ws,σ=>by rw[BD.clear,BD.I8 ws];simp
section
variable{C:FI}{γ0 γ:Gh}{w0 w:World}{β:Nat->Nat}{σ:BD}{h:Ae}{a:Act}{fid:FuncId}{run:IT->Ae->Option Jn}
theorem OE.rel{B s:Nat}{x y:D6}{v:Value}(hx:Kq γ β B w s x v)(hf:OE x y):Kq γ β B w s y v:=by
 rcases hf with⟨u,hu,rfl⟩|⟨u,rfl,rfl⟩|⟨ver,cs,ow,Fw,Mz,rfl,rfl,Nw⟩
 .exact Ma hx hu
 .exact hx
 .obtain⟨p1,p2,p3,us,e,p4,p5,p6,p7⟩:=hx;exact⟨p1,p2,p3,us,e,p4,p5,p6,λo ho=>p7 o (Nw o ho)⟩
theorem SK{σs:BD}{G:BD->IT}{R:Jn}{vs:List Aa}:∀{l:List (Nat×Sh)} {i:Nat} {σa:BD},Ur σs l=some (vs.drop i)->σa.length=σs.length->IT.step (B5 C) run (ID vs l i σa G) h=some R->
  ∃σh,IT.step (B5 C) run (G σh) h=some R/\σh.length=σa.length/\(∀s,s∉l.map (·.1)->σh.at s=σa.at s)/\(∀s,s∈l.map (·.1)->OE (σs.at s) (σh.at s)/\
   ((∃Fw Gf Mz,σh.at s= .box Fw Gf Mz/\WV (σa.at s)<Fw)\/∀ver cs ow,σs.at s≠ .box ver cs ow))
 |[],i,σa,_,_,hr=>⟨σa,hr,rfl,λ_ _=>rfl,by simp⟩
 |(s,sh)::l,i,σa,hv,hl,hr=>by
  have hd:∃v Hi,vs.drop i=v::Hi/\vs.drop (i+1)=Hi/\vs.getD i .nilIface=v/\Ur σs l=some Hi/\
    (match(generalizing:=false) sh,σs.at s with| .val,x=>x.Gu| .own,.own v=>some v| .box n ow,.box _ cs Mz=>if cs.length=n/\ow.all (Mz.contains ·) then some (.agg cs) else none|_,_=>none)=some v:=by
   unfold Ur at hv;simp only at hv;split at hv
   .rename_i v Hi h1 h2;simp only[BC] at hv;refine⟨v,Hi,hv.symm,?_,?_,h2,h1⟩;·have:=Ce (List.drop 1) hv;simpa[E7] using this.symm
    .have:=Ce (·[0]?) hv;simp only[JM,Cz,Bn] at this;simp[List.getD,<-this]
   .cases hv
  obtain⟨v,Hi,hdr,aJD,Yb,UC,QH⟩:=hd;have hlt:s<σa.length:=by rw[hl];refine BD.NN λe=>?_;rw[e] at QH;cases sh<;>simp[D6.Gu] at QH
  have go:∀(y:D6),OE (σs.at s) y->((∃Fw Gf Mz,y= .box Fw Gf Mz/\WV (σa.at s)<Fw)\/∀ver cs ow,σs.at s≠ .box ver cs ow)->IT.step (B5 C) run (ID vs l (i+1) (σa.set s y) G) h=some R->
    ∃σh,IT.step (B5 C) run (G σh) h=some R/\σh.length=σa.length/\(∀t,t∉((s,sh)::l).map (·.1)->σh.at t=σa.at t)/\(∀t,t∈((s,sh)::l).map (·.1)->OE (σs.at t) (σh.at t)/\
     ((∃Fw Gf Mz,σh.at t= .box Fw Gf Mz/\WV (σa.at t)<Fw)\/∀ver cs ow,σs.at t≠ .box ver cs ow)):=by
   intro y hy hy2 Fy;obtain⟨σh,k1,k2,k3,k4⟩:=SK (l:=l) (i:=i+1) (σa:=σa.set s y) (by rw[aJD];exact UC) (by simpa using hl) Fy;refine⟨σh,k1,by simpa using k2,λt ht=>?_,λt ht=>?_⟩;·simp only[Bl,AM,not_or] at ht;rw[k3 t ht.2,BD.Fp λe=>ht.1 e.symm]
   .by_cases hm:t∈l.map (·.1)
    .obtain⟨q1,q2⟩:=k4 t hm;refine⟨q1,q2.imp (λ⟨Fw,Gf,Mz,e1,e2⟩=>⟨Fw,Gf,Mz,e1,?_⟩) id⟩;by_cases ZC:s=t
     .subst ZC;rw[BD.ET hlt] at e2;rcases hy2 with⟨v1,c1,o1,rfl,h1⟩|hn
      .simp only[WV] at e2;omega
      .rcases q1 with⟨u,_,e⟩|⟨u,_,e⟩|⟨ver,cs,ow,_,_,e,_⟩
       .rw[e1] at e;cases e
       .rw[e1] at e;cases e
       .exact absurd e (hn _ _ _)
     .rwa [BD.Fp ZC] at e2
    .have ZC:t=s:=by simp only[Bl,AM] at ht;exact ht.resolve_right hm
     subst ZC;rw[k3 t hm,BD.ET hlt];exact⟨hy,hy2⟩
  cases sh with
  |val=>
   simp only[ID,Yb] at hr;have wB:(σs.at s).Gu=some v:=by simpa using QH
   refine go (.val v) (.inl ⟨v,wB,rfl⟩) (.inr λver cs ow e=>?_) hr;rw[e] at wB;cases wB
  |own=>
   simp only[ID,Yb] at hr;cases hx:σs.at s with
   |own u=>rw[hx] at QH;cases QH;exact go (.own v) (.inr (.inl ⟨v,hx,rfl⟩)) (.inr λver cs ow e=>by rw[hx] at e;cases e) hr
   |_=>rw[hx] at QH;cases QH
  |box n ow=>
   simp only[ID,Yb,IT.step] at hr;cases hx:σs.at s with
   |box ver cs Mz=>
    rw[hx] at QH;simp only at QH;split at QH
    .rename_i HI;cases QH;split at hr;·rename_i hn;rw[RE hn] at hr;refine go (.box (WV (σa.at s)+1) cs ow) (.inr (.inr ⟨ver,cs,Mz,_,ow,hx,rfl,λo ho=>?_⟩)) (.inl ⟨_,_,_,rfl,tN _⟩) hr;have:=EJ.1 HI.2 o ho;simpa using this
     .cases hr
    .cases QH
   |_=>rw[hx] at QH;cases QH
theorem CS.zi(hr:CS C γ0 w0 γ β σ h a w){τ:BD}(hl:τ.length=σ.length)(hs:∀s,τ.at s= .undef\/τ.at s=σ.at s\/OE (σ.at s) (τ.at s)):CS C γ0 w0 γ β τ h a w:=by
 refine⟨hr.DD,⟨by rw[hl];exact hr.fr.size,λs=>?_⟩,hr.Dw,hr.defers,hr.Gj⟩;have h0:=hr.fr.Hv s;rcases hs s with e|e|e
 .rw[e];trivial
 .rw[e];exact h0
 .exact e.rel h0
structure wC(σ0:BD)(ws:List Nat)(l:List (Nat×Sh))(σ':BD)(vs:List Aa):Prop where
 vec:Ur σ' l=some vs
 len:σ'.length=σ0.length
 same:∀s,s∉l.map (·.1)->σ0.at s= .undef\/σ0.at s=σ'.at s
 box:∀s ver cs ow,σ0.at s= .box ver cs ow->∃Fw Gf Mz,σ'.at s= .box Fw Gf Mz
theorem aL{σ0 σ':BD}{l:List (Nat×Sh)}(hk:eH σ0 σ' l=true){s:Nat}(hs:s∉l.map (·.1)):(∀ver cs ow,σ0.at s= .box ver cs ow->∃Gf Mz,σ'.at s= .box ver Gf Mz)/\(∀t o,σ0.at s= .EG t o->∃t' o',σ'.at s= .EG t' o'):=by
 have hc:(l.map (·.1)).contains s=false:=by
  cases hc:(l.map (·.1)).contains s with
  |false=>rfl
  |true=>exact absurd (by simpa using hc) hs
 have TT:s<σ0.length->(match σ0.at s with
   | .box ver _ _=>(l.map (·.1)).contains s||(match σ'.at s with| .box Fw _ _=>Fw==ver|_=>false)
   | .EG _ _=>(l.map (·.1)).contains s||(match σ'.at s with| .EG _ _=>true|_=>false)
   |_=>true)=true:=λhl=>by
  unfold eH at hk;exact EJ.1 hk s (by simpa using hl)
 constructor
 .intro ver cs ow hx;have:=TT (BD.NN (by rw[hx];simp));rw[hx] at this;simp only[hc,Jg] at this;split at this
  .rename_i Fw Gf Mz hy;have e:Fw=ver:=by simpa using this
   subst e;exact⟨Gf,Mz,hy⟩
  .cases this
 .intro t o hx;have:=TT (BD.NN (by rw[hx];simp));rw[hx] at this;simp only[hc,Jg] at this;split at this;·rename_i t' o' hy;exact⟨t',o',hy⟩
  .cases this
theorem NW{σ0 σh σ':BD}{ws:List Nat}{l:List (Nat×Sh)}{x:EL}{R:Jn}(Tk:IT.step (B5 C) run (RC σ0 l x σ') h=some R)(qN:Gz ws σh σ')(hlen:σh.length=σ0.length)
  (hin:∀s,s∈ws->σ0.at s= .undef) (L8:∀s,s∉l.map (·.1)->σ0.at s= .undef\/σ0.at s=σh.at s) (aJE:∀s ver cs ow,σ0.at s= .box ver cs ow->∃Fw Gf Mz,σh.at s= .box Fw Gf Mz):
  ∃vs,R=(x,vs,h)/\wC σ0 ws l σ' vs:=by
 unfold RC at Tk;split at Tk
 .rename_i hk;split at Tk
  .rename_i vs hv;cases Tk;refine⟨vs,rfl,hv,qN.1.trans hlen,λs hs=>?_,λs ver cs ow hb=>?_⟩
   .by_cases hw:s∈ws;·exact .inl (hin s hw)
    .rcases L8 s hs with e|e
     .exact .inl e
     .right;have Wi:=qN.2 s hw;obtain⟨k1,k2⟩:=aL hk hs;rw[e] at k1 k2⊢;cases hx:σh.at s with
      |box ver cs ow=>rw[hx] at Wi;obtain⟨v1,c1,o1,e1,_,e2⟩:=Wi;obtain⟨c2,o2,e3⟩:=k1 ver cs ow hx;rw[e1] at e3;cases e3;obtain⟨rfl,rfl⟩:=e2 rfl;exact e1.symm
      |EG t o=>
       rw[hx] at Wi;rcases Wi with e1|e1
       .exact e1.symm
       .obtain⟨t',o',e2⟩:=k2 t o hx;rw[e1] at e2;cases e2
      |_=>rw[hx] at Wi;exact(show σ'.at s=_ from Wi).symm
   .have hw:s∉ws:=λhw=>by rw[hin s hw] at hb;cases hb
    obtain⟨v1,c1,o1,e1⟩:=aJE s ver cs ow hb;have Wi:=qN.2 s hw;rw[e1] at Wi;obtain⟨v2,c2,o2,e2,_⟩:=Wi;exact⟨v2,c2,o2,e2⟩
  .cases Tk
 .cases Tk
theorem wC.next{σ0 σ':BD}{ws:List Nat}{l:List (Nat×Sh)}{vs:List Aa}(he:wC σ0 ws l σ' vs){G:BD->IT}{R:Jn}(hr:CS C γ0 w0 γ β σ' h a w)(AU:IT.step (B5 C) run (ID vs l 0 σ0 G) h=some R):
  ∃σh,IT.step (B5 C) run (G σh) h=some R/\CS C γ0 w0 γ β σh h a w/\σh.length=σ0.length/\(∀s,s∉l.map (·.1)->σh.at s=σ0.at s)/\(∀s ver cs ow,σ0.at s= .box ver cs ow->∃Fw Gf Mz,σh.at s= .box Fw Gf Mz/\(s∈l.map (·.1)->ver<Fw)):=by
 obtain⟨σh,k1,k2,k3,k4⟩:=SK (σs:=σ') (by simpa using he.vec) he.len.symm AU;refine⟨σh,k1,hr.zi (k2.trans he.len.symm) λs=>?_,k2,k3,λs ver cs ow hb=>?_⟩
 .by_cases hm:s∈l.map (·.1);·exact .inr (.inr (k4 s hm).1)
  .rw[k3 s hm];rcases he.same s hm with e|e
   .exact .inl e
   .exact .inr (.inl e)
 .by_cases hm:s∈l.map (·.1)
  .obtain⟨_,q⟩:=k4 s hm;obtain⟨v1,c1,o1,e1⟩:=he.box s ver cs ow hb;rcases q with⟨Fw,Gf,Mz,e2,e3⟩|q
   .exact⟨Fw,Gf,Mz,e2,λ_=>by rw[hb] at e3;exact e3⟩
   .exact absurd e1 (q _ _ _)
  .exact⟨ver,cs,ow,by rw[k3 s hm];exact hb,λh=>absurd h hm⟩
theorem NX{σ σ0 σh:BD}{ws W:List Nat}{l:List (Nat×Sh)}(h0:σ0=σ.clear ws)(hv:uK l ws σ=true)(hl:σh.length=σ0.length)(h1:∀s,s∉l.map (·.1)->σh.at s=σ0.at s)
  (h2:∀s ver cs ow,σ0.at s= .box ver cs ow->∃Fw Gf Mz,σh.at s= .box Fw Gf Mz/\(s∈l.map (·.1)->ver<Fw)) (hW:∀s∈ws,s∈W):Gz W σ σh:=by
 refine⟨by rw[hl,h0,BD.I8],λs hs=>?_⟩;have hws:s∉ws:=λhm=>hs (hW s hm);have e0:σ0.at s=σ.at s:=by rw[h0,BD.HJ,if_neg hws]
 by_cases hm:s∈l.map (·.1)
 .obtain⟨p,hp,rfl⟩:=Bk.1 hm;have:=EJ.1 hv p hp;simp only[Bool.or_eq_true,List.contains_iff_mem] at this;rcases this with this|this
  .exact absurd this hws
  .cases hx:σ.at p.1 with
   |box ver cs ow=>obtain⟨v1,c1,o1,e1,e2⟩:=h2 p.1 ver cs ow (by rw[e0];exact hx);have:=e2 hm;exact⟨v1,c1,o1,e1,by omega,λe=>by omega⟩
   |_=>rw[hx] at this;cases this
 .rw[h1 s hm,e0];exact .refl _
theorem ED.le{n m:Nat}(h:ED C (IT.run (B5 C) n))(uj:m<=n):ED C (IT.run (B5 C) m):=⟨h.1,λf args h0 r h' AU=>h.2 f args h0 r h' (IT.Ij uj AU)⟩
theorem wD(hm:C.P.follows .mixedOrders=true):∀(c:Code) (n:Nat),ED C (IT.run (B5 C) n)->∀{K:EL->BD->IT} {R:Jn} {σ:BD} {h:Ae} {a:Act} {w:World} {γ:Gh} {β:Nat->Nat} {Q:Exit->Act->World->Prop},
  IT.step (B5 C) (IT.run (B5 C) n) (Fx C fid c σ K) h=some R->CS C γ0 w0 γ β σ h a w->
  (∀x γ' β' σ' h' a' w',IT.step (B5 C) (IT.run (B5 C) n) (K x σ') h'=some R->Gz (CO c++B0 c) σ σ'->CS C γ0 w0 γ' β' σ' h' a' w'->Q (wA x) a' w')->c.wp C.P Q a w:=by
 intro c;induction c with
 |skip=>intro n hS K R σ h a w γ β Q AU hr hK;exact wp_skip (hK .normal γ β σ h a w AU (.refl _ _) hr)
 |region id ops draw=>
  intro n hS K R σ h a w γ β Q AU hr hK;simp only[Fx] at AU;split at AU;·exact UR hm hS AU hr λγ' β' σ' h' a' w' h1 h2 h3=>hK .normal γ' β' σ' h' a' w' h1 h2 h3
  .rename_i l hl;unfold X2 at AU;simp only at AU;split at AU
   .rename_i hv;simp only[IT.step] at AU;split at AU
    .rename_i x vs h1 US;refine UR hm hS US hr λγ' β' σ' h' a' w' k1 k2 k3=>?_;obtain⟨Hi,e,he⟩:=NW (h:=h') k1 k2 (by rw[BD.I8]) (λs hs=>by rw[BD.HJ,if_pos hs]) (λs _=>by rw[BD.HJ];split<;>simp) (λs ver cs ow hb=>by
      rw[BD.HJ] at hb;split at hb;·cases hb
      .exact⟨ver,cs,ow,hb⟩)
     cases e;obtain⟨σh,p1,p2,p3,p4,p5⟩:=he.next k3 AU;exact hK .normal γ' β' σh h1 a' w' p1 (NX rfl hv p3 p4 p5 (λs hs=>hs)) p2
    .cases AU
   .cases AU
 |seq x y ihx ihy=>
  intro n hS K R σ h a w γ β Q AU hr hK;simp only[Fx] at AU;refine wp_seq (ihx n hS AU hr λe γ' β' σ' h' a' w' h1 h2 h3=>?_);have up:∀σ2,Gz (CO x++B0 x) σ σ2->Gz (CO (.seq x y)++B0 (.seq x y)) σ σ2:=λσ2 ho=>ho.mono λs hs=>by simp only[CO,B0,Ao] at hs⊢;rcases hs with hs|hs<;>simp[hs]
  cases e with
  |normal=>refine ihy n hS h1 h3 λe2 γ2 β2 σ2 Xk a2 w2 k1 k2 k3=>hK e2 γ2 β2 σ2 Xk a2 w2 k1 ((up _ h2).trans (k2.mono λs hs=>?_)) k3;simp only[CO,B0,Ao] at hs⊢;rcases hs with hs|hs<;>simp[hs]
  |exit i=>exact hK (.exit i) γ' β' σ' h' a' w' h1 (up _ h2) h3
  |ret=>exact hK .ret γ' β' σ' h' a' w' h1 (up _ h2) h3
 |cond c x y ihx ihy=>
  intro n hS K R σ h a w γ β Q AU hr hK;have upx:∀{σ1 σ2:BD},Gz (CO x++B0 x) σ1 σ2->Gz (CO (.cond c x y)++B0 (.cond c x y)) σ1 σ2:=λ{σ1 σ2} ho=>ho.mono λs hs=>by cases c<;>simp only[CO,B0,Ao,AM] at hs⊢<;>rcases hs with hs|hs<;>simp[hs]
  have upy:∀{σ1 σ2:BD},Gz (CO y++B0 y) σ1 σ2->Gz (CO (.cond c x y)++B0 (.cond c x y)) σ1 σ2:=λ{σ1 σ2} ho=>ho.mono λs hs=>by cases c<;>simp only[CO,B0,Ao,AM] at hs⊢<;>rcases hs with hs|hs<;>simp[hs]
  simp only[Fx] at AU;split at AU;·rename_i hc;obtain⟨s,h1,_⟩:=Fz hr hc;exact wp_cond_true h1 (ihx n hS AU hr λe γ' β' σ' h' a' w' k1 k2 k3=>hK e γ' β' σ' h' a' w' k1 (upx k2) k3)
  .rename_i hc;obtain⟨s,h1,_⟩:=Fz hr hc;exact wp_cond_false h1 (ihy n hS AU hr λe γ' β' σ' h' a' w' k1 k2 k3=>hK e γ' β' σ' h' a' w' k1 (upy k2) k3)
  .rename_i s v hc;have tv:σ.at s= .val v:=Gl hc;have h0:=hr.fr.Hv s;rw[tv] at h0;have arms:∀{K':EL->BD->IT} {R':Jn} {Q':Exit->Act->World->Prop},IT.step (B5 C) (IT.run (B5 C) n) (.AH v (Fx C fid x (σ.set s (.Nq true)) K') (Fx C fid y (σ.set s (.Nq false)) K')) h=some R'->
     (∀e γ' β' σ' h' a' w',IT.step (B5 C) (IT.run (B5 C) n) (K' e σ') h'=some R'->Gz (CO (.cond (.tmp s) x y)++B0 (.cond (.tmp s) x y)) σ σ'->CS C γ0 w0 γ' β' σ' h' a' w'->Q' (wA e) a' w')->(Code.cond (.tmp s) x y).wp C.P Q' a w:=by
    intro K' R' Q' Ph hK';have qV:∀b:Bool,Gz (CO (.cond (.tmp s) x y)++B0 (.cond (.tmp s) x y)) σ (σ.set s (.Nq b)):=λb=> .set (by simp[B0]);simp only[IT.step] at Ph;split at Ph;·have hv:a.eval (.tmp s)= .bool true:=h0;exact wp_cond_true hv (ihx n hS Ph (hr.ZQ h0) λe γ' β' σ' h' a' w' k1 k2 k3=>hK' e γ' β' σ' h' a' w' k1 ((qV true).trans (upx k2)) k3)
    .have hv:a.eval (.tmp s)= .bool false:=h0;exact wp_cond_false hv (ihy n hS Ph (hr.ZQ h0) λe γ' β' σ' h' a' w' k1 k2 k3=>hK' e γ' β' σ' h' a' w' k1 ((qV false).trans (upy k2)) k3)
    .cases Ph
   split at AU;·exact arms AU hK
   .rename_i l hl;unfold X2 at AU;simp only at AU;split at AU
    .rename_i hv;simp only[IT.step] at AU;split at AU
     .rename_i e vs h1 US;refine arms US λe2 γ' β' σ' h' a' w' k1 k2 k3=>?_;obtain⟨Hi,eq,he⟩:=NW (h:=h') (ws:=s::(CO x++CO y++B0 x++B0 y)) k1 (k2.mono λt ht=>by
        simp only[CO,B0,Ao,AM] at ht⊢;rcases ht with(ht|ht)|ht|ht|ht<;>simp[ht]) (by rw[BD.I8]) (λt ht=>by rw[BD.HJ,if_pos ht]) (λt _=>by rw[BD.HJ];split<;>simp) (λt ver cs ow hb=>by
       rw[BD.HJ] at hb;split at hb;·cases hb
       .exact⟨ver,cs,ow,hb⟩)
      cases eq;obtain⟨σh,p1,p2,p3,p4,p5⟩:=he.next k3 AU;exact hK e γ' β' σh h1 a' w' p1 (NX rfl hv p3 p4 p5 (λt ht=>by simp only[CO,B0,Ao,AM] at ht⊢;rcases ht with ht|((ht|ht)|ht)|ht<;>simp[ht])) p2
     .cases AU
    .cases AU
  .cases AU
 |block id b ih=>
  intro n hS K R σ h a w γ β Q AU hr hK;simp only[Fx] at AU;refine wp_block (ih n hS AU hr λe γ' β' σ' h' a' w' h1 h2 h3=>?_);cases e with
  |normal=>exact hK .normal γ' β' σ' h' a' w' h1 h2 h3
  |exit i=>
   simp only at h1;show if i=id then Q .normal a' w' else Q (.exit i) a' w'
   by_cases hi:i=id;·rw[if_pos hi] at h1⊢;exact hK .normal γ' β' σ' h' a' w' h1 h2 h3
   .rw[if_neg hi] at h1⊢;exact hK (.exit i) γ' β' σ' h' a' w' h1 h2 h3
  |ret=>exact hK .ret γ' β' σ' h' a' w' h1 h2 h3
 |loop b ih=>
  intro n hS K R σ h a w γ β Q AU hr hK;simp only[Fx] at AU;generalize hl:C.xy fid ((FZ b).getD 0)=l at AU;generalize aO3:(FZ b).getD 0=key at AU;generalize h0:σ.clear (CO b++B0 b)=σ0 at AU;split at AU
  .rename_i hv;split at AU;·cases AU
   .rename_i init aDP;have aDQ:σ0.length=σ.length:=by rw[<-h0,BD.I8]
    have hin:∀s,s∈CO b++B0 b->σ0.at s= .undef:=λs hs=>by rw[<-h0,BD.HJ,if_pos hs]
    refine Yh (λm a w=>∃γ β σ1 h vs,CS C γ0 w0 γ β σ1 h a w/\wC σ0 (CO b++B0 b) l σ1 vs/\m<=n+1/\
     IT.run (B5 C) m (.loop key vs (λvs=>ID vs l 0 σ0 λσh=>Fx C fid b σh λx σ'=>RC σ0 l x σ') λx vs=>ID vs l 0 σ0 λσ'=>tl K x σ') h=some R) ?_ (n+1) a w
     ⟨γ,β,σ,h,init,hr,⟨aDP,aDQ.symm,λs _=>by rw[<-h0,BD.HJ];split<;>simp,λs ver cs ow hb=>by
      rw[<-h0,BD.HJ] at hb;split at hb;·cases hb
      .exact⟨ver,cs,ow,hb⟩⟩,Ac _,AU⟩
    rintro m a1 w1 ⟨γ1,β1,σ1,h1,vs,Jq,he1,uj,If⟩;cases m with
    |zero=>simp[IT.run] at If
    |succ m=>
     simp only[IT.run,IT.step] at If;have body:∀{x:EL} {Hi:List Aa} {h':Ae},IT.step (B5 C) (IT.run (B5 C) m) (ID vs l 0 σ0 λσh=>Fx C fid b σh λx σ'=>RC σ0 l x σ') h1=some (x,Hi,h')->∀{Q':Exit->Act->World->Prop},
       (∀γ' β' σ' a' w',CS C γ0 w0 γ' β' σ' h' a' w'->wC σ0 (CO b++B0 b) l σ' Hi->Q' (wA x) a' w')->b.wp C.P Q' a1 w1:=by
      intro x Hi h' hb Q' hQ';obtain⟨σh,p1,p2,p3,p4,p5⟩:=he1.next Jq hb;refine ih m (hS.le (by omega)) p1 p2 λy γ' β' σ' h2 a' w' k1 k2 k3=>?_;obtain⟨vs2,eq,he⟩:=NW k1 k2 p3 hin (λs hs=> .inr (p4 s hs).symm) λs ver cs ow hb=>by obtain⟨v1,c1,o1,e1,_⟩:=p5 s ver cs ow hb;exact⟨v1,c1,o1,e1⟩
      cases eq;exact hQ' γ' β' σ' a' w' k3 he
     split at If;·rename_i Hi h' hb;exact body hb λγ' β' σ' a' w' Fy O1=>⟨m,tN m,γ',β',σ',h',Hi,Fy,O1,by omega,If⟩
     .rename_i x Hi h' hne hb;refine body hb λγ' β' σ' a' w' Fy O1=>?_;have SJ:=IT.Jw (λt h r=>IT.Ij (fn:=B5 C) (show m<=n by omega)) _ _ _ If;obtain⟨σh,p1,p2,p3,p4,p5⟩:=O1.next Fy SJ;have ho:=NX h0.symm hv p3 p4 p5 λs hs=>hs;cases x with
      |normal=>exact absurd rfl hne
      |exit i=>exact hK _ γ' β' σh h' a' w' p1 ho p2
      |ret=>exact hK _ γ' β' σh h' a' w' p1 ho p2
     .cases If
  .cases AU
 |exit id=>intro n hS K R σ h a w γ β Q AU hr hK;exact wp_exit (hK (.exit id) γ β σ h a w AU (.refl _ _) hr)
 |ret=>intro n hS K R σ h a w γ β Q AU hr hK;exact wp_ret (hK .ret γ β σ h a w AU (.refl _ _) hr)
 |label l=>intro n hS K R σ h a w γ β Q AU hr hK;exact wp_label (hK .normal γ β σ h a w AU (.refl _ _) hr)
 |scope b ih=>
  intro n hS K R σ h a w γ β Q AU hr hK;simp only[Fx] at AU;refine wp_scope_straight (ih n hS AU hr λe γ' β' σ' h' a' w' h1 h2 h3=>?_);cases e with
  |normal=>exact hK .normal γ' β' σ' h' a' w' h1 h2 h3
  |exit i=>exact hK (.exit i) γ' β' σ' h' a' w' h1 h2 h3
  |ret=>exact hK .ret γ' β' σ' h' a' w' h1 h2 h3
 |_=>intros n hS K R σ h a w γ β Q AU hr hK;cases AU
end
end Go.Am
end
section
namespace Go.Am
open Go
section
variable{C:FI}{γ0 γ:Gh}{w0 w:World}{β:Nat->Nat}{σ:BD}{h:Ae}{a:Act}{fid:FuncId}{run:IT->Ae->Option Jn}
def HK(tmps:Array Value):ResultVar->Sem Value
 | .tmp t=>pure (tmps.getD t undef)
 | .cell a t=>do loadVar t (<-asAddr (tmps.getD a undef))
theorem QI{P:Program}{t:TypeId}{b o:Nat}{v:Value}(h:(Instr.loadAt t (.pointer (some ⟨b,o,none⟩))).run P w= .ok v w):(loadVar t ⟨b,o,none⟩).run P w= .ok v w:=by simpa[Instr.loadAt,Instr.sureAddr] using h
theorem SL{K:List Aa->IT}{R:Jn}:∀{rs:List ResultVar} {Dw:List Aa},IT.step (B5 C) run (FT C σ rs Dw K) h=some R->CS C γ0 w0 γ β σ h a w->
  ∃vs us,(rs.mapM (HK a.tmps)).run C.P w= .ok us w/\A8 γ vs us/\IT.step (B5 C) run (K (Dw.reverse++vs)) h=some R
 |[],Dw,AU,hr=>⟨[],[],by simp,rfl,by simpa[FT] using AU⟩
 |rv::rs,Dw,AU,hr=>by
  have one:∀(v:Aa) (u:Value),(HK a.tmps rv).run C.P w= .ok u w->BF γ v u->IT.step (B5 C) run (FT C σ rs (v::Dw) K) h=some R->
    ∃vs us,((rv::rs).mapM (HK a.tmps)).run C.P w= .ok us w/\A8 γ vs us/\IT.step (B5 C) run (K (Dw.reverse++vs)) h=some R:=by
   intro v u h1 h2 h3;obtain⟨vs,us,k1,k2,k3⟩:=SL h3 hr;refine⟨v::vs,u::us,?_,⟨u,us,rfl,h2,k2⟩,by simpa using k3⟩;simp[List.mapM_cons,h1,k1]
  cases rv with
  |tmp t=>
   simp only[FT] at AU;split at AU;·rename_i v hv;exact one v _ (by simp[HK]) (Ma (hr.fr.Hv t) hv) AU
   .cases AU
  |cell p t=>
   have zj:∀(b o:Nat) (v:Aa),a.tmps.getD p undef= .pointer (some ⟨b,o,none⟩)->(∃u,(Instr.loadAt t (.pointer (some ⟨b,o,none⟩))).run C.P w= .ok u w/\BF γ v u)->IT.step (B5 C) run (FT C σ rs (v::Dw) K) h=some R->
     ∃vs us,((ResultVar.cell p t::rs).mapM (HK a.tmps)).run C.P w= .ok us w/\A8 γ vs us/\IT.step (B5 C) run (K (Dw.reverse++vs)) h=some R:=by
    intro b o v hp ⟨u,h1,h2⟩ h3;refine one v u ?_ h2 h3;simp only[HK,hp,asAddr,Sem.run_bind,Sem.run_pure,Result.andThen_ok];exact QI h1
   simp only[FT] at AU;split at AU
   .rename_i s off ver cs ow ht ha;split at AU;·rename_i hlt;obtain⟨hs,hx⟩:=J3 hr ha;obtain⟨u,q1,q2,_⟩:=JQ hr ht hs (r:=cs.getD off .nilIface) (off:=off) (by simp[EO,List.getD,Af hlt]);exact zj _ _ _ hx ⟨u,q1,q2⟩ AU
    .cases AU
   .rename_i n s off ver cs ow ht ha;split at AU;·rename_i DW;obtain⟨hs,hx⟩:=J3 hr ha;obtain⟨u,q1,q2,_⟩:=JQ hr ht hs (r:= .agg ((cs.drop off).take n)) (off:=off) (by simp[EO,DW]);exact zj _ _ _ hx ⟨u,q1,q2⟩ AU
    .cases AU
   .rename_i n p' ht ha;simp only[IT.step] at AU;split at AU
    .rename_i v hv;have kS:=PL hr ha;unfold Bb at hv;split at hv;·rename_i cs;obtain⟨b,k,fB,hm⟩:=kS;obtain⟨us,p1,p2⟩:=hm.values;exact zj b k v fB (HH (w:=w) ht p1 (λj u hj=>(hr.DD.HA _ _ _ (p2 j u hj)).1) (λu hu=>by obtain⟨j,hj⟩:=CT hu;exact(hr.DD.HA _ _ _ (p2 j u hj)).2.1) hv) AU
     .rename_i id off;obtain⟨b,hb,fB⟩:=kS;split at hv
      .rename_i cs hcs;obtain⟨us,e,fr,p1,pf,p2,p3⟩:=hr.DD.cells id cs hcs b hb;refine zj b off v fB (HH (w:=w) (b:=b) (o:=off) ht (p2.drop off) (λj u hj=>?_) (λu hu=>p3 u (Bw hu)) (NR hv)) AU;rw[cell_of_row w _ _ us e fr p1];rw[Cz,Cg] at hj;split at hj;·simpa using hj
       .cases hj
      .cases hv
     .cases hv
    .cases AU
   .cases AU
theorem CS.Hu(hr:CS C γ0 w0 γ β σ h a w){p:Aa}{off:Nat}{u:Value}{h':Ae}(hp:BF γ p u)(hf:KV h off p=some h'):∃γ',CS C γ0 w0 γ' β σ h' a w:=by
 unfold KV at hf;split at hf;·cases hf;exact⟨γ,hr⟩
 .rename_i id o0;generalize o0+off=o at hf;obtain⟨b,hb,_⟩:=hp;split at hf
  .rename_i cs hcs;split at hf
   .rename_i v hv;obtain⟨us,e,fr,p1,pf,p2,p3⟩:=hr.DD.cells id cs hcs b hb;obtain⟨x,hx,yq⟩:=p2.get hv;cases hq:Kn h v with
    |none=>rw[hq] at hf;cases hf
    |some q=>
     obtain⟨h1,v'⟩:=q;rw[hq] at hf;simp only[Cs] at hf;split at hf
     .rename_i Gf aDR;cases hf;obtain⟨γ1,DW,Jq,ez⟩:=hr.KU yq hq;have Tl:=DW.mu _ _ hb;obtain⟨us1,e1,fr1,r1,rf,r2,r3⟩:=Jq.DD.cells id Gf aDR b Tl;rw[p1] at r1;cases r1;have qV:A8 γ1 (Gf.set o v') (us.toList.take (Gf.set o v').length):=by
       rw[Bj];refine A8.Gk (by simp[r2.length]) λi y z hy hz=>?_;by_cases hi:o=i
       .subst hi;by_cases hlt:o<Gf.length
        .rw[AN hlt] at hy;cases hy;have hxz:x=z:=by rw[C9 hlt] at hz;have aJG:o<cs.length:=(Ah.1 hv).1;rw[C9 aJG] at hx;rw[hx] at hz;exact EC hz
         rw[<-hxz];exact ez
        .rw[E1 (by simpa using hlt)] at hy;cases hy
       .rw[Aj hi] at hy;obtain⟨z',ZB,hyz⟩:=r2.get hy;rw[hz] at ZB;cases ZB;exact hyz
      obtain⟨TR,Nv⟩:=L7 Jq.DD aDR Tl p1 us (Gf.set o v') rfl rf qV (by rw[Bj];exact r3);rw[setRow_self w b us e fr p1] at TR Nv;exact⟨γ1,Jq.world TR Nv⟩
     .cases hf
   .cases hf
  .cases hf
 .cases hf
theorem lA{t:IT}{R:Jn}:∀{l:List (Nat×Nat)} {γ:Gh} {h:Ae},IT.step (B5 C) run (kM C σ l t) h=some R->CS C γ0 w0 γ β σ h a w->∃γ' h',CS C γ0 w0 γ' β σ h' a w/\IT.step (B5 C) run t h'=some R
 |[],γ,h,AU,hr=>⟨γ,h,hr,AU⟩
 |(s,off)::l,γ,h,AU,hr=>by
  simp only[kM] at AU;split at AU
  .rename_i p hp;simp only[IT.step] at AU;split at AU;·rename_i h1 hf;obtain⟨γ1,Jq⟩:=hr.Hu (Ma (hr.fr.Hv s) hp) hf;exact lA AU Jq
   .cases AU
  .cases AU
theorem UT{R:Jn}:∀{vs Dw:List Aa} {γ:Gh} {h:Ae} {us tR:List Value},IT.step (B5 C) run (NL vs Dw Sv) h=some R->CS C γ0 w0 γ β σ h a w->A8 γ vs us->A8 γ Dw.reverse tR->
  ∃γ' h' Hi,CS C γ0 w0 γ' β σ h' a w/\A8 γ' Hi (tR++us)/\IT.step (B5 C) run (Sv Hi) h'=some R
 |[],Dw,γ,h,us,tR,AU,hr,h1,h2=>by rw[show us=[] from h1,BB];exact⟨γ,h,Dw.reverse,hr,h2,AU⟩
 |v::vs,Dw,γ,h,us,tR,AU,hr,h1,h2=>by
  obtain⟨u,Dk,rfl,hv,h1⟩:=h1;simp only[NL,IT.step] at AU;split at AU
  .rename_i h3 v' hf;obtain⟨γ1,DW,Jq,ez⟩:=hr.KU hv hf;have h4:A8 γ1 (v'::Dw).reverse (tR++[u]):=by rw[FQ];exact(A8.mono DW _ _ h2).append ⟨u,[],rfl,ez,rfl⟩
   obtain⟨γ2,h5,vs2,q1,q2,q3⟩:=UT AU Jq (A8.mono DW _ _ h1) h4;exact⟨γ2,h5,vs2,q1,by rwa [AB] at q2,q3⟩
  .cases AU
theorem lB{R:Jn}{vs:List Aa}{us:List Value}{γ:Gh}{h:Ae}(AU:IT.step (B5 C) run (Sv vs) h=some R)(hv:A8 γ vs us):
  ∃r,R=(.ret,[r],h)/\BF γ r (if hh:us.toArray.size=1 then us.toArray[0] else .tuple us.toArray):=by
 unfold Sv at AU;split at AU;·rename_i v;obtain⟨u,Dk,rfl,hvu,hnil⟩:=hv;rw[show Dk=[] from hnil];simp only[IT.step] at AU;cases AU;exact⟨v,rfl,by simpa using hvu⟩
 .rename_i hne;simp only[IT.step] at AU;cases AU;have hlen:us.length≠1:=λe=>by have:=hv.length;rw[e] at this;obtain⟨v,hv⟩:=List.length_eq_one_iff.1 this.symm;exact hne v hv
  refine⟨_,rfl,?_⟩;rw[dif_neg (by simpa using hlen)];exact⟨us.toArray,rfl,by simpa using hv⟩
theorem SM{fn:Func}{tmps:Array Value}{us:List Value}(h:(fn.results.toList.mapM (HK tmps)).run C.P w= .ok us w):(results fn tmps).run C.P w= .ok (if hh:us.toArray.size=1 then us.toArray[0] else .tuple us.toArray) w:=by
 have e:fn.results.mapM (HK tmps)=(do let l<-fn.results.toList.mapM (HK tmps);pure l.toArray:Sem (Array Value)):=by rw[Array.mapM_eq_mapM_toList];simp
 have e2:results fn tmps=(do let vs<-fn.results.mapM (HK tmps);pure (if hh:vs.size=1 then vs[0] else .tuple vs):Sem Value):=by unfold results;congr 2
 rw[e2,e];simp only[Sem.run_bind,h,Result.andThen_ok,Sem.run_pure]
theorem fx{fn:Func}{R:Jn}(AU:IT.step (B5 C) run (ZP C fid fn σ) h=some R)(hr:CS C γ0 w0 γ β σ h a w):
  ∃r h' v γ',R=(.ret,[r],h')/\(results fn a.tmps).run C.P w= .ok v w/\Gs γ' h' w/\J1 γ0 w0 γ' w/\BF γ' r v/\(C.Ii fid=true->∃s c,HU γ' w0.heap.size w s c v r):=by
 unfold ZP at AU;split at AU;·cases AU
 .rename_i E2;obtain⟨γ1,h1,Jq,If⟩:=lA AU hr;by_cases ho:C.Ii fid=true
  .have zk:∃t x,fn.results.toList=[.tmp t]/\σ.at t= .own x:=by
    have:Oy σ fn.results.toList=true:=by
     cases hq:Oy σ fn.results.toList with
     |true=>rfl
     |false=>exact absurd (by simp[ho,hq]) E2
    unfold Oy at this;split at this
    .rename_i t Ji;split at this;·rename_i x hx;exact⟨t,x,Ji,hx⟩
     .cases this
    .cases this
   obtain⟨t,x,hrs,hx⟩:=zk;have h0:=Jq.fr.Hv t;rw[hx] at h0;have fy:=SM (C:=C) (w:=w) (fn:=fn) (tmps:=a.tmps) (us:=[a.tmps.getD t undef]) (by rw[hrs];simp[HK]);rw[hrs] at If;simp only[FT,hx,D6.Gu,FQ,List.reverse_nil,BH] at If;have aDS:Kn h1 x=some (h1,x):=by rcases h0.2 with rfl|⟨_,_,_,_,_,_,_,rfl,_⟩<;>rfl
   have hR:R=(.ret,[x],h1):=by
    split at If;·simp only[NL,IT.step,aDS,FQ,List.reverse_nil,BH,Sv] at If;cases If;rfl
    .simp only[IT.step,Sv] at If;cases If;rfl
   exact⟨x,h1,_,γ1,hR,by simpa using fy,Jq.DD,Jq.Dw,h0.1,λ_=>⟨t,none,h0.2⟩⟩
  .obtain⟨vs,us,k1,k2,SJ⟩:=SL If Jq;simp only[List.reverse_nil,BH] at SJ;have fy:=SM (C:=C) k1;split at SJ;·obtain⟨γ2,h2,vs2,q1,q2,q3⟩:=UT SJ Jq k2 (tR:=[]) rfl;rw[BH] at q2;obtain⟨r,hR,hrv⟩:=lB q3 q2;exact⟨r,h2,_,γ2,hR,fy,q1.DD,q1.Dw,hrv,λe=>absurd e ho⟩
   .obtain⟨r,hR,hrv⟩:=lB SJ k2;exact⟨r,h1,_,γ1,hR,fy,Jq.DD,Jq.Dw,hrv,λe=>absurd e ho⟩
theorem CS.start{γ:Gh}{h:Ae}{w:World}(hi:Gs γ h w)(hg:∀g cs,C.Gj g=some cs->CI γ cs g 0){args:List Aa}{cargs:Array Value}(ha:A8 γ args cargs.toList)(n:Nat)(β:Nat->Nat):
  CS C γ w γ β (args.map .val++List.replicate (n-args.length) .undef) h {tmps:=cargs++Array.replicate (n-cargs.size) undef,defers:=[]} w:=by
 have hlen:cargs.size=args.length:=by have:=ha.length;simpa using this
 refine⟨hi,⟨by simp[hlen],λs=>?_⟩,J1.refl γ w,rfl,hg⟩;by_cases hs:s<args.length
 .have h1:BD.at (args.map .val++List.replicate (n-args.length) .undef) s= .val args[s]:=by simp[BD.at,List.getD,Ad,hs]
  obtain⟨u,hu,hr⟩:=ha.get (Af hs);have h2:(cargs++Array.replicate (n-cargs.size) undef).getD s undef=u:=by
   rw[Lo,Array.getElem?_append_left (by omega)];have:cargs[s]?=some u:=by simpa using hu
   rw[this];rfl
  rw[h1,h2];exact hr
 .have h1:BD.at (args.map .val++List.replicate (n-args.length) .undef) s= .undef:=by
   have hm:(args.map D6.val).length=args.length:=by simp
   simp only[BD.at,List.getD];rw[Bg (by omega),List.getElem?_replicate];split<;>rfl
  rw[h1];trivial
def Yj(C:FI):Prop:=
 (∀f,C.L2 f=true->vF C f)/\∀(f:FuncId) (p:List Aa->IT),C.xz f=some p->∀n,ED C (IT.run (B5 C) n)->∀(args:List Aa) (h:Ae) (r:Aa) (h':Ae),IT.step (B5 C) (IT.run (B5 C) n) (p args) h=some (.ret,[r],h')->
  (∃fn c,C.P.funcs[D7 f]?=some fn/\(fn.name== "runtime.NumGoroutine")=false/\fn.body=some c)/\
  ∀(γ:Gh) (w:World) (cargs:Array Value),Gs γ h w->(∀g cs,C.Gj g=some cs->CI γ cs g 0)->A8 γ args cargs.toList->
   Calls C.P (D7 f) cargs w λe w'=>match e with
    | .returned v=>∃γ',Gs γ' h' w'/\J1 γ w γ' w'/\BF γ' r v/\(C.Ii f=true->∃s c,HU γ' w.heap.size w' s c v r)
    |_=>False
theorem aM(hm:C.P.follows .mixedOrders=true)(wE:∀g cs,C.Gj g=some cs->cs.all Aa.Lp=true)(uk:Yj C):∀n,ED C (IT.run (B5 C) n)
 |0=>⟨⟨wE,uk.1⟩,λf args h r h' AU=>by simp[IT.run] at AU⟩
 |n+1=>⟨⟨wE,uk.1⟩,λf args h r h' AU=>by
  have ih:=aM hm wE uk n;simp only[IT.run] at AU;unfold B5 at AU;split at AU;·rename_i p hp;exact uk.2 f p hp n ih args h r h' AU
  unfold aDl at AU;split at AU
  .rename_i fn hf;split at AU;·cases AU
   .rename_i hname;unfold uL at AU;split at AU;·cases AU
    .rename_i c hb;refine⟨⟨fn,c,hf,by simpa using hname,hb⟩,λγ w cargs hi hg ha=>calls_of_wp hf hb ?_⟩;refine wD (C:=C) (fid:=f) hm c n ih AU (CS.start hi hg ha fn.ntmps (λ_=>0)) λx γ' β' σ' h1 a' w' k1 _ k3=>?_;have Hy:IT.step (B5 C) (IT.run (B5 C) n) (ZP C f fn σ') h1=some (.ret,[r],h')->a'.defers=[]/\∃v,(results fn a'.tmps).run C.P w'= .ok v w'/\∃γ'',Gs γ'' h' w'/\J1 γ w γ'' w'/\BF γ'' r v/\(C.Ii f=true->∃s c,HU γ'' w.heap.size w' s c v r):=λaJI=>by obtain⟨r',h2,v,γ'',e,p1,p2,p3,p4,p5⟩:=fx aJI k3;cases e;exact⟨k3.defers,v,p1,γ'',p2,p3,p4,p5⟩
     cases x with
     |normal=>exact Hy k1
     |ret=>exact Hy k1
     |exit i=>cases k1
  .cases AU⟩
end
theorem Ev.calls{C:FI}(hm:C.P.follows .mixedOrders=true)(wE:∀g cs,C.Gj g=some cs->cs.all Aa.Lp=true)(uk:Yj C){f:FuncId}{args:List Aa}{h:Ae}{Q:Aa->Ae->Prop}(Ik:Ev C f args h Q){γ:Gh}{w:World}{cargs:Array Value}(hi:Gs γ h w)(hg:∀g cs,C.Gj g=some cs->CI γ cs g 0)(ha:A8 γ args cargs.toList):
  Calls C.P (D7 f) cargs w λe w'=>match e with
   | .returned v=>∃r h' γ',Q r h'/\Gs γ' h' w'/\J1 γ w γ' w'/\BF γ' r v
   |_=>False:=by
 obtain⟨n,x,vs,h',AU,rfl,r,rfl,hQ⟩:=Ik;refine(((aM hm wE uk n).2 f args h r h' AU).2 γ w cargs hi hg ha).mono λe w' he=>?_;cases e with
 |returned v=>obtain⟨γ',p1,p2,p3,_⟩:=he;exact⟨r,h',γ',hQ,p1,p2,p3⟩
 |_=>exact he
end Go.Am
end
section
namespace Go.Am
open Go
inductive Ty where
 |bool
 |int (k:IntKind)
 |str
 |sl (e:Ty)
 |st (fs:List Ty)
 deriving Inhabited
mutual
def Ty.size:Ty->Nat
 | .bool| .int _| .str| .sl _=>1
 | .st fs=>Ty.Lx fs
def Ty.Lx:List Ty->Nat
 |[]=>0
 |t::ts=>Ty.size t+Ty.Lx ts
end
mutual
def PO(P:Program):Ty->TypeId->Bool
 | .bool,t=>match P.underlying t with|some .bool=>true|_=>false
 | .int k,t=>match P.underlying t with|some (.int k')=>decide (k'=k)|_=>false
 | .str,t=>match P.underlying t with|some .string=>true|_=>false
 | .sl e,t=>match P.underlying t with
  |some (.slice e')=>P.cellsOf e'==Ty.size e&&decide (0<Ty.size e)&&PO P e e'
  |_=>false
 | .st fs,t=>match P.underlying t with
  |some (.struct fields)=>P.cellsOf t==Ty.Lx fs&&NY P fs fields.toList 0
  |_=>false
def NY(P:Program):List Ty->List Field->Nat->Bool
 |[],[],_=>true
 |ty::Rr,f::fs,off=>f.offset==off&&P.cellsOf f.type==Ty.size ty&&PO P ty f.type&&NY P Rr fs (off+Ty.size ty)
 |_,_,_=>false
end
mutual
def Yk:Ty->List Aa->Prop
 | .bool,l=>∃b,l=[.bool b]
 | .int k,l=>∃n,l=[.int k n]/\(Lit.int k n).wf=true
 | .str,l=>∃s:As,l=[.str s]/\s.length<=maxLen
 | .sl e,l=>l=[.slnil]\/∃Au:List (List Aa),l=[.sl (Ty.size e) Au]/\Au.length<=maxLen/\∀r∈Au,Yk e r
 | .st fs,l=>q6 fs l
def q6:List Ty->List Aa->Prop
 |[],l=>l=[]
 |ty::Rr,l=>∃a b,l=a++b/\Yk ty a/\q6 Rr b
end
def Ty.zl:Ty->Bool
 | .st _=>true
 |_=>false
def fR(ty:Ty)(a:Aa):Prop:=if ty.zl then∃cs,a= .agg cs/\Yk ty cs else Yk ty [a]
def TU:List Ty->List Aa->Prop
 |[],l=>l=[]
 |ty::Rr,l=>∃a b,l=a::b/\fR ty a/\TU Rr b
def FA(W:World):Gh:={HA:=λb o=>(W.cell? ⟨b,o,none⟩).filter (·.oneCell'),mu:=λ_=>none,own:=λ_=>none,sz:=λ_=>none}
theorem wF(W:World):Gs (FA W) [] W:=by refine⟨λb o v h=>?_,λid x h=>by simp at h,λid cs h=>by simp at h,λid es h=>by simp at h,λid b h=>(by cases h),λb x h=>(by cases h),λb n h=>(by cases h)⟩;simp only[FA,Option.filter_eq_some_iff] at h;exact⟨h.1,h.2,.inl rfl⟩
theorem RJ{W:World}{b o:Nat}{v:Value}(h:W.cell? ⟨b,o,none⟩=some v)(h1:v.oneCell'=true):(FA W).HA b o=some v:=by simp[FA,h,h1,Option.filter]
theorem SN{α:Type}{p:Nat->α->Prop}:∀(n:Nat),(∀i,i<n->∃x,p i x)->∃l:List α,l.length=n/\∀i x,l[i]?=some x->p i x
 |0,_=>⟨[],rfl,by simp⟩
 |n+1,h=>by
  obtain⟨l,hl,hp⟩:=SN n λi hi=>h i (by omega);obtain⟨x,hx⟩:=h n (by omega);refine⟨l++[x],by simp[hl],λi y hy=>?_⟩;rw[List.getElem?_append] at hy;split at hy;·exact hp i y hy
  .have:i-l.length=0:=by
    rcases Ou (i-l.length) with h0|h0
    .exact h0
    .rw[E1 (by simp;omega)] at hy;cases hy
   rw[this] at hy;simp at hy;subst hy;have:i=n:=by omega
   rw[this];exact hx
section
variable{H:Type}{enc:TypeId×Value->H}{P:Program}{W:World}
theorem Pj{a:Addr}{n:Nat}{cs:List Value}(h:W.cells? 0 a n=some cs)(hn:0<n):a.spot=none:=by
 obtain⟨_,hl,hc⟩:=World.cells?_some h;have h0:=hc 0 hn;have hlt:0<cs.length:=by omega
 rw[Af hlt] at h0;unfold World.cell? at h0;have ha:a.add 0=a:=by simp[Addr.add]
 rw[ha] at h0;split at h0
 .split at h0;·cases h0
  .rename_i hs;simpa using hs
 .cases h0
mutual
theorem Yl:∀(ty:Ty) {t:TypeId} {fuel:Nat} {cs:List Value} {x:DataW H×List MemPlace},PO P ty t=true->DataW.trod enc P W 0 (λ_=>true) true fuel t cs=some x->
  ∃as,Yk ty as/\A8 (FA W) as cs/\(∀u∈cs,u.oneCell'=true)/\as.length=Ty.size ty
 | .bool,t,fuel,cs,x,hok,h=>by
  unfold PO at hok;split at hok;·rename_i ht;obtain⟨b,rfl,_⟩:=DataW.trod_bool ht h;exact⟨[.bool b],⟨b,rfl⟩,⟨_,[],rfl,rfl,rfl⟩,by simp[Value.oneCell'],rfl⟩
  .cases hok
 | .int k,t,fuel,cs,x,hok,h=>by
  unfold PO at hok;split at hok
  .rename_i k' ht;have hk:k'=k:=by simpa using hok
   subst hk;obtain⟨n,rfl,_,hw⟩:=DataW.trod_int ht h;exact⟨[.int k' n],⟨n,rfl,hw⟩,⟨_,[],rfl,rfl,rfl⟩,by simp[Value.oneCell'],rfl⟩
  .cases hok
 | .str,t,fuel,cs,x,hok,h=>by
  unfold PO at hok;split at hok
  .rename_i ht;obtain⟨s,rfl,_,hs⟩:=DataW.trod_string ht h;refine⟨[.str s.data.toList],⟨_,rfl,by
    have e:s.data.toList.length=s.size:=by rw[Ch];rfl
    rw[e];exact hs⟩,⟨_,[],rfl,?_,rfl⟩,by simp[Value.oneCell'],rfl⟩
   show Value.string s= .string ⟨⟨s.data.toList⟩⟩;congr 1
  .cases hok
 | .sl e,t,fuel,cs,x,hok,h=>by
  unfold PO at hok;split at hok
  .rename_i e' ht;simp only[BK,beq_iff_eq,DI] at hok;obtain⟨⟨hce,hpos⟩,aJJ⟩:=hok;rcases DataW.trod_slice ht h with⟨rfl,_⟩|⟨a,len,cap,elems,rest,n,_,rfl,_,_,hl,hm,hlen,hel,hsp,_⟩
   .exact⟨[.slnil],.inl rfl,⟨_,[],rfl,rfl,rfl⟩,by simp[Value.oneCell'],rfl⟩
   .have spot:0<cap->a.spot=none:=λhc=>by
     have ha:a.add 0=a:=by simp[Addr.add]
     rcases Ou len with h0|h0
     .obtain⟨Jq,K0⟩:=hsp rfl;have:=K0 0 (by omega);rw[Af (show 0<rest.length by omega)] at this;have zm:(len+0)*P.cellsOf e'=0:=by rw[h0];simp
      rw[zm,ha] at this;obtain⟨vs,hv,_⟩:=Option.bind_eq_some_iff.1 this;exact Pj hv (by omega)
     .have:=hel 0 h0;rw[Af (show 0<elems.length by omega)] at this;rw[cz,ha] at this;obtain⟨vs,hv,_⟩:=Option.bind_eq_some_iff.1 this;exact Pj hv (by omega)
    obtain⟨Au,dV,aD⟩:=SN (p:=λi (r:List Aa)=>Yk e r/\r.length=Ty.size e/\CI (FA W) r a.block (a.off+i*Ty.size e)) len λi hi=>by
     have:=hel i hi;rw[Af (show i<elems.length by omega)] at this;obtain⟨vs,hv,hd⟩:=Option.bind_eq_some_iff.1 this;obtain⟨r,p1,p2,p3,p4⟩:=Yl e aJJ hd;refine⟨r,p1,p4,CI.Gk λj y hj=>?_⟩;obtain⟨u,hu,hyu⟩:=p2.get hj;obtain⟨_,hvl,hvc⟩:=World.cells?_some hv;have fE:j<P.cellsOf e':=by have:=(Ah.1 hu).1;omega
     have hc:=hvc j fE;rw[hu] at hc;have eR:a=⟨a.block,a.off,none⟩:=by have:=spot (by omega);cases a;simp_all
     have Mb:(a.add (i*P.cellsOf e')).add j=⟨a.block,a.off+i*Ty.size e+j,none⟩:=by rw[hce];generalize a.block=b at*;generalize a.off=o at*;subst eR;rw[Addr.add_lit,Addr.add_lit]
     rw[Mb] at hc;exact⟨u,RJ hc (p3 u (CD hu)),hyu⟩
    refine⟨[.sl (Ty.size e) Au],.inr ⟨Au,rfl,by omega,λr hr=>?_⟩,⟨_,[],rfl,⟨a,cap,by rw[dV],by omega,?_,ER.Gk λi r hr=>?_⟩,rfl⟩,by simp[Value.oneCell'],rfl⟩;·obtain⟨i,hi⟩:=CT hr;exact(aD i r hi).1
    .rcases Ou cap with h0|h0
     .exact .inr h0
     .exact .inl (spot h0)
    .exact⟨(aD i r hr).2.1,(aD i r hr).2.2⟩
  .cases hok
 | .st fs,t,fuel,cs,x,hok,h=>by
  unfold PO at hok;split at hok
  .rename_i fields ht;simp only[BK,beq_iff_eq] at hok;obtain⟨hct,hf⟩:=hok;obtain⟨xs,n,_,_,hcl,hxl,X3⟩:=DataW.trod_struct ht h;obtain⟨as,p1,p2,p3,p4⟩:=SO fs (fields:=fields.toList) (off:=0) (cs:=cs) (n:=n) hf (λi f hi=>by
    have:=X3 i f (by simpa using hi);have hlt:i<fields.size:=by have:=(Ah.1 hi).1;simpa using this
    rw[Af (show i<xs.length by omega)] at this;exact⟨_,this⟩) (by rw[hcl,hct];omega)
   have e1:(cs.drop 0).take (Ty.Lx fs)=cs:=by rw[Qh];exact Ay (by rw[hcl,hct];exact Ac _)
   rw[e1] at p2 p3;exact⟨as,p1,p2,p3,p4⟩
  .cases hok
theorem SO:∀(Rr:List Ty) {fields:List Field} {off:Nat} {cs:List Value} {n:Nat},NY P Rr fields off=true->
  (∀(i:Nat) (f:Field),fields[i]?=some f->∃y,DataW.trod enc P W 0 (λ_=>true) true n f.type ((cs.drop f.offset).take (P.cellsOf f.type))=some y)->off+Ty.Lx Rr<=cs.length->
  ∃as,q6 Rr as/\A8 (FA W) as ((cs.drop off).take (Ty.Lx Rr))/\(∀u∈(cs.drop off).take (Ty.Lx Rr),u.oneCell'=true)/\as.length=Ty.Lx Rr
 |[],fields,off,cs,n,hok,h,hl=>by refine⟨[],rfl,?_,?_,rfl⟩<;>simp[Ty.Lx,A8]
 |ty::Rr,fields,off,cs,n,hok,h,hl=>by
  cases fields with
  |nil=>simp[NY] at hok
  |cons f fs=>
   simp only[NY,BK,beq_iff_eq] at hok;obtain⟨⟨⟨ho,hc⟩,WZ⟩,vQ⟩:=hok;obtain⟨y,hy⟩:=h 0 f rfl;rw[ho,hc] at hy;obtain⟨as,p1,p2,p3,p4⟩:=Yl ty WZ hy;simp only[Ty.Lx] at hl;obtain⟨bs,q1,q2,q3,q4⟩:=SO Rr vQ (λi g hi=>h (i+1) g (by simpa using hi)) (by omega);have e1:(cs.drop off).take (Ty.Lx (ty::Rr))=(cs.drop off).take (Ty.size ty)++(cs.drop (off+Ty.size ty)).take (Ty.Lx Rr):=by simp only[Ty.Lx];rw[List.take_add,E7]
   rw[e1];refine⟨as++bs,⟨as,bs,rfl,p1,q1⟩,p2.append q2,λu hu=>?_,by simp[p4,q4,Ty.Lx]⟩;rcases Ao.1 hu with hu|hu
   .exact p3 u hu
   .exact q3 u hu
end
theorem Ym{ty:Ty}{t:TypeId}{v:Value}{base:Nat}(hok:PO P ty t=true)(hv:Value.okWide P W .any base t v):if ty.zl then∃cs,v= .agg cs else v.cells=#[v]:=by
 cases ty with
 |st fs=>
  unfold PO at hok;split at hok;·rename_i fields ht;unfold Value.okWide at hv;rw[ht] at hv;obtain⟨cs,e,_⟩:=hv;exact⟨cs,e⟩
  .cases hok
 |_=>
  unfold PO at hok;split at hok;·rename_i ht;unfold Value.okWide at hv;rw[ht] at hv;simp only[Cell.okWide,ht,Cell.ok] at hv;cases v<;>first|rfl|exact hv.elim
  .cases hok
theorem Xn:∀{Rr:List Ty} {ts:List TypeId} {vs:List Value} {ds:List (DataW H)} {ps:List MemPlace} {base:Nat},DataW.TrodAll enc P W 0 (λ_=>true) true ts vs ds ps->Rr.length=ts.length->(∀(i:Nat) (ty:Ty) (t:TypeId),Rr[i]?=some ty->ts[i]?=some t->PO P ty t=true)->
  (∀(i:Nat) (t:TypeId) (v:Value),ts[i]?=some t->vs[i]?=some v->Value.okWide P W .any base t v)->∃as,TU Rr as/\A8 (FA W) as vs
 |[],[],[],[],_,_,_,_,_,_=>⟨[],rfl,rfl⟩
 |ty::Rr,t::ts,v::vs,d::ds,ps,base,⟨p,q,⟨fuel,h1⟩,h2,_⟩,hl,hok,PQ=>by
  have WZ:=hok 0 ty t rfl rfl;obtain⟨cells,p1,p2,p3,p4⟩:=Yl ty WZ h1;obtain⟨bs,q1,q2⟩:=Xn h2 (by simpa using hl) (λi ty t h h'=>hok (i+1) ty t (by simpa using h) (by simpa using h')) (λi t v h h'=>PQ (i+1) t v (by simpa using h) (by simpa using h'));have hc:=Ym WZ (PQ 0 t v rfl rfl);have:∃a,fR ty a/\BF (FA W) a v:=by
   by_cases hst:ty.zl=true;·rw[if_pos hst] at hc;obtain⟨us,rfl⟩:=hc;exact⟨.agg cells,(by unfold fR;rw[if_pos hst];exact⟨cells,rfl,p1⟩),us,rfl,by simpa[Value.cells] using p2,by simpa[Value.cells] using p3⟩
   .rw[if_neg hst] at hc;rw[hc] at p2;obtain⟨u,us,e,hu,hnil⟩:∃c Gf,cells=c::Gf/\BF (FA W) c v/\Gf=[]:=by
     cases cells with
     |nil=>cases p2
     |cons c Gf=>obtain⟨u,Dk,e,h1,h2⟩:=p2;simp at e;obtain⟨rfl,rfl⟩:=e;exact⟨c,Gf,rfl,h1,by cases Gf with|nil=>rfl|cons _ _=>obtain⟨_,_,e,_⟩:=h2;cases e⟩
    subst hnil;subst e;exact⟨u,(by unfold fR;rw[if_neg hst];exact p1),hu⟩
  obtain⟨a,ha,hr⟩:=this;exact⟨a::bs,⟨a,bs,rfl,ha,q1⟩,⟨v,vs,rfl,hr,q2⟩⟩
 |[],_::_,_,_,_,_,_,hl,_,_=>by simp at hl
 |_::_,[],_,_,_,_,_,hl,_,_=>by simp at hl
 |[],[],_::_,_,_,_,h,_,_,_=>by cases h
 |[],[],[],_::_,_,_,h,_,_,_=>by cases h
 |_::_,_::_,[],_,_,_,h,_,_,_=>by cases h
 |_::_,_::_,_::_,[],_,_,h,_,_,_=>by cases h
theorem UU{W':World}{may:MemPlace->Prop}(h1:W'.os=W.os)(h2:W'.output=W.output)(hb:∀i,i<W.heap.size->W'.heap[i]?=W.heap[i]?):W.keptBut W' may:=by
 refine⟨h1,h2,λi hi=>?_⟩;rw[hb i hi];split;·rename_i c t fr c' t' qB e1 e2;rw[e1] at e2;cases e2;exact⟨rfl,rfl,rfl,λ_ _=>rfl⟩
 .rename_i e1 e2;rw[e1] at e2;cases e2;exact .inr ⟨rfl,rfl⟩
 .rfl
theorem Pk(hl:laidOutB P=true){W':World}(hb:RowKit.Below W.heap.size W W'):∀{ts:List TypeId} {vs:List Value} {ds:List (DataW H)} {ps:List MemPlace},(∀t∈ts,P.readableRec t=true/\t<P.types.size)->
  DataW.TrodAll enc P W 0 (λ_=>true) true ts vs ds ps->(∀x∈ps,x.block<W.heap.size)->DataW.TrodAll enc P W' 0 (λb=>decide (b<W.heap.size)) true ts vs ds ps
 |[],[],[],ps,_,h,_=>h
 |t::ts,v::vs,d::ds,ps,ZC,⟨p,q,h1,h2,e⟩,hlt=>by subst e;have ht:=ZC t (by simp);exact⟨p,q,RowKit.Below.trod hl ht.1 ht.2 h1 hb λx hx=>hlt x (CE _ hx),Pk hl hb (λt' h'=>ZC t' (by simp[h'])) h2 λx hx=>hlt x (BU _ hx),rfl⟩
 |[],[],_::_,_,_,h,_=>by cases h
 |[],_::_,_,_,_,h,_=>by cases h
 |_::_,[],_,_,_,h,_=>by cases h
 |_::_,_::_,[],_,_,h,_=>by cases h
end
theorem Yn{C:FI}(hm:C.P.follows .mixedOrders=true)(wE:∀g cs,C.Gj g=some cs->cs.all Aa.Lp=true)(uk:Yj C)(hl:laidOutB C.P=true){f:FuncId}{fn:Func}{rt:TypeId}(hrf:f<=99999)(hrt:fn.resultTypes=#[rt])(hrb:C.P.underlying rt=some .bool){Rr:List Ty}(hlen:Rr.length=fn.params.size)
  (aJL:∀(i:Nat) (ty:Ty) (t:TypeId),Rr[i]?=some ty->fn.params[i]?=some t->PO C.P ty t=true) (aDT:∀t∈fn.params.toList,C.P.readableRec t=true/\t<C.P.types.size)
  (Ik:∀as,TU Rr as->Ev C f as [] λr _=>r= .bool true) {s:ChangeSpec} (tv:s.vars=[])
  {H:Type} (hfn:∀ds:List (DataW H),ds.length=fn.params.size->s.fn H ds={results:=[.lit (.bool true)],args:=ds})
  {enc:TypeId×Value->H} {W:World} {base:Nat} {args:Array Value} {ds gs:List (DataW H)} {before:List MemPlace} (hg:∀g cs,C.Gj g=some cs->CI (FA W) cs g 0)
  (PQ:∀(j:Nat) (t:TypeId) (v:Value),fn.params[j]?=some t->args[j]?=some v->Value.okWide C.P W .any base t v) (hW:DataW.Whole enc C.P fn.params.toList s.vars false W args.toList ds gs before):
  Calls C.P f args W λe W'=>∃v,e= .returned v/\s.post enc C.P fn false true false false W args v W':=by
 have hW':=hW;have hlt:=hW.lt;obtain⟨p,q,hA,hV,rfl,hfz,kR⟩:=hW;rw[tv] at hV;have zf:gs=[]/\q=[]:=by
  cases gs with
  |nil=>exact⟨rfl,hV⟩
  |cons _ _=>cases hV
 obtain⟨rfl,rfl⟩:=zf;obtain⟨as,WB,Nv⟩:=Xn hA (by simpa using hlen) (λi ty t h h'=>aJL i ty t h (by simpa using h')) (λi t v h h'=>PQ i t v (by simpa using h) (by simpa using h'));have fO:ds.length=fn.params.size:=by
  have key:∀{ts:List TypeId} {vs:List Value} {ds:List (DataW H)} {ps:List MemPlace},DataW.TrodAll enc C.P W 0 (λ_=>true) true ts vs ds ps->ds.length=ts.length:=by
   intro ts;induction ts with
   |nil=>intro vs ds ps h;cases vs<;>cases ds<;>first|rfl|cases h
   |cons t ts ih=>
    intro vs ds ps h;cases vs with
    |nil=>cases h
    |cons v vs=>
     cases ds with
     |nil=>cases h
     |cons d ds=>obtain⟨_,_,_,h2,_⟩:=h;simp[ih h2]
  simpa using key hA
 have Ww:=(Ik as WB).calls hm wE uk (wF W) hg Nv;rw[show D7 f=f from if_pos hrf] at Ww;refine Ww.mono λe W' he=>?_;cases e with
 |returned v=>
  obtain⟨r,h',γ',rfl,hi,JA,hv⟩:=he;have hvb:v= .bool true:=hv;subst hvb;have hold:∀i,i<W.heap.size->W'.heap[i]?=W.heap[i]?:=λi vN=>(JA.MH i vN λid h0=>by cases h0).1;have hbelow:RowKit.Below W.heap.size W W':=⟨JA.os,JA.tape,JA.output,JA.size,hold⟩;refine⟨_,rfl,ds,[],p++[],[],p,[],hW',?_,?_,?_,UU JA.os JA.output hold,λh0=>by cases h0⟩;·rw[BB,hfn ds fO,hrt];exact⟨[],[],RowKit.shut_bool hrb true,rfl,rfl⟩
  .rw[BB,hfn ds fO];exact Pk hl hbelow aDT hA λx hx=>hlt x (by simpa using hx)
  .rw[BB,hfn ds fO,tv];rfl
 |_=>exact he.elim
end Go.Am
end
