/- Lemmas -/
import Derived.Scope
import Derived.Test.YtdejbjapknkdnaaGreatDoorV6
import Derived.Carry
import Derived.ReadAgain
set_option linter.all false
section
namespace Go.Am
open Go
def Kpt(x y:Eu):Prop:=
 match x with
 | .box ver cs ow=>∃Gb GW OA,y= .box Gb GW OA/\ver<=Gb/\(Gb=ver->GW=cs/\OA=ow)
 | .E8 t o=>y= .E8 t o\/y= .undef
 |x=>y=x
def Kpt.refl(x:Eu):Kpt x x:=by
 cases x with
 |box ver cs ow=>exact⟨ver,cs,ow,rfl,Ab _,λ_=>⟨rfl,rfl⟩⟩
 |E8 t o=>exact .inl rfl
 |_=>rfl
def Kpt.trans{x y z:Eu}(h:Kpt x y)(k:Kpt y z):Kpt x z:=by
 cases x with
 |box ver cs ow=>
  obtain⟨c,n,m,rfl,h1,h2⟩:=h;obtain⟨b,l,d,rfl,g,f⟩:=k;refine⟨b,l,d,rfl,Bn h1 g,λe=>?_⟩;have j:c=ver:=by omega
  have i:b=c:=by omega
  obtain⟨rfl,rfl⟩:=f i;exact h2 j
 |E8 t o=>
  rcases h with rfl|rfl
  .exact k
  .exact .inr k
 |_=>rw[show y=_ from h] at k;exact k
def HC(W:List Nat)(σ O:BL):Prop:=O.length=σ.length/\∀s,s∉W->Kpt (σ.at s) (O.at s)
def HC.refl(W:List Nat)(σ:BL):HC W σ σ:=⟨rfl,λ_ _=> .refl _⟩
def HC.trans{W:List Nat}{σ O J:BL}(h:HC W σ O)(k:HC W O J):HC W σ J:=⟨k.1.trans h.1,λs hs=>(h.2 s hs).trans (k.2 s hs)⟩
def HC.mono{W W':List Nat}{σ O:BL}(h:HC W σ O)(hw:∀s∈W,s∈W'):HC W' σ O:=⟨h.1,λs hs=>h.2 s λhm=>hs (hw s hm)⟩
def HC.set{W:List Nat}{σ:BL}{s:Nat}{x:Eu}(hs:s∈W):HC W σ (σ.set s x):=
 ⟨by simp,λt ht=>by rw[BL.FU λe=>ht (by rw[<-e];exact hs)];exact .refl _⟩
def HC.put{W:List Nat}{σ:BL}{d:Option Nat}{x:Eu}(hs:∀s∈d.toList,s∈W):HC W σ (σ.put d x):=by
 cases d with
 |none=>exact .refl _ _
 |some d=>exact .set (hs d (by simp))
section
variable{C:FT}{fid:FuncId}{ops:List Oper}{run:IT->Ae->Option J7}{σ σ':BL}{h h':Ae}{W:List Nat}
def HC.drop(σ:BL)(ds:List Nat):HC W σ (σ.drop ds):=by
 refine⟨BL.length_drop σ ds,λs _=>?_⟩;rw[BL.Wq];cases hx:σ.at s with
 |E8 t o=>
  simp only
  split;.exact .inr rfl
  .exact .inl rfl
 |_=>exact .refl _
def qG{r:EF}{ds:List Nat}(hd:r.N3 C run (σ.drop ds) h σ' h')(hw:∀s∈r.wf,s∈W):HC W σ σ':=by obtain⟨ws,rfl,h1,_⟩:=aT hd;refine(HC.drop σ ds).trans ⟨BL.JY ws _,λs hs=>?_⟩;rw[BL.GF ws _ s λp hp e=>hs (hw s (by rw[<-e];exact h1 p hp))];exact .refl _
def QY{x:Operand}{d:Nat}{take:Bool}{r:EF}(h:KR C σ x d take=some r):∀s∈r.wf,s=d\/(take=true/\x= .tmp s):=by
 unfold KR at h;split at h;.cases h;simp[EF.wf]
 .cases h;simp[EF.wf]
 .split at h
  .rename_i ht;cases h;intro s hs;simp only[EF.wf,Cb,Aj] at hs;rcases hs with hs|hs
   .revert hs;generalize b:SR _ _=c;intro hs;unfold SR at b;split at b;.subst b;simp at hs;exact .inr ⟨ht,by rw[hs]⟩
    .subst b;simp at hs
   .exact .inl (by simpa using hs)
  .cases hc:IF _ with
   |none=>rw[hc] at h;cases h
   |some sl=>rw[hc] at h;cases h;simp[EF.wf]
 .cases hc:IF _ with
  |none=>rw[hc] at h;cases h
  |some sl=>rw[hc] at h;cases h;simp[EF.wf]
 .cases h
def Tc{x:Operand}{p:Nat×Aa}(h:De σ x=some p):x= .tmp p.1:=by
 cases x with
 |tmp t=>
  simp only[De] at h;cases hx:σ.at t with
  |BN v=>rw[hx] at h;cases h;rfl
  |_=>rw[hx] at h;cases h
 |_=>cases h
def lB{t:TypeId}{v:Aa}{d:Nat}{r:EF}(h:Vd C fid t v d=some r):r.wf=[d]:=by
 unfold Vd at h;split at h;.cases h
 .split at h;.cases h
  .split at h<;>(cases h;rfl)
def RG:∀{xs:List Operand} {vs:List Aa} {fz:List (Nat×List Aa)},Hw C σ xs=some (vs,fz)->∀p∈fz,p.1∈KS xs
 |[],vs,fz,hc=>by cases hc;simp
 |x::xs,vs,fz,hc=>by
  unfold Hw at hc;split at hc;.cases hc
  .rename_i H7 c b;have ih:=RG b;have up:∀p∈c,p.1∈KS (x::xs):=λp hp=>by obtain⟨y,hy,he⟩:=Cf.1 (ih p hp);exact Cf.2 ⟨y,Oy _ hy,he⟩
   split at hc
   .rename_i s ver cs ow hs;split at hc;.cases hc
    .cases hc;intro p hp;rcases Aw.1 hp with rfl|hp
     .simp[KS]
     .exact up p hp
   .rename_i sl _ hs;cases d:sl.Hv with
    |none=>rw[d] at hc;cases hc
    |some u=>rw[d] at hc;cases hc;exact up
   .cases hc
def vX{o:Oper}{r:EF}(hc:Ga C fid ops σ o=some r)(hd:r.N3 C run (σ.drop r.news) h σ' h'):HC (Fh ops o) σ σ':=by
 have Tb:∀s∈o.dst.toList,s∈Fh ops o:=λs hs=>B5 _ hs
 have hwf:(∀s∈r.wf,s∈Fh ops o)->HC (Fh ops o) σ σ':=qG hd
 have Zi:r.wf=o.dst.toList->HC (Fh ops o) σ σ':=λe=>hwf (by rw[e];exact Tb)
 have Vp:∀{m x},Uj m o.dst x=some r->HC (Fh ops o) σ σ':=λ{m x} he=>by
  obtain⟨_,_,rfl⟩:=HA he
  exact Zi rfl
 have HN:∀{p x},Ui p o.dst x=some r->HC (Fh ops o) σ σ':=λ{p x} he=>by
  obtain⟨args,_,rfl⟩:=DR he
  exact Zi (by simp[EF.wf])
 unfold Ga at hc
 split at hc
 .rename_i x ho
  split at hc
  .rename_i d FO
   refine hwf λs hs=>?_
   rcases QY hc s hs with rfl|⟨ht,rfl⟩
   .exact Tb s (by rw[FO];simp)
   .refine BH _ ?_
    simp[ho,FO,ht]
  .cases hc
 .rename_i x ho
  split at hc
  .rename_i d FO
   refine hwf λs hs=>?_
   rcases QY hc s hs with rfl|⟨ht,rfl⟩
   .exact Tb s (by rw[FO];simp)
   .refine BH _ ?_
    simp[ho]
  .cases hc
 .rename_i c x y ho
  split at hc
  .rename_i d _ FO
   refine hwf λs hs=>?_
   rcases QY hc s hs with rfl|⟨ht,rfl⟩
   .exact Tb s (by rw[FO];simp)
   .cases ht
  .rename_i d _ FO
   refine hwf λs hs=>?_
   rcases QY hc s hs with rfl|⟨ht,rfl⟩
   .exact Tb s (by rw[FO];simp)
   .cases ht
  .exact HN hc
 .split at hc
  .rename_i d z FO hz
   split at hc
   .split at hc
    .cases hc;exact Zi (by rw[FO];rfl)
    .cases hc
   .exact Zi (by rw[lB hc,FO];rfl)
  .cases hc
 .split at hc
  .rename_i d v FO hz
   exact Zi (by rw[lB hc,FO];rfl)
  .cases hc
 .split at hc
  .split at hc
   .exact HN hc
   .cases hc
  .cases hc
 .split at hc
  .split at hc
   .split at hc
    .split at hc
     .cases hc;exact Zi (by simp[EF.wf])
     .cases ha:Bm C σ _ with
      |none=>rw[ha] at hc;cases hc
      |some args=>rw[ha] at hc;cases hc;exact Zi (by simp[EF.wf])
    .cases hc
   .cases hc
  .cases hc
 .split at hc
  .rename_i d FO
   unfold L1 at hc
   split at hc
   .cases hc;exact Zi (by rw[FO];rfl)
   .rename_i s off ver cs ow ht ha
    split at hc
    .simp only at hc
     split at hc
     .cases hc
      rw[OI (by simp)] at hd
      obtain⟨rfl,rfl⟩:=hd
      have hs:σ.at s= .box ver cs ow:=by
       unfold F9 at ha
       split at ha
       .rename_i hs;cases ha;exact Ha hs
       .split at ha
        .rename_i hb;cases ha;exact hb
        .cases ha
       .exact absurd ha (by cases b:Eu.Hv _<;>simp)
       .cases ha
      refine⟨by simp[BL.drop,BL.EG],λt f=>?_⟩
      have g:t≠d:=λe=>f (Tb t (by rw[FO,e];simp))
      have Ę:s<σ.length:=BL.PY (by rw[hs];simp)
      show Kpt (σ.at t) (BL.at ((σ.set s _).set d _) t)
      rw[BL.FU (λe=>g e.symm)]
      by_cases dD:s=t
      .subst dD
       rw[BL.Fj Ę,hs]
       exact⟨_,_,_,rfl,Ft _,λe=>absurd e (by omega)⟩
      .rw[BL.FU dD];exact .refl _
     .cases hc;exact Zi (by rw[FO];rfl)
    .cases hc
   .split at hc
    .cases hc;exact Zi (by rw[FO];rfl)
    .cases hc
   .cases hc
  .cases hc
 .rename_i t x y ho
  split at hc
  .rename_i FO
   unfold JA at hc
   split at hc
   .cases hc;exact hwf (by simp[EF.wf])
   .rename_i m sh s off ver cs ow v KT oV ha b
    split at hc
    .cases hc
     obtain⟨_,rfl,rfl⟩:=hd
     have hs:σ.at s= .box ver cs ow:=by
      unfold F9 at ha
      split at ha
      .rename_i hs;cases ha;exact Ha hs
      .split at ha
       .rename_i hb;cases ha;exact hb
       .cases ha
      .exact absurd ha (by cases b:Eu.Hv _<;>simp)
      .cases ha
     have Zw:∀(D:Option (Nat×Aa)),(∀p,D=some p->p.1∈Fh ops o/\p.1≠s)->∀X:List Aa×List Nat,HC (Fh ops o) σ ((σ.DE D).set s (.box (ver+1) X.1 X.2)):=by
      intro D j X
      refine⟨by cases D<;>simp[BL.DE],λt f=>?_⟩
      have hlen:s<(σ.DE D).length:=by
       have:s<σ.length:=BL.PY (by rw[hs];simp)
       cases D<;>simpa[BL.DE] using this
      by_cases dD:s=t
      .subst dD
       rw[BL.Fj hlen,hs]
       exact⟨_,_,_,rfl,Ft _,λe=>absurd e (by omega)⟩
      .rw[BL.FU dD]
       cases D with
       |none=>exact .refl _
       |some p=>
        obtain⟨i,k⟩:=j p rfl
        simp only[BL.DE]
        rw[BL.FU (λe=>f (by rw[<-e];exact i))]
        exact .refl _
     refine Zw _ (λp hp=>?_) (_,_)
     split at hp
     .have hy:=Tc hp
      subst hy
      refine⟨BH _ (by simp[ho]),λe=>?_⟩
      simp only[De] at hp
      rw[e,hs] at hp
      cases hp
     .cases hp
    .cases hc
   .cases hc
  .cases hc
 .split at hc
  .rename_i FO _ _
   cases hc;exact Zi (by rw[FO];rfl)
  .rename_i FO _ _
   cases hc;exact Zi (by rw[FO];rfl)
  .exact HN hc
 .split at hc
  .exact HN hc
  .cases hc
 .exact HN hc
 .split at hc
  .cases b:ER C σ _ with
   |none=>rw[b] at hc;cases hc
   |some v=>rw[b] at hc;cases hc;exact Zi rfl
  .split at hc
   .cases b:ER C σ _ with
    |none=>rw[b] at hc;cases hc
    |some v=>rw[b] at hc;cases hc;exact Zi rfl
   .exact HN hc
  .exact HN hc
  .cases hc
 .rename_i fn first captured ho
  split at hc
  .rename_i d as bs fz FO ha hb
   cases hc
   refine hwf λs hs=>?_
   simp only[EF.wf,Aw] at hs
   rcases hs with rfl|hs
   .exact Tb s (by rw[FO];simp)
   .obtain⟨p,hp,rfl⟩:=Bb.1 hs
    refine BH _ ?_
    simp only[ho]
    exact RG hb p hp
  .cases hc
 .cases hc;exact Zi rfl
 .split at hc
  .split at hc
   .cases hc;exact Zi rfl
   .cases hc
  .cases hc
 .split at hc
  .split at hc
   .cases hc;exact hwf (by simp[EF.wf])
   .cases hc;exact hwf (by simp[EF.wf])
   .cases hc
  .cases hc
 .split at hc
  .split at hc
   .cases hc;exact hwf (by simp[EF.wf])
   .cases hc;exact hwf (by simp[EF.wf])
   .cases hc
  .cases hc
 .split at hc
  .split at hc
   .cases hc;exact Zi rfl
   .cases hc;exact Zi rfl
   .cases hc
  .cases hc
 .split at hc
  .split at hc
   .exact Vp hc
   .cases hc
  .cases hc
 .split at hc
  .cases hc
  .exact Vp hc
  .cases hc
 .split at hc
  .split at hc<;>first|exact Vp hc|cases hc
  .cases hc
 .split at hc
  .rename_i FO
   exact Vp (by rw[FO];exact hc)
  .cases hc
 .split at hc
  .exact HN hc
  .split at hc
   .split at hc
    .exact Vp hc
    .exact HN hc
   .cases hc
  .cases hc
 .split at hc
  .rename_i off sh d hf FO
   split at hc
   .cases hc;exact Zi (by rw[FO];rfl)
   .cases hc;exact Zi (by rw[FO];rfl)
   .exact HN (by rw[FO];exact hc)
  .cases hc
 .split at hc
  .exact HN hc
  .cases hc
 .split at hc
  .split at hc
   .exact HN hc
   .cases hc
  .split at hc
   .split at hc
    .cases hc
    .exact HN hc
   .cases hc
  .cases hc
 .split at hc
  .exact HN hc
  .split at hc
   .exact HN hc
   .cases hc
  .cases hc
 .exact HN hc
 .rename_i c ho
  unfold RV at hc
  split at hc
  .split at hc
   .split at hc
    .exact HN hc
    .exact HN hc
    .cases hc
   .cases hc
  .rename_i hcl
   split at hc
   .rename_i t t' s x h0 h1 EJ
    have Zw:∀p,De σ s=some p->p.1∈Fh ops o:=λp hp=>by
     have:=Tc hp
     subst this
     refine BH _ ?_
     simp only[ho,hcl,EJ]
     simp[KS]
    split at hc
    all_goals first
     |(cases hc;done)
     | (split at hc
        . split at hc
          . split at hc
            . split at hc
              . split at hc
                . cases hc
                  refine hwf fun q hq => ?_
                  simp only [EF.wf, Aj] at hq
                  rcases hq with hq | hq
                  . exact Tb q hq
                  . cases qH : De σ s with
                    | none => rw [qH] at hq; simp at hq
                    | some p => rw [qH] at hq; simp at hq; rw [hq]; exact Zw p qH
                . split at hc
                  . cases hc
                    refine hwf fun q hq => ?_
                    simp only [EF.wf, Aj] at hq
                    rcases hq with hq | hq
                    . exact Tb q hq
                    . cases qH : De σ s with
                      | none => rw [qH] at hq; simp at hq
                      | some p => rw [qH] at hq; simp at hq; rw [hq]; exact Zw p qH
                  . cases hc
                    refine hwf fun q hq => ?_
                    simp only [EF.wf, Aj] at hq
                    rcases hq with hq | hq
                    . exact Tb q hq
                    . cases qH : De σ s with
                      | none => rw [qH] at hq; simp at hq
                      | some p => rw [qH] at hq; simp at hq; rw [hq]; exact Zw p qH
              . split at hc
                . cases hc
                  refine hwf fun q hq => Tb q (by simpa [EF.wf] using hq)
                . cases hc
            . cases hc
          . cases hc
        . cases hc)
   .cases hc
  .split at hc
   .split at hc
    all_goals first
     |(cases hc;done)
     | (split at hc
        . exact Vp hc
        . cases hc)
   .cases hc
  .split at hc
   .split at hc
    .split at hc
     .exact Vp hc
     .cases hc
    .cases hc
   .cases hc
  .split at hc
   .exact HN hc
   .cases hc
  .split at hc
   .exact HN hc
   .cases hc
  .split at hc
   .split at hc
    .split at hc
     .exact Vp hc
     .cases hc
    .cases hc
   split at hc
   .cases ha:Bm C σ c.args.toList with
    |none=>rw[ha] at hc;cases hc
    |some args=>
     rw[ha] at hc
     simp only[BF,Bx] at hc
     split at hc<;>(cases hc;exact Zi rfl)
   .cases hc
  .split at hc
   .cases hc;exact Zi rfl
   .cases hc
  .cases hc
 .cases hc
end
end Go.Am
end
section
namespace Go.Am
open Go
def vn:F6->Exit
 | .normal=> .normal
 | .exit i=> .exit i
 | .ret=> .ret
def OT:∀{l m:List Nat},l.Nodup->(∀x∈l,x∈m)->l.length<=m.length
 |[],_,_,_=>AU _
 |x::l,m,hn,hs=>by have hx:=hs x (by simp);have h1:=OT (l:=l) (m:=m.erase x) (BW.1 hn).2 λy hy=>(List.mem_erase_of_ne λe=>(BW.1 hn).1 (by rw[<-e];exact hy)).2 (hs y (by simp[hy]));rw[List.length_erase_of_mem hx] at h1;have:0<m.length:=List.length_pos_of_mem hx;simp;omega
def dP{P:Program}{c:Code}{Q:Exit->Act->World->Prop}(T:Nat->Act->World->Prop)(round:∀n a w,T n a w->c.wp P (Exit.then (λa' w'=>∃m,m<n/\T m a' w') Q) a w)(n:Nat)(a:Act)(w:World)(h0:T n a w):(Code.loop c).wp P Q a w:=by
 intro b k cs;have key:∀n a w,T n a w->∃e a' w',Q e a' w'/\Arrives P (lone (b.at a (.code c:: .inLoop c::k)) cs w) b k cs e a' w':=by
  intro n;induction n using Nat.strongRecOn with
  |_ n ih=>
   intro a w j;obtain⟨e,a1,f,hq,ħ⟩:=round n a w j b (.inLoop c::k) cs;by_cases he:e= .normal;.subst he;obtain⟨m,hm,d⟩:=hq;obtain⟨l,a2,g,i,r2⟩:=ih m hm a1 f d;exact⟨l,a2,g,i,.of_steps (Go.Steps.trans ħ (.one step_inLoop)) r2⟩
   .exact⟨e,a1,f,by cases e<;>first|exact hq|exact absurd rfl he,.pass (x:= .inLoop c) rfl (λ_ _=> .inl he) ħ⟩
 obtain⟨e,a',w',hq,ħ⟩:=key n a w h0;exact⟨e,a',w',hq,.of_steps (.one step_loop) ħ⟩
section
variable{C:FT}{U0 U:Gh}{w0 w:World}{Z:Nat->Nat}{σ:BL}{h:Ae}{a:Act}{fid:FuncId}{run:IT->Ae->Option J7}
def dQ{ops:List Oper}{o:Oper}{K:BL->IT}{R:J7}(hr:IT.step (B7 C) run (Uk C fid ops σ o K) h=some R):
  ∃d,(d=σ\/∃s b,s∈Fp ops o/\σ.at s= .val (.bool b)/\d=σ.set s (.PH b))/\
   ((I2 ops d o= .N0 true/\IT.step (B7 C) run (sm C fid ops d o K) h=some R)\/(I2 ops d o= .N0 false/\IT.step (B7 C) run (K (d.put o.dst .skip)) h=some R)):=by
 unfold Uk at hr;split at hr;.rename_i hg;exact⟨σ,.inl rfl,.inl ⟨hg,hr⟩⟩
 .rename_i hg;exact⟨σ,.inl rfl,.inr ⟨hg,hr⟩⟩
 .rename_i s v want hg;have e:s∈Fp ops o/\σ.at s= .val v/\∀b,I2 ops (σ.set s (.PH b)) o= .N0 (b==want):=by
   unfold I2 at hg⊢;unfold Fp;cases ho:o.guard with
   |none=>rw[ho] at hg;cases hg
   |some g=>
    obtain⟨j,want'⟩:=g;rw[ho] at hg;simp only at hg⊢;cases hd:(ops[j]?).bind (·.dst) with
    |none=>rw[hd] at hg;cases hg
    |some s'=>
     rw[hd] at hg;simp only at hg⊢;cases hx:σ.at s' with
     |val v'=>rw[hx] at hg;cases hg;refine⟨by simp,hx,λb=>?_⟩;rw[BL.Fj (BL.PY (by rw[hx];simp))]
     |PH c=>rw[hx] at hg;cases hg
     |skip=>rw[hx] at hg;cases hg
     |_=>rw[hx] at hg;cases hg
  obtain⟨g1,g2,g3⟩:=e;simp only[IT.step] at hr;split at hr
  .refine⟨σ.set s (.PH true),.inr ⟨s,true,g1,g2,rfl⟩,?_⟩;rw[g3];cases want with
   |true=>exact .inl ⟨rfl,hr⟩
   |false=>exact .inr ⟨rfl,hr⟩
  .refine⟨σ.set s (.PH false),.inr ⟨s,false,g1,g2,rfl⟩,?_⟩;rw[g3];cases want with
   |true=>exact .inr ⟨rfl,hr⟩
   |false=>exact .inl ⟨rfl,hr⟩
  .cases hr
 .cases hr
def vY(l:E2 C run){ops:Array Oper}{Q:Exit->Act->World->Prop}{W:List Nat}{K:BL->IT}{R:J7}:∀(rest:List Oper) (k:Nat) (U:Gh) (Z:Nat->Nat) (σ:BL) (h:Ae) (a:Act) (w:World),
  ops.toList.drop k=rest->(∀o∈rest,(∀s∈Fh ops.toList o,s∈W)/\∀s∈Fp ops.toList o,s∈W)->IT.step (B7 C) run (vD C fid ops.toList rest σ K) h=some R->C4 C U0 w0 U Z σ h a w->
  (∀e d σ' h' a' w',IT.step (B7 C) run (K σ') h'=some R->HC W σ σ'->C4 C U0 w0 e d σ' h' a' w'->Q .normal a' w')->wpOps C.P ops Q (List.range' k rest.length) a w
 |[],k,U,Z,σ,h,a,w,_,_,AI,hr,hQ=>by simp only[AY,List.range'_zero,wpOps];exact hQ U Z σ h a w AI (.refl _ _) hr
 |o::rest,k,U,Z,σ,h,a,w,hk,j,AI,hr,hQ=>by
  have ho:ops[k]?=some o:=by
   have:ops.toList[k]?=some o:=by have h0:=BQ (·[0]?) hk;simpa[Cu] using h0
   simpa using this
  have i:ops.toList.drop (k+1)=rest:=by have h0:=BQ (List.drop 1) hk;simpa[Ed] using h0
  obtain⟨vZ,ve⟩:=j o (by simp);simp only[AE,List.range'_succ,wpOps,ho];obtain⟨f,g,I9⟩:=dQ AI;have J8:C4 C U0 w0 U Z f h a w/\HC W σ f:=by
   rcases g with rfl|⟨s,b,g1,g2,rfl⟩
   .exact⟨hr,.refl _ _⟩
   .have h0:=hr.fr.Ir s;rw[g2] at h0;exact⟨hr.j3 h0,.set (ve s g1)⟩
  obtain⟨J8,aHc⟩:=J8;have next:∀e d σ' h' a' w',IT.step (B7 C) run (vD C fid ops.toList rest σ' K) h'=some R->HC W σ σ'->C4 C U0 w0 e d σ' h' a' w'->wpOps C.P ops Q (List.range' (k+1) rest.length) a' w':=λe d σ' h' a' w' XL ji HM=>vY l rest (k+1) e d σ' h' a' w' i (λo ho=>j o (by simp[ho])) XL HM λp n c h2 a2 m MH aLP aHd=>hQ p n c h2 a2 m MH (ji.trans aLP) aHd
  rcases I9 with⟨hg,Ja⟩|⟨hg,Ja⟩
  .rw[if_pos (Mi J8 hg)];unfold sm at Ja;split at Ja;.rename_i r hc;obtain⟨c,h2,hd,Vq⟩:=aD Ja;exact .inl (vd l hc hd J8 λe d a' w' HM=>next e d c h2 a' w' Vq (aHc.trans ((vX hc hd).mono vZ)) HM)
   .cases Ja
  .rw[if_neg (by rw[Mi J8 hg];simp)];exact next U Z _ h _ w Ja (aHc.trans (.put λs hs=>vZ s (B5 _ hs))) (J8.put λ_ _=>rfl)
def qI{W:List Nat}{d:Option Nat}{σ σ':BL}(h:Nr d σ σ')(hd:∀s∈d.toList,s∈W):HC W σ σ':=by
 unfold Nr at h;cases d with
 |none=>simp only at h;rw[h];exact .refl _ _
 |some d=>
  simp only at h;split at h;.obtain⟨b,_,rfl⟩:=h;exact .set (hd d (by simp))
  .rw[h];exact .refl _ _
def qJ{ops:List Oper}{an:List Nat}{W:List Nat}(b:∀o∈ops,∀s∈Fh ops o,s∈W){fl:List KJ}{L:List St}{σ σf:BL}{h hf:Ae}(hs:Steps C fid ops run an fl L σ h σf hf):HC W σ σf:=by
 induction hs with
 |nil=>exact .refl _ _
 |cons h1 _ _ ih=>
  refine HC.trans ?_ ih;obtain⟨o,ho,⟨_,_,_,rfl,rfl⟩|⟨r,c,hg,hc,_,hd,_,ha⟩⟩:=h1;.exact .put λs hs=>b o (Cx ho) s (B5 _ hs)
  .refine((vX hc hd).mono λs hs=>b o (Cx ho) s hs).trans (qI ha λs hs=>?_);split at hs;.exact b o (Cx ho) s (B5 _ hs)
   .simp at hs
def XM(hm:C.P.follows .mixedOrders=true)(g:E2 C run){id:Nat}{ops:Array Oper}{draw:Bool}{Q:Exit->Act->World->Prop}{K:BL->IT}{R:J7}(AI:IT.step (B7 C) run (SY C fid ops.toList draw σ K) h=some R)(hr:C4 C U0 w0 U Z σ h a w)
  (hQ:∀f d σ' h' a' w',IT.step (B7 C) run (K σ') h'=some R->HC (ops.toList.flatMap (Fh ops.toList)++ops.toList.flatMap (Fp ops.toList)) σ σ'->C4 C U0 w0 f d σ' h' a' w'->Q .normal a' w'):(Code.region id ops draw).wp C.P Q a w:=by
 unfold SY at AI;cases draw with
 |false=>refine wp_region ?_;have:=vY (W:=ops.toList.flatMap (Fh ops.toList)++ops.toList.flatMap (Fp ops.toList)) g ops.toList 0 U Z σ h a w rfl (λo ho=>⟨λs hs=>B5 _ (uV.2 ⟨o,ho,hs⟩),λs hs=>BH _ (uV.2 ⟨o,ho,hs⟩)⟩) AI hr hQ;simpa[aKd] using this
 |true=>
  simp only[BM] at AI;split at AI
  .rename_i FO;obtain⟨L,σf,hf,h1,h2,h3⟩:=Sa AI;refine wp_region_any hm ?_;have b:=h2;unfold Xg at b;simp only[T1,Bw,A4] at b;have aHe:vW (Xe ops.toList) L:=by have:=aV b.1;rw[aRU] at this;exact this
   have hlt:=h1.lt;have Ni:∀i,i<ops.size->i∈L.map (·.idx):=λi hi=>by have:=Dc.1 b.2 i (by simpa using hi);simpa using this
   have c:(L.map (·.idx)).Nodup:=by rw[List.Nodup,aRU];exact aHe.imp λh=>h.1
   have hlen:L.length=ops.size:=by
    have l:(L.map (·.idx)).length<=(List.range ops.size).length:=OT c (λi hi=>by obtain⟨s,hs,rfl⟩:=Bb.1 hi;simpa using hlt s hs)
    have k:(List.range ops.size).length<=(L.map (·.idx)).length:=OT List.nodup_range λi hi=>Ni i (by simpa using hi);simp at l k;omega
   have ji:=qJ (W:=ops.toList.flatMap (Fh ops.toList)++ops.toList.flatMap (Fp ops.toList)) (λo ho s hs=>B5 _ (uV.2 ⟨o,ho,hs⟩)) h1;refine jw g FO (λf d a' w' HM=>hQ f d σf hf a' w' h3 ji HM) ops.size L _ U Z σ h a w.drew hlen h1 aHe ⟨by simp,λi hi=>⟨λ_=>Ni i hi,λ_=>by simp[Array.getD,hi]⟩,λj hj e _=>?_⟩ hr.drew;exfalso;rcases A6 j ops.size with hlt|HK
   .simp[Array.getD,hlt] at hj
   .simp[Array.getD,Nat.not_lt.2 HK] at hj
  .cases AI
end
end Go.Am
end
section
namespace Go.Am
open Go
def QZ(x y:Eu):Prop:=
 (∃u,x.Hv=some u/\y= .val u)\/(∃v,x= .BN v/\y= .BN v)\/∃ver cs ow Gb OA,x= .box ver cs ow/\y= .box Gb cs OA/\∀o∈OA,o∈ow
def BL.IH:∀(ws:List Nat) (σ:BL) (s:Nat),(σ.clear ws).at s=if s∈ws then .undef else σ.at s
 |[],σ,s=>by simp[BL.clear]
 |t::ws,σ,s=>by
  rw[BL.clear,BL.IH ws];by_cases h:s∈ws;.simp[h]
  .by_cases h2:s=t
   .subst h2;rw[BL.XG];by_cases hl:s<σ.length;.simp[hl]
    .have:σ.at s= .undef:=by simp[BL.at,List.getD,hl]
     simp[h,hl,this]
   .rw[BL.FU λe=>h2 e.symm];simp[h,h2]
def BL.Kl:∀(ws:List Nat) (σ:BL),(σ.clear ws).length=σ.length
 |[],σ=>rfl
 |t::ws,σ=>by rw[BL.clear,BL.Kl ws];simp
section
variable{C:FT}{U0 U:Gh}{w0 w:World}{Z:Nat->Nat}{σ:BL}{h:Ae}{a:Act}{fid:FuncId}{run:IT->Ae->Option J7}
def QZ.rel{B s:Nat}{x y:Eu}{v:Value}(hx:L2 U Z B w s x v)(hf:QZ x y):L2 U Z B w s y v:=by
 rcases hf with⟨u,hu,rfl⟩|⟨u,rfl,rfl⟩|⟨ver,cs,ow,Gb,OA,rfl,rfl,XK⟩
 .exact N4 hx hu
 .exact hx
 .obtain⟨j,i,g,us,e,f,d,c,b⟩:=hx;exact⟨j,i,g,us,e,f,d,c,λo ho=>b o (XK o ho)⟩
def Vr{σs:BL}{G:BL->IT}{R:J7}{vs:List Aa}:∀{l:List (Nat×Sh)} {i:Nat} {σa:BL},Xh σs l=some (vs.drop i)->σa.length=σs.length->IT.step (B7 C) run (JF vs l i σa G) h=some R->
  ∃b,IT.step (B7 C) run (G b) h=some R/\b.length=σa.length/\(∀s,s∉l.map (·.1)->b.at s=σa.at s)/\(∀s,s∈l.map (·.1)->QZ (σs.at s) (b.at s)/\
   ((∃Gb GW OA,b.at s= .box Gb GW OA/\aA (σa.at s)<Gb)\/∀ver cs ow,σs.at s≠ .box ver cs ow))
 |[],i,σa,_,_,hr=>⟨σa,hr,rfl,λ_ _=>rfl,by simp⟩
 |(s,sh)::l,i,σa,c,hl,hr=>by
  have hd:∃v H7,vs.drop i=v::H7/\vs.drop (i+1)=H7/\vs.getD i .nilIface=v/\Xh σs l=some H7/\
    (match(generalizing:=false) sh,σs.at s with| .val,x=>x.Hv| .BN,.BN v=>some v| .box n ow,.box _ cs OA=>if cs.length=n/\ow.all (OA.contains ·) then some (.agg cs) else none|_,_=>none)=some v:=by
   unfold Xh at c;simp only at c;split at c
   .rename_i v H7 h1 h2;simp only[Bx] at c;refine⟨v,H7,c.symm,?_,?_,h2,h1⟩;.have:=BQ (List.drop 1) c;simpa[Ed] using this.symm
    .have:=BQ (·[0]?) c;simp only[IX,Cu,Bp] at this;simp[List.getD,<-this]
   .cases c
  obtain⟨v,H7,z,aLQ,dI,Ws,Td⟩:=hd;have hlt:s<σa.length:=by rw[hl];refine BL.PY λe=>?_;rw[e] at Td;cases sh<;>simp[Eu.Hv] at Td
  have go:∀(y:Eu),QZ (σs.at s) y->((∃Gb GW OA,y= .box Gb GW OA/\aA (σa.at s)<Gb)\/∀ver cs ow,σs.at s≠ .box ver cs ow)->IT.step (B7 C) run (JF vs l (i+1) (σa.set s y) G) h=some R->
    ∃b,IT.step (B7 C) run (G b) h=some R/\b.length=σa.length/\(∀t,t∉((s,sh)::l).map (·.1)->b.at t=σa.at t)/\(∀t,t∈((s,sh)::l).map (·.1)->QZ (σs.at t) (b.at t)/\
     ((∃Gb GW OA,b.at t= .box Gb GW OA/\aA (σa.at t)<Gb)\/∀ver cs ow,σs.at t≠ .box ver cs ow)):=by
   intro y hy d HM;obtain⟨b,r,q,k,p⟩:=Vr (l:=l) (i:=i+1) (σa:=σa.set s y) (by rw[aLQ];exact Ws) (by simpa using hl) HM;refine⟨b,r,by simpa using q,λt ht=>?_,λt ht=>?_⟩;.simp only[Bd,Aw,not_or] at ht;rw[k t ht.2,BL.FU λe=>ht.1 e.symm]
   .by_cases hm:t∈l.map (·.1)
    .obtain⟨j,m⟩:=p t hm;refine⟨j,m.imp (λ⟨Gb,GW,OA,g,f⟩=>⟨Gb,GW,OA,g,?_⟩) id⟩;by_cases dD:s=t
     .subst dD;rw[BL.Fj hlt] at f;rcases d with⟨A,D,B,rfl,h1⟩|hn
      .simp only[aA] at f;omega
      .rcases j with⟨u,_,e⟩|⟨u,_,e⟩|⟨ver,cs,ow,_,_,e,_⟩
       .rw[g] at e;cases e
       .rw[g] at e;cases e
       .exact absurd e (hn _ _ _)
     .rwa [BL.FU dD] at f
    .have dD:t=s:=by simp only[Bd,Aw] at ht;exact ht.resolve_right hm
     subst dD;rw[k t hm,BL.Fj hlt];exact⟨hy,d⟩
  cases sh with
  |val=>
   simp only[JF,dI] at hr;have vo:(σs.at s).Hv=some v:=by simpa using Td
   refine go (.val v) (.inl ⟨v,vo,rfl⟩) (.inr λver cs ow e=>?_) hr;rw[e] at vo;cases vo
  |BN=>
   simp only[JF,dI] at hr;cases hx:σs.at s with
   |BN u=>rw[hx] at Td;cases Td;exact go (.BN v) (.inr (.inl ⟨v,hx,rfl⟩)) (.inr λver cs ow e=>by rw[hx] at e;cases e) hr
   |_=>rw[hx] at Td;cases Td
  |box n ow=>
   simp only[JF,dI,IT.step] at hr;cases hx:σs.at s with
   |box ver cs OA=>
    rw[hx] at Td;simp only at Td;split at Td
    .rename_i H8;cases Td;split at hr;.rename_i hn;rw[Un hn] at hr;refine go (.box (aA (σa.at s)+1) cs ow) (.inr (.inr ⟨ver,cs,OA,_,ow,hx,rfl,λo ho=>?_⟩)) (.inl ⟨_,_,_,rfl,T2 _⟩) hr;have:=Dc.1 H8.2 o ho;simpa using this
     .cases hr
    .cases Td
   |_=>rw[hx] at Td;cases Td
def C4.aCw(hr:C4 C U0 w0 U Z σ h a w){O:BL}(hl:O.length=σ.length)(hs:∀s,O.at s= .undef\/O.at s=σ.at s\/QZ (σ.at s) (O.at s)):C4 C U0 w0 U Z O h a w:=by
 refine⟨hr.DV,⟨by rw[hl];exact hr.fr.size,λs=>?_⟩,hr.DP,hr.defers,hr.Hs⟩;have h0:=hr.fr.Ir s;rcases hs s with e|e|e
 .rw[e];trivial
 .rw[e];exact h0
 .exact e.rel h0
structure vp(σ0:BL)(ws:List Nat)(l:List (Nat×Sh))(σ':BL)(vs:List Aa):Prop where
 vec:Xh σ' l=some vs
 len:σ'.length=σ0.length
 same:∀s,s∉l.map (·.1)->σ0.at s= .undef\/σ0.at s=σ'.at s
 box:∀s ver cs ow,σ0.at s= .box ver cs ow->∃Gb GW OA,σ'.at s= .box Gb GW OA
def lC{σ0 σ':BL}{l:List (Nat×Sh)}(hk:pE σ0 σ' l=true){s:Nat}(hs:s∉l.map (·.1)):(∀ver cs ow,σ0.at s= .box ver cs ow->∃GW OA,σ'.at s= .box ver GW OA)/\(∀t o,σ0.at s= .E8 t o->∃t' o',σ'.at s= .E8 t' o'):=by
 have hc:(l.map (·.1)).contains s=false:=by
  cases hc:(l.map (·.1)).contains s with
  |false=>rfl
  |true=>exact absurd (by simpa using hc) hs
 have qj:s<σ0.length->(match σ0.at s with
   | .box ver _ _=>(l.map (·.1)).contains s||(match σ'.at s with| .box Gb _ _=>Gb==ver|_=>false)
   | .E8 _ _=>(l.map (·.1)).contains s||(match σ'.at s with| .E8 _ _=>true|_=>false)
   |_=>true)=true:=λhl=>by
  unfold pE at hk;exact Dc.1 hk s (by simpa using hl)
 constructor
 .intro ver cs ow hx;have:=qj (BL.PY (by rw[hx];simp));rw[hx] at this;simp only[hc,JE] at this;split at this
  .rename_i Gb GW OA hy;have e:Gb=ver:=by simpa using this
   subst e;exact⟨GW,OA,hy⟩
  .cases this
 .intro t o hx;have:=qj (BL.PY (by rw[hx];simp));rw[hx] at this;simp only[hc,JE] at this;split at this;.rename_i t' o' hy;exact⟨t',o',hy⟩
  .cases this
def P8{σ0 b σ':BL}{ws:List Nat}{l:List (Nat×Sh)}{x:F6}{R:J7}(V6:IT.step (B7 C) run (Dt σ0 l x σ') h=some R)(ji:HC ws b σ')(hlen:b.length=σ0.length)
  (Zh:∀s,s∈ws->σ0.at s= .undef) (N2:∀s,s∉l.map (·.1)->σ0.at s= .undef\/σ0.at s=b.at s) (aLR:∀s ver cs ow,σ0.at s= .box ver cs ow->∃Gb GW OA,b.at s= .box Gb GW OA):
  ∃vs,R=(x,vs,h)/\vp σ0 ws l σ' vs:=by
 unfold Dt at V6;split at V6
 .rename_i hk;split at V6
  .rename_i vs q;cases V6;refine⟨vs,rfl,q,ji.1.trans hlen,λs hs=>?_,λs ver cs ow hb=>?_⟩
   .by_cases hw:s∈ws;.exact .inl (Zh s hw)
    .rcases N2 s hs with e|e
     .exact .inl e
     .right;have Ua:=ji.2 s hw;obtain⟨i,g⟩:=lC hk hs;rw[e] at i g⊢;cases hx:b.at s with
      |box ver cs ow=>rw[hx] at Ua;obtain⟨n,r,p,c,_,d⟩:=Ua;obtain⟨k,f,j⟩:=i ver cs ow hx;rw[c] at j;cases j;obtain⟨rfl,rfl⟩:=d rfl;exact c.symm
      |E8 t o=>
       rw[hx] at Ua;rcases Ua with c|c
       .exact c.symm
       .obtain⟨t',o',d⟩:=g t o hx;rw[c] at d;cases d
      |_=>rw[hx] at Ua;exact(show σ'.at s=_ from Ua).symm
   .have hw:s∉ws:=λhw=>by rw[Zh s hw] at hb;cases hb
    obtain⟨n,r,p,c⟩:=aLR s ver cs ow hb;have Ua:=ji.2 s hw;rw[c] at Ua;obtain⟨m,k,f,d,_⟩:=Ua;exact⟨m,k,f,d⟩
  .cases V6
 .cases V6
def vp.next{σ0 σ':BL}{ws:List Nat}{l:List (Nat×Sh)}{vs:List Aa}(he:vp σ0 ws l σ' vs){G:BL->IT}{R:J7}(hr:C4 C U0 w0 U Z σ' h a w)(AI:IT.step (B7 C) run (JF vs l 0 σ0 G) h=some R):
  ∃b,IT.step (B7 C) run (G b) h=some R/\C4 C U0 w0 U Z b h a w/\b.length=σ0.length/\(∀s,s∉l.map (·.1)->b.at s=σ0.at s)/\(∀s ver cs ow,σ0.at s= .box ver cs ow->∃Gb GW OA,b.at s= .box Gb GW OA/\(s∈l.map (·.1)->ver<Gb)):=by
 obtain⟨b,i,f,c,d⟩:=Vr (σs:=σ') (by simpa using he.vec) he.len.symm AI;refine⟨b,i,hr.aCw (f.trans he.len.symm) λs=>?_,f,c,λs ver cs ow hb=>?_⟩
 .by_cases hm:s∈l.map (·.1);.exact .inr (.inr (d s hm).1)
  .rw[c s hm];rcases he.same s hm with e|e
   .exact .inl e
   .exact .inr (.inl e)
 .by_cases hm:s∈l.map (·.1)
  .obtain⟨_,q⟩:=d s hm;obtain⟨m,o,n,k⟩:=he.box s ver cs ow hb;rcases q with⟨Gb,GW,OA,j,g⟩|q
   .exact⟨Gb,GW,OA,j,λ_=>by rw[hb] at g;exact g⟩
   .exact absurd k (q _ _ _)
  .exact⟨ver,cs,ow,by rw[c s hm];exact hb,λh=>absurd h hm⟩
def P9{σ σ0 b:BL}{ws W:List Nat}{l:List (Nat×Sh)}(h0:σ0=σ.clear ws)(g:sn l ws σ=true)(hl:b.length=σ0.length)(h1:∀s,s∉l.map (·.1)->b.at s=σ0.at s)
  (h2:∀s ver cs ow,σ0.at s= .box ver cs ow->∃Gb GW OA,b.at s= .box Gb GW OA/\(s∈l.map (·.1)->ver<Gb)) (i:∀s∈ws,s∈W):HC W σ b:=by
 refine⟨by rw[hl,h0,BL.Kl],λs hs=>?_⟩;have ÿ:s∉ws:=λhm=>hs (i s hm);have c:σ0.at s=σ.at s:=by rw[h0,BL.IH,if_neg ÿ]
 by_cases hm:s∈l.map (·.1)
 .obtain⟨p,hp,rfl⟩:=Bb.1 hm;have:=Dc.1 g p hp;simp only[Jy,aGK] at this;rcases this with this|this
  .exact absurd this ÿ
  .cases hx:σ.at p.1 with
   |box ver cs ow=>obtain⟨d,m,f,k,j⟩:=h2 p.1 ver cs ow (by rw[c];exact hx);have:=j hm;exact⟨d,m,f,k,by omega,λe=>by omega⟩
   |_=>rw[hx] at this;cases this
 .rw[h1 s hm,c];exact .refl _
def E2.le{n m:Nat}(h:E2 C (IT.run (B7 C) n))(b:m<=n):E2 C (IT.run (B7 C) m):=⟨h.1,λf args h0 r h' AI=>h.2 f args h0 r h' (IT.Ij b AI)⟩
def vq(hm:C.P.follows .mixedOrders=true):∀(c:Code) (n:Nat),E2 C (IT.run (B7 C) n)->∀{K:F6->BL->IT} {R:J7} {σ:BL} {h:Ae} {a:Act} {w:World} {U:Gh} {Z:Nat->Nat} {Q:Exit->Act->World->Prop},
  IT.step (B7 C) (IT.run (B7 C) n) (Gc C fid c σ K) h=some R->C4 C U0 w0 U Z σ h a w->
  (∀x f d σ' h' a' w',IT.step (B7 C) (IT.run (B7 C) n) (K x σ') h'=some R->HC (C3 c++Cc c) σ σ'->C4 C U0 w0 f d σ' h' a' w'->Q (vn x) a' w')->c.wp C.P Q a w:=by
 intro c;induction c with
 |skip=>intro n p K R σ h a w U Z Q AI hr g;exact wp_skip (g .normal U Z σ h a w AI (.refl _ _) hr)
 |region id ops draw=>
  intro n p K R σ h a w U Z Q AI hr g;simp only[Gc] at AI;split at AI;.exact XM hm p AI hr λf d σ' h' a' w' h1 h2 h3=>g .normal f d σ' h' a' w' h1 h2 h3
  .rename_i l hl;unfold cY at AI;simp only at AI;split at AI
   .rename_i D;simp only[IT.step] at AI;split at AI
    .rename_i x vs h1 XN;refine XM hm p XN hr λf d σ' h' a' w' z u q=>?_;obtain⟨H7,e,he⟩:=P8 (h:=h') z u (by rw[BL.Kl]) (λs hs=>by rw[BL.IH,if_pos hs]) (λs _=>by rw[BL.IH];split<;>simp) (λs ver cs ow hb=>by
      rw[BL.IH] at hb;split at hb;.cases hb
      .exact⟨ver,cs,ow,hb⟩)
     cases e;obtain⟨k,F,E,L,J,I⟩:=he.next q AI;exact g .normal f d k h1 a' w' F (P9 rfl D L J I (λs hs=>hs)) E
    .cases AI
   .cases AI
 |seq x y B A=>
  intro n p K R σ h a w U Z Q AI hr g;simp only[Gc] at AI;refine wp_seq (B n p AI hr λe f d σ' h' a' w' h1 h2 h3=>?_);have up:∀j,HC (C3 x++Cc x) σ j->HC (C3 (.seq x y)++Cc (.seq x y)) σ j:=λj ho=>ho.mono λs hs=>by simp only[C3,Cc,Aj] at hs⊢;rcases hs with hs|hs<;>simp[hs]
  cases e with
  |normal=>refine A n p h1 h3 λY U2 Z2 j jT a2 w2 z u q=>g Y U2 Z2 j jT a2 w2 z ((up _ h2).trans (u.mono λs hs=>?_)) q;simp only[C3,Cc,Aj] at hs⊢;rcases hs with hs|hs<;>simp[hs]
  |exit i=>exact g (.exit i) f d σ' h' a' w' h1 (up _ h2) h3
  |ret=>exact g .ret f d σ' h' a' w' h1 (up _ h2) h3
 |cond c x y B A=>
  intro n p K R σ h a w U Z Q AI hr g;have N:∀{o j:BL},HC (C3 x++Cc x) o j->HC (C3 (.cond c x y)++Cc (.cond c x y)) o j:=λ{o j} ho=>ho.mono λs hs=>by cases c<;>simp only[C3,Cc,Aj,Aw] at hs⊢<;>rcases hs with hs|hs<;>simp[hs]
  have M:∀{o j:BL},HC (C3 y++Cc y) o j->HC (C3 (.cond c x y)++Cc (.cond c x y)) o j:=λ{o j} ho=>ho.mono λs hs=>by cases c<;>simp only[C3,Cc,Aj,Aw] at hs⊢<;>rcases hs with hs|hs<;>simp[hs]
  simp only[Gc] at AI;split at AI;.rename_i hc;obtain⟨s,h1,_⟩:=Gd hr hc;exact wp_cond_true h1 (B n p AI hr λe f d σ' h' a' w' z u q=>g e f d σ' h' a' w' z (N u) q)
  .rename_i hc;obtain⟨s,h1,_⟩:=Gd hr hc;exact wp_cond_false h1 (A n p AI hr λe f d σ' h' a' w' z u q=>g e f d σ' h' a' w' z (M u) q)
  .rename_i s v hc;have T:σ.at s= .val v:=Ha hc;have h0:=hr.fr.Ir s;rw[T] at h0;have G:∀{S:F6->BL->IT} {R':J7} {Q':Exit->Act->World->Prop},IT.step (B7 C) (IT.run (B7 C) n) (.AJ v (Gc C fid x (σ.set s (.PH true)) S) (Gc C fid y (σ.set s (.PH false)) S)) h=some R'->
     (∀e f d σ' h' a' w',IT.step (B7 C) (IT.run (B7 C) n) (S e σ') h'=some R'->HC (C3 (.cond (.tmp s) x y)++Cc (.cond (.tmp s) x y)) σ σ'->C4 C U0 w0 f d σ' h' a' w'->Q' (vn e) a' w')->(Code.cond (.tmp s) x y).wp C.P Q' a w:=by
    intro S R' Q' XL O;have js:∀b:Bool,HC (C3 (.cond (.tmp s) x y)++Cc (.cond (.tmp s) x y)) σ (σ.set s (.PH b)):=λb=> .set (by simp[Cc]);simp only[IT.step] at XL;split at XL;.have D:a.eval (.tmp s)= .bool true:=h0;exact wp_cond_true D (B n p XL (hr.j3 h0) λe f d σ' h' a' w' z u q=>O e f d σ' h' a' w' z ((js true).trans (N u)) q)
    .have D:a.eval (.tmp s)= .bool false:=h0;exact wp_cond_false D (A n p XL (hr.j3 h0) λe f d σ' h' a' w' z u q=>O e f d σ' h' a' w' z ((js false).trans (M u)) q)
    .cases XL
   split at AI;.exact G AI g
   .rename_i l hl;unfold cY at AI;simp only at AI;split at AI
    .rename_i D;simp only[IT.step] at AI;split at AI
     .rename_i e vs h1 XN;refine G XN λY f d σ' h' a' w' z u q=>?_;obtain⟨H7,eq,he⟩:=P8 (h:=h') (ws:=s::(C3 x++C3 y++Cc x++Cc y)) z (u.mono λt ht=>by
        simp only[C3,Cc,Aj,Aw] at ht⊢;rcases ht with(ht|ht)|ht|ht|ht<;>simp[ht]) (by rw[BL.Kl]) (λt ht=>by rw[BL.IH,if_pos ht]) (λt _=>by rw[BL.IH];split<;>simp) (λt ver cs ow hb=>by
       rw[BL.IH] at hb;split at hb;.cases hb
       .exact⟨ver,cs,ow,hb⟩)
      cases eq;obtain⟨k,F,E,L,J,I⟩:=he.next q AI;exact g e f d k h1 a' w' F (P9 rfl D L J I (λt ht=>by simp only[C3,Cc,Aj,Aw] at ht⊢;rcases ht with ht|((ht|ht)|ht)|ht<;>simp[ht])) E
     .cases AI
    .cases AI
  .cases AI
 |block id b ih=>
  intro n p K R σ h a w U Z Q AI hr g;simp only[Gc] at AI;refine wp_block (ih n p AI hr λe f d σ' h' a' w' h1 h2 h3=>?_);cases e with
  |normal=>exact g .normal f d σ' h' a' w' h1 h2 h3
  |exit i=>
   simp only at h1;show if i=id then Q .normal a' w' else Q (.exit i) a' w'
   by_cases hi:i=id;.rw[if_pos hi] at h1⊢;exact g .normal f d σ' h' a' w' h1 h2 h3
   .rw[if_neg hi] at h1⊢;exact g (.exit i) f d σ' h' a' w' h1 h2 h3
  |ret=>exact g .ret f d σ' h' a' w' h1 h2 h3
 |loop b ih=>
  intro n p K R σ h a w U Z Q AI hr g;simp only[Gc] at AI;generalize hl:C.aB3 fid ((GC b).getD 0)=l at AI;generalize aSr:(GC b).getD 0=key at AI;generalize h0:σ.clear (C3 b++Cc b)=σ0 at AI;split at AI
  .rename_i D;split at AI;.cases AI
   .rename_i init aHf;have aHg:σ0.length=σ.length:=by rw[<-h0,BL.Kl]
    have Zh:∀s,s∈C3 b++Cc b->σ0.at s= .undef:=λs hs=>by rw[<-h0,BL.IH,if_pos hs]
    refine dP (λm a w=>∃U Z o h vs,C4 C U0 w0 U Z o h a w/\vp σ0 (C3 b++Cc b) l o vs/\m<=n+1/\
     IT.run (B7 C) m (.loop key vs (λvs=>JF vs l 0 σ0 λk=>Gc C fid b k λx σ'=>Dt σ0 l x σ') λx vs=>JF vs l 0 σ0 λσ'=>aAR K x σ') h=some R) ?_ (n+1) a w
     ⟨U,Z,σ,h,init,hr,⟨aHf,aHg.symm,λs _=>by rw[<-h0,BL.IH];split<;>simp,λs ver cs ow hb=>by
      rw[<-h0,BL.IH] at hb;split at hb;.cases hb
      .exact⟨ver,cs,ow,hb⟩⟩,Ab _,AI⟩
    rintro m a1 w1 ⟨U1,Z1,o,h1,vs,J8,V,hmn,Ja⟩;cases m with
    |zero=>simp[IT.run] at Ja
    |succ m=>
     simp only[IT.run,IT.step] at Ja;have body:∀{x:F6} {H7:List Aa} {h':Ae},IT.step (B7 C) (IT.run (B7 C) m) (JF vs l 0 σ0 λk=>Gc C fid b k λx σ'=>Dt σ0 l x σ') h1=some (x,H7,h')->∀{Q':Exit->Act->World->Prop},
       (∀f d σ' a' w',C4 C U0 w0 f d σ' h' a' w'->vp σ0 (C3 b++Cc b) l σ' H7->Q' (vn x) a' w')->b.wp C.P Q' a1 w1:=by
      intro x H7 h' hb Q' X;obtain⟨k,F,E,L,J,I⟩:=V.next J8 hb;refine ih m (p.le (by omega)) F E λy f d σ' h2 a' w' z u q=>?_;obtain⟨vs2,eq,he⟩:=P8 z u L Zh (λs hs=> .inr (J s hs).symm) λs ver cs ow hb=>by obtain⟨v1,c1,o1,e1,_⟩:=I s ver cs ow hb;exact⟨v1,c1,o1,e1⟩
      cases eq;exact X f d σ' a' w' q he
     split at Ja;.rename_i H7 h' hb;exact body hb λf d σ' a' w' HM lD=>⟨m,T2 m,f,d,σ',h',H7,HM,lD,by omega,Ja⟩
     .rename_i x H7 h' hne hb;refine body hb λf d σ' a' w' HM lD=>?_;have Vq:=IT.JT (λt h r=>IT.Ij (fn:=B7 C) (show m<=n by omega)) _ _ _ Ja;obtain⟨k,F,E,L,J,I⟩:=lD.next HM Vq;have ho:=P9 h0.symm D L J I λs hs=>hs;cases x with
      |normal=>exact absurd rfl hne
      |exit i=>exact g _ f d k h' a' w' F ho E
      |ret=>exact g _ f d k h' a' w' F ho E
     .cases Ja
  .cases AI
 |exit id=>intro n p K R σ h a w U Z Q AI hr g;exact wp_exit (g (.exit id) U Z σ h a w AI (.refl _ _) hr)
 |ret=>intro n p K R σ h a w U Z Q AI hr g;exact wp_ret (g .ret U Z σ h a w AI (.refl _ _) hr)
 |label l=>intro n p K R σ h a w U Z Q AI hr g;exact wp_label (g .normal U Z σ h a w AI (.refl _ _) hr)
 |scope b ih=>
  intro n p K R σ h a w U Z Q AI hr g;simp only[Gc] at AI;refine wp_scope_straight (ih n p AI hr λe f d σ' h' a' w' h1 h2 h3=>?_);cases e with
  |normal=>exact g .normal f d σ' h' a' w' h1 h2 h3
  |exit i=>exact g (.exit i) f d σ' h' a' w' h1 h2 h3
  |ret=>exact g .ret f d σ' h' a' w' h1 h2 h3
 |_=>intros n p K R σ h a w U Z Q AI hr g;cases AI
end
end Go.Am
end
section
namespace Go.Am
open Go
section
variable{C:FT}{U0 U:Gh}{w0 w:World}{Z:Nat->Nat}{σ:BL}{h:Ae}{a:Act}{fid:FuncId}{run:IT->Ae->Option J7}
def II(tmps:Array Value):ResultVar->Sem Value
 | .tmp t=>pure (tmps.getD t undef)
 | .cell a t=>do loadVar t (<-asAddr (tmps.getD a undef))
def Te{P:Program}{t:TypeId}{b o:Nat}{v:Value}(h:(Instr.loadAt t (.pointer (some ⟨b,o,none⟩))).run P w= .ok v w):(loadVar t ⟨b,o,none⟩).run P w= .ok v w:=by simpa[Instr.loadAt,Instr.sureAddr] using h
def Vs{K:List Aa->IT}{R:J7}:∀{rs:List ResultVar} {DP:List Aa},IT.step (B7 C) run (Gv C σ rs DP K) h=some R->C4 C U0 w0 U Z σ h a w->
  ∃vs us,(rs.mapM (II a.tmps)).run C.P w= .ok us w/\A3 U vs us/\IT.step (B7 C) run (K (DP.reverse++vs)) h=some R
 |[],DP,AI,hr=>⟨[],[],by simp,rfl,by simpa[Gv] using AI⟩
 |g::rs,DP,AI,hr=>by
  have one:∀(v:Aa) (u:Value),(II a.tmps g).run C.P w= .ok u w->BJ U v u->IT.step (B7 C) run (Gv C σ rs (v::DP) K) h=some R->
    ∃vs us,((g::rs).mapM (II a.tmps)).run C.P w= .ok us w/\A3 U vs us/\IT.step (B7 C) run (K (DP.reverse++vs)) h=some R:=by
   intro v u h1 h2 h3;obtain⟨vs,us,z,y,x⟩:=Vs h3 hr;refine⟨v::vs,u::us,?_,⟨u,us,rfl,h2,y⟩,by simpa using x⟩;simp[List.mapM_cons,h1,z]
  cases g with
  |tmp t=>
   simp only[Gv] at AI;split at AI;.rename_i v c;exact one v _ (by simp[II]) (N4 (hr.fr.Ir t) c) AI
   .cases AI
  |cell p t=>
   have d:∀(b o:Nat) (v:Aa),a.tmps.getD p undef= .pointer (some ⟨b,o,none⟩)->(∃u,(Instr.loadAt t (.pointer (some ⟨b,o,none⟩))).run C.P w= .ok u w/\BJ U v u)->IT.step (B7 C) run (Gv C σ rs (v::DP) K) h=some R->
     ∃vs us,((ResultVar.cell p t::rs).mapM (II a.tmps)).run C.P w= .ok us w/\A3 U vs us/\IT.step (B7 C) run (K (DP.reverse++vs)) h=some R:=by
    intro b o v hp ⟨u,h1,h2⟩ h3;refine one v u ?_ h2 h3;simp only[II,hp,asAddr,Sem.run_bind,Sem.run_pure,Result.andThen_ok];exact Te h1
   simp only[Gv] at AI;split at AI
   .rename_i s off ver cs ow ht ha;split at AI;.rename_i hlt;obtain⟨hs,hx⟩:=LA hr ha;obtain⟨u,l,i,_⟩:=Ll hr ht hs (r:=cs.getD off .nilIface) (off:=off) (by simp[Fg,List.getD,An hlt]);exact d _ _ _ hx ⟨u,l,i⟩ AI
    .cases AI
   .rename_i n s off ver cs ow ht ha;split at AI;.rename_i EC;obtain⟨hs,hx⟩:=LA hr ha;obtain⟨u,l,i,_⟩:=Ll hr ht hs (r:= .agg ((cs.drop off).take n)) (off:=off) (by simp[Fg,EC]);exact d _ _ _ hx ⟨u,l,i⟩ AI
    .cases AI
   .rename_i n p' ht ha;simp only[IT.step] at AI;split at AI
    .rename_i v c;have vQ:=R5 hr ha;unfold Bg at c;split at c;.rename_i cs;obtain⟨b,k,kP,hm⟩:=vQ;obtain⟨us,m,f⟩:=hm.values;exact d b k v kP (IG (w:=w) ht m (λj u hj=>(hr.DV.Iw _ _ _ (f j u hj)).1) (λu hu=>by obtain⟨j,hj⟩:=CG hu;exact(hr.DV.Iw _ _ _ (f j u hj)).2.1) c) AI
     .rename_i id off;obtain⟨b,hb,kP⟩:=vQ;split at c
      .rename_i cs hcs;obtain⟨us,e,fr,m,pf,f,q⟩:=hr.DV.cells id cs hcs b hb;refine d b off v kP (IG (w:=w) (b:=b) (o:=off) ht (f.drop off) (λj u hj=>?_) (λu hu=>q u (Bc hu)) (P2 c)) AI;rw[cell_of_row w _ _ us e fr m];rw[Cu,Co] at hj;split at hj;.simpa using hj
       .cases hj
      .cases c
     .cases c
    .cases AI
   .cases AI
def C4.IC(hr:C4 C U0 w0 U Z σ h a w){p:Aa}{off:Nat}{u:Value}{h':Ae}(hp:BJ U p u)(hf:KQ h off p=some h'):∃A,C4 C U0 w0 A Z σ h' a w:=by
 unfold KQ at hf;split at hf;.cases hf;exact⟨U,hr⟩
 .rename_i id s;generalize s+off=o at hf;obtain⟨b,hb,_⟩:=hp;split at hf
  .rename_i cs hcs;split at hf
   .rename_i v k;obtain⟨us,e,fr,c,pf,r,D⟩:=hr.DV.cells id cs hcs b hb;obtain⟨x,hx,g⟩:=r.get k;cases hq:Lt h v with
    |none=>rw[hq] at hf;cases hf
    |some q=>
     obtain⟨h1,v'⟩:=q;rw[hq] at hf;simp only[Ck] at hf;split at hf
     .rename_i GW aHh;cases hf;obtain⟨U1,EC,J8,Ě⟩:=hr.VR g hq;have Qa:=EC.mu _ _ hb;obtain⟨l,E,t,j,m,r2,n⟩:=J8.DV.cells id GW aHh b Qa;rw[c] at j;cases j;have js:A3 U1 (GW.set o v') (us.toList.take (GW.set o v').length):=by
       rw[BY];refine A3.GZ (by simp[r2.length]) λi y z hy hz=>?_;by_cases hi:o=i
       .subst hi;by_cases hlt:o<GW.length
        .rw[AB hlt] at hy;cases hy;have f:x=z:=by rw[CC hlt] at hz;have aLT:o<cs.length:=(Af.1 k).1;rw[CC aLT] at hx;rw[hx] at hz;exact C0 hz
         rw[<-f];exact Ě
        .rw[D4 (by simpa using hlt)] at hy;cases hy
       .rw[Al hi] at hy;obtain⟨B,Zp,d⟩:=r2.get hy;rw[hz] at Zp;cases Zp;exact d
      obtain⟨jS,Us⟩:=N1 J8.DV aHh Qa c us (GW.set o v') rfl m js (by rw[BY];exact n);rw[setRow_self w b us e fr c] at jS Us;exact⟨U1,J8.I8 jS Us⟩
     .cases hf
   .cases hf
  .cases hf
 .cases hf
def v8{t:IT}{R:J7}:∀{l:List (Nat×Nat)} {U:Gh} {h:Ae},IT.step (B7 C) run (vG C σ l t) h=some R->C4 C U0 w0 U Z σ h a w->∃b h',C4 C U0 w0 b Z σ h' a w/\IT.step (B7 C) run t h'=some R
 |[],U,h,AI,hr=>⟨U,h,hr,AI⟩
 |(s,off)::l,U,h,AI,hr=>by
  simp only[vG] at AI;split at AI
  .rename_i p hp;simp only[IT.step] at AI;split at AI;.rename_i h1 hf;obtain⟨U1,J8⟩:=hr.IC (N4 (hr.fr.Ir s) hp) hf;exact v8 AI J8
   .cases AI
  .cases AI
def XO{R:J7}:∀{vs DP:List Aa} {U:Gh} {h:Ae} {us qa:List Value},IT.step (B7 C) run (PV vs DP Vf) h=some R->C4 C U0 w0 U Z σ h a w->A3 U vs us->A3 U DP.reverse qa->
  ∃c h' H7,C4 C U0 w0 c Z σ h' a w/\A3 c H7 (qa++us)/\IT.step (B7 C) run (Vf H7) h'=some R
 |[],DP,U,h,us,qa,AI,hr,h1,h2=>by rw[show us=[] from h1,A8];exact⟨U,h,DP.reverse,hr,h2,AI⟩
 |v::vs,DP,U,h,us,qa,AI,hr,h1,h2=>by
  obtain⟨u,DB,rfl,g,h1⟩:=h1;simp only[PV,IT.step] at AI;split at AI
  .rename_i h3 v' hf;obtain⟨U1,EC,J8,Ě⟩:=hr.VR g hf;have j:A3 U1 (v'::DP).reverse (qa++[u]):=by rw[EA];exact(A3.mono EC _ _ h2).append ⟨u,[],rfl,Ě,rfl⟩
   obtain⟨k,i,b,f,e,d⟩:=XO AI J8 (A3.mono EC _ _ h1) j;exact⟨k,i,b,f,by rwa [AT] at e,d⟩
  .cases AI
def wA{R:J7}{vs:List Aa}{us:List Value}{U:Gh}{h:Ae}(AI:IT.step (B7 C) run (Vf vs) h=some R)(b:A3 U vs us):
  ∃r,R=(.ret,[r],h)/\BJ U r (if d:us.toArray.size=1 then us.toArray[0] else .tuple us.toArray):=by
 unfold Vf at AI;split at AI;.rename_i v;obtain⟨u,DB,rfl,c,hnil⟩:=b;rw[show DB=[] from hnil];simp only[IT.step] at AI;cases AI;exact⟨v,rfl,by simpa using c⟩
 .rename_i hne;simp only[IT.step] at AI;cases AI;have hlen:us.length≠1:=λe=>by have:=b.length;rw[e] at this;obtain⟨v,b⟩:=aGi.1 this.symm;exact hne v b
  refine⟨_,rfl,?_⟩;rw[dif_neg (by simpa using hlen)];exact⟨us.toArray,rfl,by simpa using b⟩
def Vt{fn:Func}{tmps:Array Value}{us:List Value}(h:(fn.results.toList.mapM (II tmps)).run C.P w= .ok us w):(results fn tmps).run C.P w= .ok (if b:us.toArray.size=1 then us.toArray[0] else .tuple us.toArray) w:=by
 have e:fn.results.mapM (II tmps)=(do let l<-fn.results.toList.mapM (II tmps);pure l.toArray:Sem (Array Value)):=by rw[Array.mapM_eq_mapM_toList];simp
 have c:results fn tmps=(do let vs<-fn.results.mapM (II tmps);pure (if b:vs.size=1 then vs[0] else .tuple vs):Sem Value):=by unfold results;congr 2
 rw[c,e];simp only[Sem.run_bind,h,Result.andThen_ok,Sem.run_pure]
def Ĩ{fn:Func}{R:J7}(AI:IT.step (B7 C) run (j2 C fid fn σ) h=some R)(hr:C4 C U0 w0 U Z σ h a w):
  ∃r h' v f,R=(.ret,[r],h')/\(results fn a.tmps).run C.P w= .ok v w/\HY f h' w/\ME U0 w0 f w/\BJ f r v/\(C.Kf fid=true->∃s c,Jm f w0.heap.size w s c v r):=by
 unfold j2 at AI;split at AI;.cases AI
 .rename_i Fv;obtain⟨U1,h1,J8,Ja⟩:=v8 AI hr;by_cases ho:C.Kf fid=true
  .have g:∃t x,fn.results.toList=[.tmp t]/\σ.at t= .BN x:=by
    have:QU σ fn.results.toList=true:=by
     cases hq:QU σ fn.results.toList with
     |true=>rfl
     |false=>exact absurd (by simp[ho,hq]) Fv
    unfold QU at this;split at this
    .rename_i t KD;split at this;.rename_i x hx;exact⟨t,x,KD,hx⟩
     .cases this
    .cases this
   obtain⟨t,x,d,hx⟩:=g;have h0:=J8.fr.Ir t;rw[hx] at h0;have ĩ:=Vt (C:=C) (w:=w) (fn:=fn) (tmps:=a.tmps) (us:=[a.tmps.getD t undef]) (by rw[d];simp[II]);rw[d] at Ja;simp only[Gv,hx,Eu.Hv,EA,T1,Bw] at Ja;have aHi:Lt h1 x=some (h1,x):=by rcases h0.2 with(rfl|⟨_,rfl⟩)|⟨_,_,_,_,_,_,_,rfl,_⟩<;>rfl
   have hR:R=(.ret,[x],h1):=by
    split at Ja;.simp only[PV,IT.step,aHi,EA,T1,Bw,Vf] at Ja;cases Ja;rfl
    .simp only[IT.step,Vf] at Ja;cases Ja;rfl
   exact⟨x,h1,_,U1,hR,by simpa using ĩ,J8.DV,J8.DP,h0.1,λ_=>⟨t,none,h0.2⟩⟩
  .obtain⟨vs,us,n,k,Vq⟩:=Vs Ja J8;simp only[T1,Bw] at Vq;have ĩ:=Vt (C:=C) n;split at Vq;.obtain⟨o,h2,l,j,i,m⟩:=XO Vq J8 k (qa:=[]) rfl;rw[Bw] at i;obtain⟨r,hR,b⟩:=wA m i;exact⟨r,h2,_,o,hR,ĩ,j.DV,j.DP,b,λe=>absurd e ho⟩
   .obtain⟨r,hR,b⟩:=wA Vq k;exact⟨r,h1,_,U1,hR,ĩ,J8.DV,J8.DP,b,λe=>absurd e ho⟩
def C4.start{U:Gh}{h:Ae}{w:World}(hi:HY U h w)(hg:∀g cs,C.Hs g=some cs->CU U cs g 0){args:List Aa}{cargs:Array Value}(ha:A3 U args cargs.toList)(n:Nat)(Z:Nat->Nat):
  C4 C U w U Z (args.map .val++List.replicate (n-args.length) .undef) h {tmps:=cargs++Array.replicate (n-cargs.size) undef,defers:=[]} w:=by
 have hlen:cargs.size=args.length:=by have:=ha.length;simpa using this
 refine⟨hi,⟨by simp[hlen],λs=>?_⟩,ME.refl U w,rfl,hg⟩;by_cases hs:s<args.length
 .have h1:BL.at (args.map .val++List.replicate (n-args.length) .undef) s= .val args[s]:=by simp[BL.at,List.getD,Ah,hs]
  obtain⟨u,hu,hr⟩:=ha.get (An hs);have h2:(cargs++Array.replicate (n-cargs.size) undef).getD s undef=u:=by
   rw[Hn,Array.getElem?_append_left (by omega)];have:cargs[s]?=some u:=by simpa using hu
   rw[this];rfl
  rw[h1,h2];exact hr
 .have h1:BL.at (args.map .val++List.replicate (n-args.length) .undef) s= .undef:=by
   have hm:(args.map Eu.val).length=args.length:=by simp
   simp only[BL.at,List.getD];rw[Bi (by omega),List.getElem?_replicate];split<;>rfl
  rw[h1];trivial
def dR(C:FT):Prop:=
 (∀f,C.Nf f=true->ui C f)/\∀(f:FuncId) (p:List Aa->IT),C.aB4 f=some p->∀n,E2 C (IT.run (B7 C) n)->∀(args:List Aa) (h:Ae) (r:Aa) (h':Ae),IT.step (B7 C) (IT.run (B7 C) n) (p args) h=some (.ret,[r],h')->
  (∃fn c,C.P.funcs[EU f]?=some fn/\(fn.name== "runtime.NumGoroutine")=false/\fn.body=some c)/\
  ∀(U:Gh) (w:World) (cargs:Array Value),HY U h w->(∀g cs,C.Hs g=some cs->CU U cs g 0)->A3 U args cargs.toList->
   Calls C.P (EU f) cargs w λe w'=>match e with
    | .returned v=>∃b,HY b h' w'/\ME U w b w'/\BJ b r v/\(C.Kf f=true->∃s c,Jm b w.heap.size w' s c v r)
    |_=>False
def lE(hm:C.P.follows .mixedOrders=true)(Ī:∀g cs,C.Hs g=some cs->cs.all Aa.Nh=true)(Ā:dR C):∀n,E2 C (IT.run (B7 C) n)
 |0=>⟨⟨Ī,Ā.1⟩,λf args h r h' AI=>by simp[IT.run] at AI⟩
 |n+1=>⟨⟨Ī,Ā.1⟩,λf args h r h' AI=>by
  have ih:=lE hm Ī Ā n;simp only[IT.run] at AI;unfold B7 at AI;split at AI;.rename_i p hp;exact Ā.2 f p hp n ih args h r h' AI
  unfold aGR at AI;split at AI
  .rename_i fn hf;split at AI;.cases AI
   .rename_i hname;unfold so at AI;split at AI;.cases AI
    .rename_i c hb;refine⟨⟨fn,c,hf,by simpa using hname,hb⟩,λU w cargs hi hg ha=>calls_of_wp hf hb ?_⟩;refine vq (C:=C) (fid:=f) hm c n ih AI (C4.start hi hg ha fn.ntmps (λ_=>0)) λx u t σ' h1 a' w' d _ j=>?_;have Jd:IT.step (B7 C) (IT.run (B7 C) n) (j2 C f fn σ') h1=some (.ret,[r],h')->a'.defers=[]/\∃v,(results fn a'.tmps).run C.P w'= .ok v w'/\∃b,HY b h' w'/\ME U w b w'/\BJ b r v/\(C.Kf f=true->∃s c,Jm b w.heap.size w' s c v r):=λaLV=>by obtain⟨r',h2,v,b,e,q,o,m,l,k⟩:=Ĩ aLV j;cases e;exact⟨j.defers,v,q,b,o,m,l,k⟩
     cases x with
     |normal=>exact Jd d
     |ret=>exact Jd d
     |exit i=>cases d
  .cases AI⟩
end
def Ev.calls{C:FT}(hm:C.P.follows .mixedOrders=true)(Ī:∀g cs,C.Hs g=some cs->cs.all Aa.Nh=true)(Ā:dR C){f:FuncId}{args:List Aa}{h:Ae}{Q:Aa->Ae->Prop}(PI:Ev C f args h Q){U:Gh}{w:World}{cargs:Array Value}(hi:HY U h w)(hg:∀g cs,C.Hs g=some cs->CU U cs g 0)(ha:A3 U args cargs.toList):
  Calls C.P (EU f) cargs w λe w'=>match e with
   | .returned v=>∃r h' b,Q r h'/\HY b h' w'/\ME U w b w'/\BJ b r v
   |_=>False:=by
 obtain⟨n,x,vs,h',AI,rfl,r,rfl,hQ⟩:=PI;refine(((lE hm Ī Ā n).2 f args h r h' AI).2 U w cargs hi hg ha).mono λe w' he=>?_;cases e with
 |returned v=>obtain⟨b,i,d,c,_⟩:=he;exact⟨r,h',b,hQ,i,d,c⟩
 |_=>exact he
end Go.Am
end
section
namespace Go.Am
open Go
inductive Ty where
 |bool
 |int (k:IntKind)
 |str
 |sl (e:Ty)
 |st (fs:List Ty)
 deriving Inhabited
mutual
def Ty.size:Ty->Nat
 | .bool| .int _| .str| .sl _=>1
 | .st fs=>Ty.Ns fs
def Ty.Ns:List Ty->Nat
 |[]=>0
 |t::ts=>Ty.size t+Ty.Ns ts
end
mutual
def NM(P:Program):Ty->TypeId->Bool
 | .bool,t=>match P.underlying t with|some .bool=>true|_=>false
 | .int k,t=>match P.underlying t with|some (.int k')=>decide (k'=k)|_=>false
 | .str,t=>match P.underlying t with|some .string=>true|_=>false
 | .sl e,t=>match P.underlying t with
  |some (.slice b)=>P.cellsOf b==Ty.size e&&decide (0<Ty.size e)&&NM P e b
  |_=>false
 | .st fs,t=>match P.underlying t with
  |some (.struct fields)=>P.cellsOf t==Ty.Ns fs&&Qb P fs fields.toList 0
  |_=>false
def Qb(P:Program):List Ty->List Field->Nat->Bool
 |[],[],_=>true
 |ty::tys,f::fs,off=>f.offset==off&&P.cellsOf f.type==Ty.size ty&&NM P ty f.type&&Qb P tys fs (off+Ty.size ty)
 |_,_,_=>false
end
mutual
def Zj:Ty->List Aa->Prop
 | .bool,l=>∃b,l=[.bool b]
 | .int k,l=>∃n,l=[.int k n]/\(Lit.int k n).wf=true
 | .str,l=>∃s:Ad,l=[.str s]/\s.length<=maxLen
 | .sl e,l=>l=[.slnil]\/∃As:List (List Aa),l=[.sl (Ty.size e) As]/\As.length<=maxLen/\∀r∈As,Zj e r
 | .st fs,l=>jx fs l
def jx:List Ty->List Aa->Prop
 |[],l=>l=[]
 |ty::tys,l=>∃a b,l=a++b/\Zj ty a/\jx tys b
end
def Ty.aCy:Ty->Bool
 | .st _=>true
 |_=>false
def lF(ty:Ty)(a:Aa):Prop:=if ty.aCy then∃cs,a= .agg cs/\Zj ty cs else Zj ty [a]
def OU:List Ty->List Aa->Prop
 |[],l=>l=[]
 |ty::tys,l=>∃a b,l=a::b/\lF ty a/\OU tys b
def Ge(W:World):Gh:={Iw:=λb o=>(W.cell? ⟨b,o,none⟩).filter (·.oneCell'),mu:=λ_=>none,BN:=λ_=>none,sz:=λ_=>none}
def vr(W:World):HY (Ge W) [] W:=by refine⟨λb o v h=>?_,λid x h=>by simp at h,λid cs h=>by simp at h,λid es h=>by simp at h,λid b h=>(by cases h),λb x h=>(by cases h),λb n h=>(by cases h)⟩;simp only[Ge,Rv] at h;exact⟨h.1,h.2,.inl rfl⟩
def Uv{W:World}{b o:Nat}{v:Value}(h:W.cell? ⟨b,o,none⟩=some v)(h1:v.oneCell'=true):(Ge W).Iw b o=some v:=by simp[Ge,h,h1,Option.filter]
def Vu{V:Type}{p:Nat->V->Prop}:∀(n:Nat),(∀i,i<n->∃x,p i x)->∃l:List V,l.length=n/\∀i x,l[i]?=some x->p i x
 |0,_=>⟨[],rfl,by simp⟩
 |n+1,h=>by
  obtain⟨l,hl,hp⟩:=Vu n λi hi=>h i (by omega);obtain⟨x,hx⟩:=h n (by omega);refine⟨l++[x],by simp[hl],λi y hy=>?_⟩;rw[aKc] at hy;split at hy;.exact hp i y hy
  .have:i-l.length=0:=by
    rcases FL (i-l.length) with h0|h0
    .exact h0
    .rw[D4 (by simp;omega)] at hy;cases hy
   rw[this] at hy;simp at hy;subst hy;have:i=n:=by omega
   rw[this];exact hx
section
variable{H:Type}{enc:TypeId×Value->H}{P:Program}{W:World}
def RH{a:Addr}{n:Nat}{cs:List Value}(h:W.cells? 0 a n=some cs)(hn:0<n):a.spot=none:=by
 obtain⟨_,hl,hc⟩:=World.cells?_some h;have h0:=hc 0 hn;have hlt:0<cs.length:=by omega
 rw[An hlt] at h0;unfold World.cell? at h0;have ha:a.add 0=a:=by simp[Addr.add]
 rw[ha] at h0;split at h0
 .split at h0;.cases h0
  .rename_i hs;simpa using hs
 .cases h0
mutual
def dS:∀(ty:Ty) {t:TypeId} {fuel:Nat} {cs:List Value} {x:DataW H×List MemPlace},NM P ty t=true->DataW.trod enc P W 0 (λ_=>true) true fuel t cs=some x->
  ∃as,Zj ty as/\A3 (Ge W) as cs/\(∀u∈cs,u.oneCell'=true)/\as.length=Ty.size ty
 | .bool,t,fuel,cs,x,Im,h=>by
  unfold NM at Im;split at Im;.rename_i ht;obtain⟨b,rfl,_⟩:=DataW.trod_bool ht h;exact⟨[.bool b],⟨b,rfl⟩,⟨_,[],rfl,rfl,rfl⟩,by simp[Value.oneCell'],rfl⟩
  .cases Im
 | .int k,t,fuel,cs,x,Im,h=>by
  unfold NM at Im;split at Im
  .rename_i k' ht;have hk:k'=k:=by simpa using Im
   subst hk;obtain⟨n,rfl,_,hw⟩:=DataW.trod_int ht h;exact⟨[.int k' n],⟨n,rfl,hw⟩,⟨_,[],rfl,rfl,rfl⟩,by simp[Value.oneCell'],rfl⟩
  .cases Im
 | .str,t,fuel,cs,x,Im,h=>by
  unfold NM at Im;split at Im
  .rename_i ht;obtain⟨s,rfl,_,hs⟩:=DataW.trod_string ht h;refine⟨[.str s.data.toList],⟨_,rfl,by
    have e:s.data.toList.length=s.size:=by rw[Cd];rfl
    rw[e];exact hs⟩,⟨_,[],rfl,?_,rfl⟩,by simp[Value.oneCell'],rfl⟩
   show Value.string s= .string ⟨⟨s.data.toList⟩⟩;congr 1
  .cases Im
 | .sl e,t,fuel,cs,x,Im,h=>by
  unfold NM at Im;split at Im
  .rename_i B ht;simp only[A4,ø,Ci] at Im;obtain⟨⟨hce,hpos⟩,aLW⟩:=Im;rcases DataW.trod_slice ht h with⟨rfl,_⟩|⟨a,len,cap,elems,rest,n,_,rfl,_,_,hl,hm,hlen,d,hsp,_⟩
   .exact⟨[.slnil],.inl rfl,⟨_,[],rfl,rfl,rfl⟩,by simp[Value.oneCell'],rfl⟩
   .have spot:0<cap->a.spot=none:=λhc=>by
     have ha:a.add 0=a:=by simp[Addr.add]
     rcases FL len with h0|h0
     .obtain⟨J8,MH⟩:=hsp rfl;have:=MH 0 (by omega);rw[An (show 0<rest.length by omega)] at this;have A:(len+0)*P.cellsOf B=0:=by rw[h0];simp
      rw[A,ha] at this;obtain⟨vs,c,_⟩:=T3.1 this;exact RH c (by omega)
     .have:=d 0 h0;rw[An (show 0<elems.length by omega)] at this;rw[M6,ha] at this;obtain⟨vs,c,_⟩:=T3.1 this;exact RH c (by omega)
    obtain⟨As,pX,kT⟩:=Vu (p:=λi (r:List Aa)=>Zj e r/\r.length=Ty.size e/\CU (Ge W) r a.block (a.off+i*Ty.size e)) len λi hi=>by
     have:=d i hi;rw[An (show i<elems.length by omega)] at this;obtain⟨vs,c,hd⟩:=T3.1 this;obtain⟨r,q,l,g,m⟩:=dS e aLW hd;refine⟨r,q,m,CU.GZ λj y hj=>?_⟩;obtain⟨u,hu,v⟩:=l.get hj;obtain⟨_,hvl,z⟩:=World.cells?_some c;have aP:j<P.cellsOf B:=by have:=(Af.1 hu).1;omega
     have hc:=z j aP;rw[hu] at hc;have pO:a=⟨a.block,a.off,none⟩:=by have:=spot (by omega);cases a;simp_all
     have N5:(a.add (i*P.cellsOf B)).add j=⟨a.block,a.off+i*Ty.size e+j,none⟩:=by rw[hce];generalize a.block=b at*;generalize a.off=o at*;subst pO;rw[Addr.add_lit,Addr.add_lit]
     rw[N5] at hc;exact⟨u,Uv hc (g u (Cx hu)),v⟩
    refine⟨[.sl (Ty.size e) As],.inr ⟨As,rfl,by omega,λr hr=>?_⟩,⟨_,[],rfl,⟨a,cap,by rw[pX],by omega,?_,ES.GZ λi r hr=>?_⟩,rfl⟩,by simp[Value.oneCell'],rfl⟩;.obtain⟨i,hi⟩:=CG hr;exact(kT i r hi).1
    .rcases FL cap with h0|h0
     .exact .inr h0
     .exact .inl (spot h0)
    .exact⟨(kT i r hr).2.1,(kT i r hr).2.2⟩
  .cases Im
 | .st fs,t,fuel,cs,x,Im,h=>by
  unfold NM at Im;split at Im
  .rename_i fields ht;simp only[A4,ø] at Im;obtain⟨hct,hf⟩:=Im;obtain⟨xs,n,_,_,hcl,D,Ni⟩:=DataW.trod_struct ht h;obtain⟨as,q,l,g,m⟩:=Vv fs (fields:=fields.toList) (off:=0) (cs:=cs) (n:=n) hf (λi f hi=>by
    have:=Ni i f (by simpa using hi);have hlt:i<fields.size:=by have:=(Af.1 hi).1;simpa using this
    rw[An (show i<xs.length by omega)] at this;exact⟨_,this⟩) (by rw[hcl,hct];omega)
   have E:(cs.drop 0).take (Ty.Ns fs)=cs:=by rw[Kz];exact A7 (by rw[hcl,hct];exact Ab _)
   rw[E] at l g;exact⟨as,q,l,g,m⟩
  .cases Im
def Vv:∀(tys:List Ty) {fields:List Field} {off:Nat} {cs:List Value} {n:Nat},Qb P tys fields off=true->
  (∀(i:Nat) (f:Field),fields[i]?=some f->∃y,DataW.trod enc P W 0 (λ_=>true) true n f.type ((cs.drop f.offset).take (P.cellsOf f.type))=some y)->off+Ty.Ns tys<=cs.length->
  ∃as,jx tys as/\A3 (Ge W) as ((cs.drop off).take (Ty.Ns tys))/\(∀u∈(cs.drop off).take (Ty.Ns tys),u.oneCell'=true)/\as.length=Ty.Ns tys
 |[],fields,off,cs,n,Im,h,hl=>by refine⟨[],rfl,?_,?_,rfl⟩<;>simp[Ty.Ns,A3]
 |ty::tys,fields,off,cs,n,Im,h,hl=>by
  cases fields with
  |nil=>simp[Qb] at Im
  |cons f fs=>
   simp only[Qb,A4,ø] at Im;obtain⟨⟨⟨ho,hc⟩,aF⟩,uy⟩:=Im;obtain⟨y,hy⟩:=h 0 f rfl;rw[ho,hc] at hy;obtain⟨as,m,l,k,j⟩:=dS ty aF hy;simp only[Ty.Ns] at hl;obtain⟨bs,e,d,c,b⟩:=Vv tys uy (λi g hi=>h (i+1) g (by simpa using hi)) (by omega);have o:(cs.drop off).take (Ty.Ns (ty::tys))=(cs.drop off).take (Ty.size ty)++(cs.drop (off+Ty.size ty)).take (Ty.Ns tys):=by simp only[Ty.Ns];rw[aAJ,Ed]
   rw[o];refine⟨as++bs,⟨as,bs,rfl,m,e⟩,l.append d,λu hu=>?_,by simp[j,b,Ty.Ns]⟩;rcases Aj.1 hu with hu|hu
   .exact k u hu
   .exact c u hu
end
def dT{ty:Ty}{t:TypeId}{v:Value}{base:Nat}(Im:NM P ty t=true)(b:Value.okWide P W .any base t v):if ty.aCy then∃cs,v= .agg cs else v.cells=#[v]:=by
 cases ty with
 |st fs=>
  unfold NM at Im;split at Im;.rename_i fields ht;unfold Value.okWide at b;rw[ht] at b;obtain⟨cs,e,_⟩:=b;exact⟨cs,e⟩
  .cases Im
 |_=>
  unfold NM at Im;split at Im;.rename_i ht;unfold Value.okWide at b;rw[ht] at b;simp only[Cell.okWide,ht,Cell.ok] at b;cases v<;>first|rfl|exact b.elim
  .cases Im
def aW:∀{tys:List Ty} {ts:List TypeId} {vs:List Value} {ds:List (DataW H)} {ps:List MemPlace} {base:Nat},DataW.TrodAll enc P W 0 (λ_=>true) true ts vs ds ps->tys.length=ts.length->(∀(i:Nat) (ty:Ty) (t:TypeId),tys[i]?=some ty->ts[i]?=some t->NM P ty t=true)->
  (∀(i:Nat) (t:TypeId) (v:Value),ts[i]?=some t->vs[i]?=some v->Value.okWide P W .any base t v)->∃as,OU tys as/\A3 (Ge W) as vs
 |[],[],[],[],_,_,_,_,_,_=>⟨[],rfl,rfl⟩
 |ty::tys,t::ts,v::vs,d::ds,ps,base,⟨p,q,⟨fuel,h1⟩,h2,_⟩,hl,Im,JI=>by
  have aF:=Im 0 ty t rfl rfl;obtain⟨cells,f,b,k,l⟩:=dS ty aF h1;obtain⟨bs,j,g⟩:=aW h2 (by simpa using hl) (λi ty t h h'=>Im (i+1) ty t (by simpa using h) (by simpa using h')) (λi t v h h'=>JI (i+1) t v (by simpa using h) (by simpa using h'));have hc:=dT aF (JI 0 t v rfl rfl);have:∃a,lF ty a/\BJ (Ge W) a v:=by
   by_cases Jl:ty.aCy=true;.rw[if_pos Jl] at hc;obtain⟨us,rfl⟩:=hc;exact⟨.agg cells,(by unfold lF;rw[if_pos Jl];exact⟨cells,rfl,f⟩),us,rfl,by simpa[Value.cells] using b,by simpa[Value.cells] using k⟩
   .rw[if_neg Jl] at hc;rw[hc] at b;obtain⟨u,us,e,hu,hnil⟩:∃c GW,cells=c::GW/\BJ (Ge W) c v/\GW=[]:=by
     cases cells with
     |nil=>cases b
     |cons c GW=>obtain⟨u,DB,e,h1,h2⟩:=b;simp at e;obtain⟨rfl,rfl⟩:=e;exact⟨c,GW,rfl,h1,by cases GW with|nil=>rfl|cons _ _=>obtain⟨_,_,e,_⟩:=h2;cases e⟩
    subst hnil;subst e;exact⟨u,(by unfold lF;rw[if_neg Jl];exact f),hu⟩
  obtain⟨a,ha,hr⟩:=this;exact⟨a::bs,⟨a,bs,rfl,ha,j⟩,⟨v,vs,rfl,hr,g⟩⟩
 |[],_::_,_,_,_,_,_,hl,_,_=>by simp at hl
 |_::_,[],_,_,_,_,_,hl,_,_=>by simp at hl
 |[],[],_::_,_,_,_,h,_,_,_=>by cases h
 |[],[],[],_::_,_,_,h,_,_,_=>by cases h
 |_::_,_::_,[],_,_,_,h,_,_,_=>by cases h
 |_::_,_::_,_::_,[],_,_,h,_,_,_=>by cases h
def XP{W':World}{may:MemPlace->Prop}(h1:W'.os=W.os)(h2:W'.output=W.output)(hb:∀i,i<W.heap.size->W'.heap[i]?=W.heap[i]?):W.keptBut W' may:=by
 refine⟨h1,h2,λi hi=>?_⟩;rw[hb i hi];split;.rename_i c t fr c' t' iw d b;rw[d] at b;cases b;exact⟨rfl,rfl,rfl,λ_ _=>rfl⟩
 .rename_i d b;rw[d] at b;cases b;exact .inr ⟨rfl,rfl⟩
 .rfl
def RI(hl:laidOutB P=true){W':World}(hb:RowKit.Below W.heap.size W W'):∀{ts:List TypeId} {vs:List Value} {ds:List (DataW H)} {ps:List MemPlace},(∀t∈ts,P.readableRec t=true/\t<P.types.size)->
  DataW.TrodAll enc P W 0 (λ_=>true) true ts vs ds ps->(∀x∈ps,x.block<W.heap.size)->DataW.TrodAll enc P W' 0 (λb=>decide (b<W.heap.size)) true ts vs ds ps
 |[],[],[],ps,_,h,_=>h
 |t::ts,v::vs,d::ds,ps,dD,⟨p,q,h1,h2,e⟩,hlt=>by subst e;have ht:=dD t (by simp);exact⟨p,q,RowKit.Below.trod hl ht.1 ht.2 h1 hb λx hx=>hlt x (B5 _ hx),RI hl hb (λt' h'=>dD t' (by simp[h'])) h2 λx hx=>hlt x (BH _ hx),rfl⟩
 |[],[],_::_,_,_,h,_=>by cases h
 |[],_::_,_,_,_,h,_=>by cases h
 |_::_,[],_,_,_,h,_=>by cases h
 |_::_,_::_,[],_,_,h,_=>by cases h
end
def Mj{C:FT}(hm:C.P.follows .mixedOrders=true)(Ī:∀g cs,C.Hs g=some cs->cs.all Aa.Nh=true)(Ā:dR C)(hl:laidOutB C.P=true){f:FuncId}{fn:Func}{rt:TypeId}(l:f<=99999)(k:fn.resultTypes=#[rt])(m:C.P.underlying rt=some .bool){tys:List Ty}(hlen:tys.length=fn.params.size)
  (aLX:∀(i:Nat) (ty:Ty) (t:TypeId),tys[i]?=some ty->fn.params[i]?=some t->NM C.P ty t=true) (aHj:∀t∈fn.params.toList,C.P.readableRec t=true/\t<C.P.types.size)
  (PI:∀as,OU tys as->Ev C f as [] λr _=>r= .bool true) {s:ChangeSpec} (c:s.vars=[])
  {H:Type} (jR:∀ds:List (DataW H),ds.length=fn.params.size->s.fn H ds={results:=[.lit (.bool true)],args:=ds})
  {enc:TypeId×Value->H} {W:World} {base:Nat} {args:Array Value} {ds gs:List (DataW H)} {before:List MemPlace} (hg:∀g cs,C.Hs g=some cs->CU (Ge W) cs g 0)
  (JI:∀(j:Nat) (t:TypeId) (v:Value),fn.params[j]?=some t->args[j]?=some v->Value.okWide C.P W .any base t v) (u:DataW.Whole enc C.P fn.params.toList s.vars false W args.toList ds gs before):
  Calls C.P f args W λe W'=>∃v,e= .returned v/\s.post enc C.P fn false true false false W args v W':=by
 have o:=u;have hlt:=u.lt;obtain⟨p,q,z,y,rfl,hfz,B⟩:=u;rw[c] at y;have n:gs=[]/\q=[]:=by
  cases gs with
  |nil=>exact⟨rfl,y⟩
  |cons _ _=>cases y
 obtain⟨rfl,rfl⟩:=n;obtain⟨as,vt,Us⟩:=aW z (by simpa using hlen) (λi ty t h h'=>aLX i ty t h (by simpa using h')) (λi t v h h'=>JI i t v (by simpa using h) (by simpa using h'));have qH:ds.length=fn.params.size:=by
  have key:∀{ts:List TypeId} {vs:List Value} {ds:List (DataW H)} {ps:List MemPlace},DataW.TrodAll enc C.P W 0 (λ_=>true) true ts vs ds ps->ds.length=ts.length:=by
   intro ts;induction ts with
   |nil=>intro vs ds ps h;cases vs<;>cases ds<;>first|rfl|cases h
   |cons t ts ih=>
    intro vs ds ps h;cases vs with
    |nil=>cases h
    |cons v vs=>
     cases ds with
     |nil=>cases h
     |cons d ds=>obtain⟨_,_,_,h2,_⟩:=h;simp[ih h2]
  simpa using key z
 have Wu:=(PI as vt).calls hm Ī Ā (vr W) hg Us;rw[show EU f=f from if_pos l] at Wu;refine Wu.mono λe W' he=>?_;cases e with
 |returned v=>
  obtain⟨r,h',D,rfl,hi,Kk,A⟩:=he;have hvb:v= .bool true:=A;subst hvb;have hold:∀i,i<W.heap.size->W'.heap[i]?=W.heap[i]?:=λi uv=>(Kk.OF i uv λid h0=>by cases h0).1;have b:RowKit.Below W.heap.size W W':=⟨Kk.os,Kk.tape,Kk.output,Kk.size,hold⟩;refine⟨_,rfl,ds,[],p++[],[],p,[],o,?_,?_,?_,XP Kk.os Kk.output hold,λh0=>by cases h0⟩;.rw[A8,jR ds qH,k];exact⟨[],[],RowKit.shut_bool m true,rfl,rfl⟩
  .rw[A8,jR ds qH];exact RI hl b aHj z λx hx=>hlt x (by simpa using hx)
  .rw[A8,jR ds qH,c];rfl
 |_=>exact he.elim
end Go.Am
end
