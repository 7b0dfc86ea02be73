/- Lemmas -/
import Derived.Scope
import Derived.Test.YtgmhlaiafgkmeaaGreatDoorN7
import Derived.Carry
import Derived.ReadAgain
set_option linter.all false
section
namespace Go.Am
open Go
def ZQ(x y:BQ):Prop:=
 match x with
 | .box ver cs ow=>∃CH Dz GJ,y= .box CH Dz GJ/\ver<=CH/\(CH=ver->Dz=cs/\GJ=ow)
 | .Cc t o=>y= .Cc t o\/y= .undef
 |x=>y=x
def ZQ.refl(x:BQ):ZQ x x:=by
 cases x with
 |box ver cs ow=>exact⟨ver,cs,ow,rfl,Ap _,λ_=>⟨rfl,rfl⟩⟩
 |Cc t o=>exact .inl rfl
 |_=>rfl
def ZQ.trans{x y z:BQ}(h:ZQ x y)(k:ZQ y z):ZQ x z:=by
 cases x with
 |box ver cs ow=>
  obtain⟨v1,c1,o1,rfl,h1,h2⟩:=h;obtain⟨v2,c2,o2,rfl,k1,k2⟩:=k;refine⟨v2,c2,o2,rfl,AX h1 k1,λe=>?_⟩;have e1:v1=ver:=by omega
  have e2:v2=v1:=by omega
  obtain⟨rfl,rfl⟩:=k2 e2;exact h2 e1
 |Cc t o=>
  rcases h with rfl|rfl
  .exact k
  .exact .inr k
 |_=>rw[show y=_ from h] at k;exact k
def Dg(W:List Nat)(σ O:Av):Prop:=O.length=σ.length/\∀s,s∉W->ZQ (σ.at s) (O.at s)
def Dg.refl(W:List Nat)(σ:Av):Dg W σ σ:=⟨rfl,λ_ _=> .refl _⟩
def Dg.trans{W:List Nat}{σ O J:Av}(h:Dg W σ O)(k:Dg W O J):Dg W σ J:=⟨k.1.trans h.1,λs hs=>(h.2 s hs).trans (k.2 s hs)⟩
def Dg.mono{W W':List Nat}{σ O:Av}(h:Dg W σ O)(hw:∀s∈W,s∈W'):Dg W' σ O:=⟨h.1,λs hs=>h.2 s λhm=>hs (hw s hm)⟩
def Dg.set{W:List Nat}{σ:Av}{s:Nat}{x:BQ}(hs:s∈W):Dg W σ (σ.set s x):=
 ⟨by simp,λt ht=>by rw[Av.CC λe=>ht (by rw[<-e];exact hs)];exact .refl _⟩
def Dg.put{W:List Nat}{σ:Av}{d:Option Nat}{x:BQ}(hs:∀s∈d.toList,s∈W):Dg W σ (σ.put d x):=by
 cases d with
 |none=>exact .refl _ _
 |some d=>exact .set (hs d (by simp))
section
variable{C:CB}{fid:FuncId}{ops:List Oper}{run:IT->Ab->Option Ep}{σ σ':Av}{h h':Ab}{W:List Nat}
def Dg.drop(σ:Av)(ds:List Nat):Dg W σ (σ.drop ds):=by
 refine⟨Av.length_drop σ ds,λs _=>?_⟩;rw[Av.Lb];cases hx:σ.at s with
 |Cc t o=>
  simp only
  split;.exact .inr rfl
  .exact .inl rfl
 |_=>exact .refl _
def PY{r:BV}{ds:List Nat}(hd:r.Gu C run (σ.drop ds) h σ' h')(hw:∀s∈r.wf,s∈W):Dg W σ σ':=by obtain⟨ws,rfl,h1,_⟩:=MZ hd;refine(Dg.drop σ ds).trans ⟨Av.En ws _,λs hs=>?_⟩;rw[Av.CX ws _ s λp hp e=>hs (hw s (by rw[<-e];exact h1 p hp))];exact .refl _
def H8{x:Operand}{d:Nat}{take:Bool}{r:BV}(h:EO C σ x d take=some r):∀s∈r.wf,s=d\/(take=true/\x= .tmp s):=by
 unfold EO at h;split at h;.cases h;simp[BV.wf]
 .cases h;simp[BV.wf]
 .split at h
  .rename_i ht;cases h;intro s hs;simp only[BV.wf,KQ,Aj] at hs;rcases hs with hs|hs
   .revert hs;generalize hX:Jf _ _=tf;intro hs;unfold Jf at hX;split at hX;.subst hX;simp at hs;exact .inr ⟨ht,by rw[hs]⟩
    .subst hX;simp at hs
   .exact .inl (by simpa using hs)
  .cases hc:DL _ with
   |none=>rw[hc] at h;cases h
   |some sl=>rw[hc] at h;cases h;simp[BV.wf]
 .cases hc:DL _ with
  |none=>rw[hc] at h;cases h
  |some sl=>rw[hc] at h;cases h;simp[BV.wf]
 .cases h
def Jw{x:Operand}{p:Nat×Aa}(h:Bp σ x=some p):x= .tmp p.1:=by
 cases x with
 |tmp t=>
  simp only[Bp] at h;cases hx:σ.at t with
  |A5 v=>rw[hx] at h;cases h;rfl
  |_=>rw[hx] at h;cases h
 |_=>cases h
def OH{t:TypeId}{v:Aa}{d:Nat}{r:BV}(h:Kv C fid t v d=some r):r.wf=[d]:=by
 unfold Kv at h;split at h;.cases h
 .split at h;.cases h
  .split at h<;>(cases h;rfl)
def Iq:∀{xs:List Operand} {vs:List Aa} {fz:List (Nat×List Aa)},Db C σ xs=some (vs,fz)->∀p∈fz,p.1∈EP xs
 |[],vs,fz,hc=>by cases hc;simp
 |x::xs,vs,fz,hc=>by
  unfold Db at hc;split at hc;.cases hc
  .rename_i DB qR rW;have ih:=Iq rW;have up:∀p∈qR,p.1∈EP (x::xs):=λp hp=>by obtain⟨y,hy,he⟩:=B6.1 (ih p hp);exact B6.2 ⟨y,qJ _ hy,he⟩
   split at hc
   .rename_i s ver cs ow hs;split at hc;.cases hc
    .cases hc;intro p hp;rcases AP.1 hp with rfl|hp
     .simp[EP]
     .exact up p hp
   .rename_i sl _ hs;cases hv:sl.Da with
    |none=>rw[hv] at hc;cases hc
    |some u=>rw[hv] at hc;cases hc;exact up
   .cases hc
def Q4{o:Oper}{r:BV}(hc:CG C fid ops σ o=some r)(hd:r.Gu C run (σ.drop r.news) h σ' h'):Dg (Cl ops o) σ σ':=by
 have Jv:∀s∈o.dst.toList,s∈Cl ops o:=λs hs=>AR _ hs
 have hwf:(∀s∈r.wf,s∈Cl ops o)->Dg (Cl ops o) σ σ':=PY hd
 have Mp:r.wf=o.dst.toList->Dg (Cl ops o) σ σ':=λe=>hwf (by rw[e];exact Jv)
 have KG:∀{m x},JY m o.dst x=some r->Dg (Cl ops o) σ σ':=λ{m x} he=>by
  obtain⟨_,_,rfl⟩:=De he
  exact Mp rfl
 have Dl:∀{p x},JX p o.dst x=some r->Dg (Cl ops o) σ σ':=λ{p x} he=>by
  obtain⟨args,_,rfl⟩:=BG he
  exact Mp (by simp[BV.wf])
 unfold CG at hc
 split at hc
 .rename_i x ho
  split at hc
  .rename_i d CA
   refine hwf λs hs=>?_
   rcases H8 hc s hs with rfl|⟨ht,rfl⟩
   .exact Jv s (by rw[CA];simp)
   .refine Aw _ ?_
    simp[ho,CA,ht]
  .cases hc
 .rename_i x ho
  split at hc
  .rename_i d CA
   refine hwf λs hs=>?_
   rcases H8 hc s hs with rfl|⟨ht,rfl⟩
   .exact Jv s (by rw[CA];simp)
   .refine Aw _ ?_
    simp[ho]
  .cases hc
 .rename_i c x y ho
  split at hc
  .rename_i d _ CA
   refine hwf λs hs=>?_
   rcases H8 hc s hs with rfl|⟨ht,rfl⟩
   .exact Jv s (by rw[CA];simp)
   .cases ht
  .rename_i d _ CA
   refine hwf λs hs=>?_
   rcases H8 hc s hs with rfl|⟨ht,rfl⟩
   .exact Jv s (by rw[CA];simp)
   .cases ht
  .exact Dl hc
 .split at hc
  .rename_i d z CA hz
   split at hc
   .split at hc
    .cases hc;exact Mp (by rw[CA];rfl)
    .cases hc
   .exact Mp (by rw[OH hc,CA];rfl)
  .cases hc
 .split at hc
  .rename_i d v CA hz
   exact Mp (by rw[OH hc,CA];rfl)
  .cases hc
 .split at hc
  .split at hc
   .exact Dl hc
   .cases hc
  .cases hc
 .split at hc
  .split at hc
   .split at hc
    .split at hc
     .cases hc;exact Mp (by simp[BV.wf])
     .cases ha:Ak C σ _ with
      |none=>rw[ha] at hc;cases hc
      |some args=>rw[ha] at hc;cases hc;exact Mp (by simp[BV.wf])
    .cases hc
   .cases hc
  .cases hc
 .split at hc
  .rename_i d CA
   unfold Ff at hc
   split at hc
   .cases hc;exact Mp (by rw[CA];rfl)
   .rename_i s off ver cs ow ht ha
    split at hc
    .simp only at hc
     split at hc
     .cases hc
      rw[GW (by simp)] at hd
      obtain⟨rfl,rfl⟩:=hd
      have hs:σ.at s= .box ver cs ow:=by
       unfold CF at ha
       split at ha
       .rename_i hs;cases ha;exact C4 hs
       .split at ha
        .rename_i hb;cases ha;exact hb
        .cases ha
       .exact absurd ha (by cases hv:BQ.Da _<;>simp)
       .cases ha
      refine⟨by simp[Av.drop,Av.BW],λt htW=>?_⟩
      have aj:t≠d:=λe=>htW (Jv t (by rw[CA,e];simp))
      have VD:s<σ.length:=Av.Hu (by rw[hs];simp)
      show ZQ (σ.at t) (Av.at ((σ.set s _).set d _) t)
      rw[Av.CC (λe=>aj e.symm)]
      by_cases Nv:s=t
      .subst Nv
       rw[Av.Cn VD,hs]
       exact⟨_,_,_,rfl,GH _,λe=>absurd e (by omega)⟩
      .rw[Av.CC Nv];exact .refl _
     .cases hc;exact Mp (by rw[CA];rfl)
    .cases hc
   .split at hc
    .cases hc;exact Mp (by rw[CA];rfl)
    .cases hc
   .cases hc
  .cases hc
 .rename_i t x y ho
  split at hc
  .rename_i CA
   unfold D9 at hc
   split at hc
   .cases hc;exact hwf (by simp[BV.wf])
   .rename_i m sh s off ver cs ow v Fc Ph ha hv
    split at hc
    .cases hc
     obtain⟨_,rfl,rfl⟩:=hd
     have hs:σ.at s= .box ver cs ow:=by
      unfold CF at ha
      split at ha
      .rename_i hs;cases ha;exact C4 hs
      .split at ha
       .rename_i hb;cases ha;exact hb
       .cases ha
      .exact absurd ha (by cases hv:BQ.Da _<;>simp)
      .cases ha
     have Mw:∀(D:Option (Nat×Aa)),(∀p,D=some p->p.1∈Cl ops o/\p.1≠s)->∀X:List Aa×List Nat,Dg (Cl ops o) σ ((σ.BA D).set s (.box (ver+1) X.1 X.2)):=by
      intro D hD X
      refine⟨by cases D<;>simp[Av.BA],λt htW=>?_⟩
      have hlen:s<(σ.BA D).length:=by
       have:s<σ.length:=Av.Hu (by rw[hs];simp)
       cases D<;>simpa[Av.BA] using this
      by_cases Nv:s=t
      .subst Nv
       rw[Av.Cn hlen,hs]
       exact⟨_,_,_,rfl,GH _,λe=>absurd e (by omega)⟩
      .rw[Av.CC Nv]
       cases D with
       |none=>exact .refl _
       |some p=>
        obtain⟨k1,k2⟩:=hD p rfl
        simp only[Av.BA]
        rw[Av.CC (λe=>htW (by rw[<-e];exact k1))]
        exact .refl _
     refine Mw _ (λp hp=>?_) (_,_)
     split at hp
     .have hy:=Jw hp
      subst hy
      refine⟨Aw _ (by simp[ho]),λe=>?_⟩
      simp only[Bp] at hp
      rw[e,hs] at hp
      cases hp
     .cases hp
    .cases hc
   .cases hc
  .cases hc
 .split at hc
  .rename_i CA _ _
   cases hc;exact Mp (by rw[CA];rfl)
  .rename_i CA _ _
   cases hc;exact Mp (by rw[CA];rfl)
  .exact Dl hc
 .split at hc
  .exact Dl hc
  .cases hc
 .exact Dl hc
 .split at hc
  .cases hv:B2 C σ _ with
   |none=>rw[hv] at hc;cases hc
   |some v=>rw[hv] at hc;cases hc;exact Mp rfl
  .split at hc
   .cases hv:B2 C σ _ with
    |none=>rw[hv] at hc;cases hc
    |some v=>rw[hv] at hc;cases hc;exact Mp rfl
   .exact Dl hc
  .exact Dl hc
  .cases hc
 .rename_i fn first captured ho
  split at hc
  .rename_i d as bs fz CA ha hb
   cases hc
   refine hwf λs hs=>?_
   simp only[BV.wf,AP] at hs
   rcases hs with rfl|hs
   .exact Jv s (by rw[CA];simp)
   .obtain⟨p,hp,rfl⟩:=Ay.1 hs
    refine Aw _ ?_
    simp only[ho]
    exact Iq hb p hp
  .cases hc
 .cases hc;exact Mp rfl
 .split at hc
  .split at hc
   .cases hc;exact Mp rfl
   .cases hc
  .cases hc
 .split at hc
  .split at hc
   .cases hc;exact hwf (by simp[BV.wf])
   .cases hc;exact hwf (by simp[BV.wf])
   .cases hc
  .cases hc
 .split at hc
  .split at hc
   .cases hc;exact hwf (by simp[BV.wf])
   .cases hc;exact hwf (by simp[BV.wf])
   .cases hc
  .cases hc
 .split at hc
  .split at hc
   .cases hc;exact Mp rfl
   .cases hc;exact Mp rfl
   .cases hc
  .cases hc
 .split at hc
  .split at hc
   .exact KG hc
   .cases hc
  .cases hc
 .split at hc
  .cases hc
  .exact KG hc
  .cases hc
 .split at hc
  .split at hc<;>first|exact KG hc|cases hc
  .cases hc
 .split at hc
  .rename_i CA
   exact KG (by rw[CA];exact hc)
  .cases hc
 .split at hc
  .exact Dl hc
  .split at hc
   .split at hc
    .exact KG hc
    .exact Dl hc
   .cases hc
  .cases hc
 .split at hc
  .rename_i off sh d hf CA
   split at hc
   .cases hc;exact Mp (by rw[CA];rfl)
   .cases hc;exact Mp (by rw[CA];rfl)
   .exact Dl (by rw[CA];exact hc)
  .cases hc
 .split at hc
  .exact Dl hc
  .cases hc
 .split at hc
  .split at hc
   .exact Dl hc
   .cases hc
  .split at hc
   .split at hc
    .cases hc
    .exact Dl hc
   .cases hc
  .cases hc
 .split at hc
  .exact Dl hc
  .split at hc
   .exact Dl hc
   .cases hc
  .cases hc
 .exact Dl hc
 .rename_i c ho
  unfold IC at hc
  split at hc
  .split at hc
   .split at hc
    .exact Dl hc
    .exact Dl hc
    .cases hc
   .cases hc
  .rename_i hcl
   split at hc
   .rename_i t t' s x h0 h1 B0
    have Mw:∀p,Bp σ s=some p->p.1∈Cl ops o:=λp hp=>by
     have:=Jw hp
     subst this
     refine Aw _ ?_
     simp only[ho,hcl,B0]
     simp[EP]
    split at hc
    all_goals first
     |(cases hc;done)
     | (split at hc
        . split at hc
          . split at hc
            . split at hc
              . split at hc
                . cases hc
                  refine hwf fun q hq => ?_
                  simp only [BV.wf, Aj] at hq
                  rcases hq with hq | hq
                  . exact Jv q hq
                  . cases PZ : Bp σ s with
                    | none => rw [PZ] at hq; simp at hq
                    | some p => rw [PZ] at hq; simp at hq; rw [hq]; exact Mw p PZ
                . split at hc
                  . cases hc
                    refine hwf fun q hq => ?_
                    simp only [BV.wf, Aj] at hq
                    rcases hq with hq | hq
                    . exact Jv q hq
                    . cases PZ : Bp σ s with
                      | none => rw [PZ] at hq; simp at hq
                      | some p => rw [PZ] at hq; simp at hq; rw [hq]; exact Mw p PZ
                  . cases hc
                    refine hwf fun q hq => ?_
                    simp only [BV.wf, Aj] at hq
                    rcases hq with hq | hq
                    . exact Jv q hq
                    . cases PZ : Bp σ s with
                      | none => rw [PZ] at hq; simp at hq
                      | some p => rw [PZ] at hq; simp at hq; rw [hq]; exact Mw p PZ
              . split at hc
                . cases hc
                  refine hwf fun q hq => Jv q (by simpa [BV.wf] using hq)
                . cases hc
            . cases hc
          . cases hc
        . cases hc)
   .cases hc
  .split at hc
   .split at hc
    all_goals first
     |(cases hc;done)
     | (split at hc
        . exact KG hc
        . cases hc)
   .cases hc
  .split at hc
   .split at hc
    .split at hc
     .exact KG hc
     .cases hc
    .cases hc
   .cases hc
  .split at hc
   .exact Dl hc
   .cases hc
  .split at hc
   .exact Dl hc
   .cases hc
  .split at hc
   .split at hc
    .split at hc
     .exact KG hc
     .cases hc
    .cases hc
   split at hc
   .cases ha:Ak C σ c.args.toList with
    |none=>rw[ha] at hc;cases hc
    |some args=>
     rw[ha] at hc
     simp only[A3,AG] at hc
     split at hc<;>(cases hc;exact Mp rfl)
   .cases hc
  .split at hc
   .cases hc;exact Mp rfl
   .cases hc
  .cases hc
 .cases hc
end
end Go.Am
end
section
namespace Go.Am
open Go
def T7:C7->Exit
 | .normal=> .normal
 | .exit i=> .exit i
 | .ret=> .ret
def G7:∀{l m:List Nat},l.Nodup->(∀x∈l,x∈m)->l.length<=m.length
 |[],_,_,_=>D0 _
 |x::l,m,hn,hs=>by have hx:=hs x (by simp);have h1:=G7 (l:=l) (m:=m.erase x) (KP.1 hn).2 λy hy=>(List.mem_erase_of_ne λe=>(KP.1 hn).1 (by rw[<-e];exact hy)).2 (hs y (by simp[hy]));rw[List.length_erase_of_mem hx] at h1;have:0<m.length:=List.length_pos_of_mem hx;simp;omega
def NH{P:Program}{c:Code}{Q:Exit->Act->World->Prop}(T:Nat->Act->World->Prop)(round:∀n a w,T n a w->c.wp P (Exit.then (λa' w'=>∃m,m<n/\T m a' w') Q) a w)(n:Nat)(a:Act)(w:World)(h0:T n a w):(Code.loop c).wp P Q a w:=by
 intro b k cs;have key:∀n a w,T n a w->∃e a' w',Q e a' w'/\Arrives P (lone (b.at a (.code c:: .inLoop c::k)) cs w) b k cs e a' w':=by
  intro n;induction n using Nat.strongRecOn with
  |_ n ih=>
   intro a w hT;obtain⟨e,a1,w1,hq,VS⟩:=round n a w hT b (.inLoop c::k) cs;by_cases he:e= .normal;.subst he;obtain⟨m,hm,hT1⟩:=hq;obtain⟨e2,a2,w2,q2,r2⟩:=ih m hm a1 w1 hT1;exact⟨e2,a2,w2,q2,.of_steps (Go.Steps.trans VS (.one step_inLoop)) r2⟩
   .exact⟨e,a1,w1,by cases e<;>first|exact hq|exact absurd rfl he,.pass (x:= .inLoop c) rfl (λ_ _=> .inl he) VS⟩
 obtain⟨e,a',w',hq,VS⟩:=key n a w h0;exact⟨e,a',w',hq,.of_steps (.one step_loop) VS⟩
section
variable{C:CB}{U0 U:Gh}{w0 w:World}{Z:Nat->Nat}{σ:Av}{h:Ab}{a:Act}{fid:FuncId}{run:IT->Ab->Option Ep}
def NI{ops:List Oper}{o:Oper}{K:Av->IT}{R:Ep}(hr:IT.step (AH C) run (JZ C fid ops σ o K) h=some R):
  ∃σ1,(σ1=σ\/∃s b,s∈Cr ops o/\σ.at s= .val (.bool b)/\σ1=σ.set s (.Hm b))/\
   ((DV ops σ1 o= .Gr true/\IT.step (AH C) run (Th C fid ops σ1 o K) h=some R)\/(DV ops σ1 o= .Gr false/\IT.step (AH C) run (K (σ1.put o.dst .skip)) h=some R)):=by
 unfold JZ at hr;split at hr;.rename_i hg;exact⟨σ,.inl rfl,.inl ⟨hg,hr⟩⟩
 .rename_i hg;exact⟨σ,.inl rfl,.inr ⟨hg,hr⟩⟩
 .rename_i s v want hg;have bK:s∈Cr ops o/\σ.at s= .val v/\∀b,DV ops (σ.set s (.Hm b)) o= .Gr (b==want):=by
   unfold DV at hg⊢;unfold Cr;cases ho:o.guard with
   |none=>rw[ho] at hg;cases hg
   |some g=>
    obtain⟨j,want'⟩:=g;rw[ho] at hg;simp only at hg⊢;cases hd:(ops[j]?).bind (·.dst) with
    |none=>rw[hd] at hg;cases hg
    |some s'=>
     rw[hd] at hg;simp only at hg⊢;cases hx:σ.at s' with
     |val v'=>rw[hx] at hg;cases hg;refine⟨by simp,hx,λb=>?_⟩;rw[Av.Cn (Av.Hu (by rw[hx];simp))]
     |Hm c=>rw[hx] at hg;cases hg
     |skip=>rw[hx] at hg;cases hg
     |_=>rw[hx] at hg;cases hg
  obtain⟨g1,g2,g3⟩:=bK;simp only[IT.step] at hr;split at hr
  .refine⟨σ.set s (.Hm true),.inr ⟨s,true,g1,g2,rfl⟩,?_⟩;rw[g3];cases want with
   |true=>exact .inl ⟨rfl,hr⟩
   |false=>exact .inr ⟨rfl,hr⟩
  .refine⟨σ.set s (.Hm false),.inr ⟨s,false,g1,g2,rfl⟩,?_⟩;rw[g3];cases want with
   |true=>exact .inr ⟨rfl,hr⟩
   |false=>exact .inl ⟨rfl,hr⟩
  .cases hr
 .cases hr
def Q5(hS:Ca C run){ops:Array Oper}{Q:Exit->Act->World->Prop}{W:List Nat}{K:Av->IT}{R:Ep}:∀(rest:List Oper) (k:Nat) (U:Gh) (Z:Nat->Nat) (σ:Av) (h:Ab) (a:Act) (w:World),
  ops.toList.drop k=rest->(∀o∈rest,(∀s∈Cl ops.toList o,s∈W)/\∀s∈Cr ops.toList o,s∈W)->IT.step (AH C) run (QI C fid ops.toList rest σ K) h=some R->Bk C U0 w0 U Z σ h a w->
  (∀U' Z' σ' h' a' w',IT.step (AH C) run (K σ') h'=some R->Dg W σ σ'->Bk C U0 w0 U' Z' σ' h' a' w'->Q .normal a' w')->wpOps C.P ops Q (List.range' k rest.length) a w
 |[],k,U,Z,σ,h,a,w,_,_,Ad,hr,hQ=>by simp only[A4,List.range'_zero,wpOps];exact hQ U Z σ h a w Ad (.refl _ _) hr
 |o::rest,k,U,Z,σ,h,a,w,hk,hW,Ad,hr,hQ=>by
  have ho:ops[k]?=some o:=by
   have:ops.toList[k]?=some o:=by have h0:=Bm (·[0]?) hk;simpa[Bg] using h0
   simpa using this
  have ak:ops.toList.drop (k+1)=rest:=by have h0:=Bm (List.drop 1) hk;simpa[DS] using h0
  obtain⟨Q6,T1⟩:=hW o (by simp);simp only[AF,iy,wpOps,ho];obtain⟨σ1,hσ1,DY⟩:=NI Ad;have EH:Bk C U0 w0 U Z σ1 h a w/\Dg W σ σ1:=by
   rcases hσ1 with rfl|⟨s,b,g1,g2,rfl⟩
   .exact⟨hr,.refl _ _⟩
   .have h0:=hr.fr.DG s;rw[g2] at h0;exact⟨hr.Od h0,.set (T1 s g1)⟩
  obtain⟨EH,iD⟩:=EH;have next:∀U' Z' σ' h' a' w',IT.step (AH C) run (QI C fid ops.toList rest σ' K) h'=some R->Dg W σ σ'->Bk C U0 w0 U' Z' σ' h' a' w'->wpOps C.P ops Q (List.range' (k+1) rest.length) a' w':=λU' Z' σ' h' a' w' L2 Sf DC=>Q5 hS rest (k+1) U' Z' σ' h' a' w' ak (λo ho=>hW o (by simp[ho])) L2 DC λU2 Z2 σ2 h2 a2 w2 GK sR iE=>hQ U2 Z2 σ2 h2 a2 w2 GK (Sf.trans sR) iE
  rcases DY with⟨hg,DZ⟩|⟨hg,DZ⟩
  .rw[if_pos (Ft EH hg)];unfold Th at DZ;split at DZ;.rename_i r hc;obtain⟨σ2,h2,hd,KH⟩:=MM DZ;exact .inl (T0 hS hc hd EH λU' Z' a' w' DC=>next U' Z' σ2 h2 a' w' KH (iD.trans ((Q4 hc hd).mono Q6)) DC)
   .cases DZ
  .rw[if_neg (by rw[Ft EH hg];simp)];exact next U Z _ h _ w DZ (iD.trans (.put λs hs=>Q6 s (AR _ hs))) (EH.put λ_ _=>rfl)
def P0{W:List Nat}{d:Option Nat}{σ σ':Av}(h:F5 d σ σ')(hd:∀s∈d.toList,s∈W):Dg W σ σ':=by
 unfold F5 at h;cases d with
 |none=>simp only at h;rw[h];exact .refl _ _
 |some d=>
  simp only at h;split at h;.obtain⟨b,_,rfl⟩:=h;exact .set (hd d (by simp))
  .rw[h];exact .refl _ _
def P1{ops:List Oper}{an:List Nat}{W:List Nat}(hW:∀o∈ops,∀s∈Cl ops o,s∈W){fl:List EK}{L:List St}{σ σf:Av}{h hf:Ab}(hs:Steps C fid ops run an fl L σ h σf hf):Dg W σ σf:=by
 induction hs with
 |nil=>exact .refl _ _
 |cons h1 _ _ ih=>
  refine Dg.trans ?_ ih;obtain⟨o,ho,⟨_,_,_,rfl,rfl⟩|⟨r,σ2,hg,hc,_,hd,_,ha⟩⟩:=h1;.exact .put λs hs=>hW o (AT ho) s (AR _ hs)
  .refine((Q4 hc hd).mono λs hs=>hW o (AT ho) s hs).trans (P0 ha λs hs=>?_);split at hs;.exact hW o (AT ho) s (AR _ hs)
   .simp at hs
def L3(hm:C.P.follows .mixedOrders=true)(hS:Ca C run){id:Nat}{ops:Array Oper}{draw:Bool}{Q:Exit->Act->World->Prop}{K:Av->IT}{R:Ep}(Ad:IT.step (AH C) run (Jj C fid ops.toList draw σ K) h=some R)(hr:Bk C U0 w0 U Z σ h a w)
  (hQ:∀U' Z' σ' h' a' w',IT.step (AH C) run (K σ') h'=some R->Dg (ops.toList.flatMap (Cl ops.toList)++ops.toList.flatMap (Cr ops.toList)) σ σ'->Bk C U0 w0 U' Z' σ' h' a' w'->Q .normal a' w'):(Code.region id ops draw).wp C.P Q a w:=by
 unfold Jj at Ad;cases draw with
 |false=>refine wp_region ?_;have:=Q5 (W:=ops.toList.flatMap (Cl ops.toList)++ops.toList.flatMap (Cr ops.toList)) hS ops.toList 0 U Z σ h a w rfl (λo ho=>⟨λs hs=>AR _ (Qz.2 ⟨o,ho,hs⟩),λs hs=>Aw _ (Qz.2 ⟨o,ho,hs⟩)⟩) Ad hr hQ;simpa[qI] using this
 |true=>
  simp only[Bc] at Ad;split at Ad
  .rename_i CA;obtain⟨L,σf,hf,h1,h2,h3⟩:=IL Ad;refine wp_region_any hm ?_;have qY:=h2;unfold Lu at qY;simp only[JO,Bi,Ao] at qY;have iF:Q3 (Ls ops.toList) L:=by have:=M1 qY.1;rw[yZ] at this;exact this
   have hlt:=h1.lt;have Nq:∀i,i<ops.size->i∈L.map (·.idx):=λi hi=>by have:=Cb.1 qY.2 i (by simpa using hi);simpa using this
   have qQ:(L.map (·.idx)).Nodup:=by rw[List.Nodup,yZ];exact iF.imp λh=>h.1
   have hlen:L.length=ops.size:=by
    have p1:(L.map (·.idx)).length<=(List.range ops.size).length:=G7 qQ (λi hi=>by obtain⟨s,hs,rfl⟩:=Ay.1 hi;simpa using hlt s hs)
    have p2:(List.range ops.size).length<=(L.map (·.idx)).length:=G7 List.nodup_range λi hi=>Nq i (by simpa using hi);simp at p1 p2;omega
   have Sf:=P1 (W:=ops.toList.flatMap (Cl ops.toList)++ops.toList.flatMap (Cr ops.toList)) (λo ho s hs=>AR _ (Qz.2 ⟨o,ho,hs⟩)) h1;refine Su hS CA (λU' Z' a' w' DC=>hQ U' Z' σf hf a' w' h3 Sf DC) ops.size L _ U Z σ h a w.drew hlen h1 iF ⟨by simp,λi hi=>⟨λ_=>Nq i hi,λ_=>by simp[Array.getD,hi]⟩,λj hj e _=>?_⟩ hr.drew;exfalso;rcases CD j ops.size with hlt|Jk
   .simp[Array.getD,hlt] at hj
   .simp[Array.getD,Nat.not_lt.2 Jk] at hj
  .cases Ad
end
end Go.Am
end
section
namespace Go.Am
open Go
def H9(x y:BQ):Prop:=
 (∃u,x.Da=some u/\y= .val u)\/(∃v,x= .A5 v/\y= .A5 v)\/∃ver cs ow CH GJ,x= .box ver cs ow/\y= .box CH cs GJ/\∀o∈GJ,o∈ow
def Av.DN:∀(ws:List Nat) (σ:Av) (s:Nat),(σ.clear ws).at s=if s∈ws then .undef else σ.at s
 |[],σ,s=>by simp[Av.clear]
 |t::ws,σ,s=>by
  rw[Av.clear,Av.DN ws];by_cases h:s∈ws;.simp[h]
  .by_cases h2:s=t
   .subst h2;rw[Av.LY];by_cases hl:s<σ.length;.simp[hl]
    .have:σ.at s= .undef:=by simp[Av.at,List.getD,hl]
     simp[h,hl,this]
   .rw[Av.CC λe=>h2 e.symm];simp[h,h2]
def Av.EB:∀(ws:List Nat) (σ:Av),(σ.clear ws).length=σ.length
 |[],σ=>rfl
 |t::ws,σ=>by rw[Av.clear,Av.EB ws];simp
section
variable{C:CB}{U0 U:Gh}{w0 w:World}{Z:Nat->Nat}{σ:Av}{h:Ab}{a:Act}{fid:FuncId}{run:IT->Ab->Option Ep}
def H9.rel{B s:Nat}{x y:BQ}{v:Value}(hx:Fg U Z B w s x v)(hf:H9 x y):Fg U Z B w s y v:=by
 rcases hf with⟨u,hu,rfl⟩|⟨u,rfl,rfl⟩|⟨ver,cs,ow,CH,GJ,rfl,rfl,VR⟩
 .exact Gv hx hu
 .exact hx
 .obtain⟨p1,p2,p3,us,e,p4,p5,p6,p7⟩:=hx;exact⟨p1,p2,p3,us,e,p4,p5,p6,λo ho=>p7 o (VR o ho)⟩
def KI{σs:Av}{G:Av->IT}{R:Ep}{vs:List Aa}:∀{l:List (Nat×Sh)} {i:Nat} {σa:Av},Lv σs l=some (vs.drop i)->σa.length=σs.length->IT.step (AH C) run (Ee vs l i σa G) h=some R->
  ∃σh,IT.step (AH C) run (G σh) h=some R/\σh.length=σa.length/\(∀s,s∉l.map (·.1)->σh.at s=σa.at s)/\(∀s,s∈l.map (·.1)->H9 (σs.at s) (σh.at s)/\
   ((∃CH Dz GJ,σh.at s= .box CH Dz GJ/\MJ (σa.at s)<CH)\/∀ver cs ow,σs.at s≠ .box ver cs ow))
 |[],i,σa,_,_,hr=>⟨σa,hr,rfl,λ_ _=>rfl,by simp⟩
 |(s,sh)::l,i,σa,hv,hl,hr=>by
  have hd:∃v DB,vs.drop i=v::DB/\vs.drop (i+1)=DB/\vs.getD i .nilIface=v/\Lv σs l=some DB/\
    (match(generalizing:=false) sh,σs.at s with| .val,x=>x.Da| .A5,.A5 v=>some v| .box n ow,.box _ cs GJ=>if cs.length=n/\ow.all (GJ.contains ·) then some (.agg cs) else none|_,_=>none)=some v:=by
   unfold Lv at hv;simp only at hv;split at hv
   .rename_i v DB h1 h2;simp only[AG] at hv;refine⟨v,DB,hv.symm,?_,?_,h2,h1⟩;.have:=Bm (List.drop 1) hv;simpa[DS] using this.symm
    .have:=Bm (·[0]?) hv;simp only[JP,Bg,CE] at this;simp[List.getD,<-this]
   .cases hv
  obtain⟨v,DB,jm,sS,Nz,VF,Jy⟩:=hd;have hlt:s<σa.length:=by rw[hl];refine Av.Hu λe=>?_;rw[e] at Jy;cases sh<;>simp[BQ.Da] at Jy
  have go:∀(y:BQ),H9 (σs.at s) y->((∃CH Dz GJ,y= .box CH Dz GJ/\MJ (σa.at s)<CH)\/∀ver cs ow,σs.at s≠ .box ver cs ow)->IT.step (AH C) run (Ee vs l (i+1) (σa.set s y) G) h=some R->
    ∃σh,IT.step (AH C) run (G σh) h=some R/\σh.length=σa.length/\(∀t,t∉((s,sh)::l).map (·.1)->σh.at t=σa.at t)/\(∀t,t∈((s,sh)::l).map (·.1)->H9 (σs.at t) (σh.at t)/\
     ((∃CH Dz GJ,σh.at t= .box CH Dz GJ/\MJ (σa.at t)<CH)\/∀ver cs ow,σs.at t≠ .box ver cs ow)):=by
   intro y hy wU DC;obtain⟨σh,k1,k2,k3,k4⟩:=KI (l:=l) (i:=i+1) (σa:=σa.set s y) (by rw[sS];exact VF) (by simpa using hl) DC;refine⟨σh,k1,by simpa using k2,λt ht=>?_,λt ht=>?_⟩;.simp only[Be,AP,not_or] at ht;rw[k3 t ht.2,Av.CC λe=>ht.1 e.symm]
   .by_cases hm:t∈l.map (·.1)
    .obtain⟨q1,q2⟩:=k4 t hm;refine⟨q1,q2.imp (λ⟨CH,Dz,GJ,e1,e2⟩=>⟨CH,Dz,GJ,e1,?_⟩) id⟩;by_cases Nv:s=t
     .subst Nv;rw[Av.Cn hlt] at e2;rcases wU with⟨v1,c1,o1,rfl,h1⟩|hn
      .simp only[MJ] at e2;omega
      .rcases q1 with⟨u,_,e⟩|⟨u,_,e⟩|⟨ver,cs,ow,_,_,e,_⟩
       .rw[e1] at e;cases e
       .rw[e1] at e;cases e
       .exact absurd e (hn _ _ _)
     .rwa [Av.CC Nv] at e2
    .have Nv:t=s:=by simp only[Be,AP] at ht;exact ht.resolve_right hm
     subst Nv;rw[k3 t hm,Av.Cn hlt];exact⟨hy,wU⟩
  cases sh with
  |val=>
   simp only[Ee,Nz] at hr;have T8:(σs.at s).Da=some v:=by simpa using Jy
   refine go (.val v) (.inl ⟨v,T8,rfl⟩) (.inr λver cs ow e=>?_) hr;rw[e] at T8;cases T8
  |A5=>
   simp only[Ee,Nz] at hr;cases hx:σs.at s with
   |A5 u=>rw[hx] at Jy;cases Jy;exact go (.A5 v) (.inr (.inl ⟨v,hx,rfl⟩)) (.inr λver cs ow e=>by rw[hx] at e;cases e) hr
   |_=>rw[hx] at Jy;cases Jy
  |box n ow=>
   simp only[Ee,Nz,IT.step] at hr;cases hx:σs.at s with
   |box ver cs GJ=>
    rw[hx] at Jy;simp only at Jy;split at Jy
    .rename_i Du;cases Jy;split at hr;.rename_i hn;rw[J4 hn] at hr;refine go (.box (MJ (σa.at s)+1) cs ow) (.inr (.inr ⟨ver,cs,GJ,_,ow,hx,rfl,λo ho=>?_⟩)) (.inl ⟨_,_,_,rfl,QA _⟩) hr;have:=Cb.1 Du.2 o ho;simpa using this
     .cases hr
    .cases Jy
   |_=>rw[hx] at Jy;cases Jy
def Bk.bL(hr:Bk C U0 w0 U Z σ h a w){O:Av}(hl:O.length=σ.length)(hs:∀s,O.at s= .undef\/O.at s=σ.at s\/H9 (σ.at s) (O.at s)):Bk C U0 w0 U Z O h a w:=by
 refine⟨hr.BI,⟨by rw[hl];exact hr.fr.size,λs=>?_⟩,hr.BE,hr.defers,hr.C8⟩;have h0:=hr.fr.DG s;rcases hs s with e|e|e
 .rw[e];trivial
 .rw[e];exact h0
 .exact e.rel h0
structure T9(σ0:Av)(ws:List Nat)(l:List (Nat×Sh))(σ':Av)(vs:List Aa):Prop where
 al:Lv σ' l=some vs
 len:σ'.length=σ0.length
 same:∀s,s∉l.map (·.1)->σ0.at s= .undef\/σ0.at s=σ'.at s
 box:∀s ver cs ow,σ0.at s= .box ver cs ow->∃CH Dz GJ,σ'.at s= .box CH Dz GJ
def OI{σ0 σ':Av}{l:List (Nat×Sh)}(hk:Pu σ0 σ' l=true){s:Nat}(hs:s∉l.map (·.1)):(∀ver cs ow,σ0.at s= .box ver cs ow->∃Dz GJ,σ'.at s= .box ver Dz GJ)/\(∀t o,σ0.at s= .Cc t o->∃t' o',σ'.at s= .Cc t' o'):=by
 have hc:(l.map (·.1)).contains s=false:=by
  cases hc:(l.map (·.1)).contains s with
  |false=>rfl
  |true=>exact absurd (by simpa using hc) hs
 have wV:s<σ0.length->(match σ0.at s with
   | .box ver _ _=>(l.map (·.1)).contains s||(match σ'.at s with| .box CH _ _=>CH==ver|_=>false)
   | .Cc _ _=>(l.map (·.1)).contains s||(match σ'.at s with| .Cc _ _=>true|_=>false)
   |_=>true)=true:=λhl=>by
  unfold Pu at hk;exact Cb.1 hk s (by simpa using hl)
 constructor
 .intro ver cs ow hx;have:=wV (Av.Hu (by rw[hx];simp));rw[hx] at this;simp only[hc,I5] at this;split at this
  .rename_i CH Dz GJ hy;have e:CH=ver:=by simpa using this
   subst e;exact⟨Dz,GJ,hy⟩
  .cases this
 .intro t o hx;have:=wV (Av.Hu (by rw[hx];simp));rw[hx] at this;simp only[hc,I5] at this;split at this;.rename_i t' o' hy;exact⟨t',o',hy⟩
  .cases this
def HG{σ0 σh σ':Av}{ws:List Nat}{l:List (Nat×Sh)}{x:C7}{R:Ep}(K5:IT.step (AH C) run (J1 σ0 l x σ') h=some R)(Sf:Dg ws σh σ')(hlen:σh.length=σ0.length)
  (fQ:∀s,s∈ws->σ0.at s= .undef) (Gt:∀s,s∉l.map (·.1)->σ0.at s= .undef\/σ0.at s=σh.at s) (sT:∀s ver cs ow,σ0.at s= .box ver cs ow->∃CH Dz GJ,σh.at s= .box CH Dz GJ):
  ∃vs,R=(x,vs,h)/\T9 σ0 ws l σ' vs:=by
 unfold J1 at K5;split at K5
 .rename_i hk;split at K5
  .rename_i vs hv;cases K5;refine⟨vs,rfl,hv,Sf.1.trans hlen,λs hs=>?_,λs ver cs ow hb=>?_⟩
   .by_cases hw:s∈ws;.exact .inl (fQ s hw)
    .rcases Gt s hs with e|e
     .exact .inl e
     .right;have NJ:=Sf.2 s hw;obtain⟨k1,k2⟩:=OI hk hs;rw[e] at k1 k2⊢;cases hx:σh.at s with
      |box ver cs ow=>rw[hx] at NJ;obtain⟨v1,c1,o1,e1,_,e2⟩:=NJ;obtain⟨c2,o2,e3⟩:=k1 ver cs ow hx;rw[e1] at e3;cases e3;obtain⟨rfl,rfl⟩:=e2 rfl;exact e1.symm
      |Cc t o=>
       rw[hx] at NJ;rcases NJ with e1|e1
       .exact e1.symm
       .obtain⟨t',o',e2⟩:=k2 t o hx;rw[e1] at e2;cases e2
      |_=>rw[hx] at NJ;exact(show σ'.at s=_ from NJ).symm
   .have hw:s∉ws:=λhw=>by rw[fQ s hw] at hb;cases hb
    obtain⟨v1,c1,o1,e1⟩:=sT s ver cs ow hb;have NJ:=Sf.2 s hw;rw[e1] at NJ;obtain⟨v2,c2,o2,e2,_⟩:=NJ;exact⟨v2,c2,o2,e2⟩
  .cases K5
 .cases K5
def T9.next{σ0 σ':Av}{ws:List Nat}{l:List (Nat×Sh)}{vs:List Aa}(he:T9 σ0 ws l σ' vs){G:Av->IT}{R:Ep}(hr:Bk C U0 w0 U Z σ' h a w)(Ad:IT.step (AH C) run (Ee vs l 0 σ0 G) h=some R):
  ∃σh,IT.step (AH C) run (G σh) h=some R/\Bk C U0 w0 U Z σh h a w/\σh.length=σ0.length/\(∀s,s∉l.map (·.1)->σh.at s=σ0.at s)/\(∀s ver cs ow,σ0.at s= .box ver cs ow->∃CH Dz GJ,σh.at s= .box CH Dz GJ/\(s∈l.map (·.1)->ver<CH)):=by
 obtain⟨σh,k1,k2,k3,k4⟩:=KI (σs:=σ') (by simpa using he.al) he.len.symm Ad;refine⟨σh,k1,hr.bL (k2.trans he.len.symm) λs=>?_,k2,k3,λs ver cs ow hb=>?_⟩
 .by_cases hm:s∈l.map (·.1);.exact .inr (.inr (k4 s hm).1)
  .rw[k3 s hm];rcases he.same s hm with e|e
   .exact .inl e
   .exact .inr (.inl e)
 .by_cases hm:s∈l.map (·.1)
  .obtain⟨_,q⟩:=k4 s hm;obtain⟨v1,c1,o1,e1⟩:=he.box s ver cs ow hb;rcases q with⟨CH,Dz,GJ,e2,e3⟩|q
   .exact⟨CH,Dz,GJ,e2,λ_=>by rw[hb] at e3;exact e3⟩
   .exact absurd e1 (q _ _ _)
  .exact⟨ver,cs,ow,by rw[k3 s hm];exact hb,λh=>absurd h hm⟩
def HH{σ σ0 σh:Av}{ws W:List Nat}{l:List (Nat×Sh)}(h0:σ0=σ.clear ws)(hv:Ti l ws σ=true)(hl:σh.length=σ0.length)(h1:∀s,s∉l.map (·.1)->σh.at s=σ0.at s)
  (h2:∀s ver cs ow,σ0.at s= .box ver cs ow->∃CH Dz GJ,σh.at s= .box CH Dz GJ/\(s∈l.map (·.1)->ver<CH)) (hW:∀s∈ws,s∈W):Dg W σ σh:=by
 refine⟨by rw[hl,h0,Av.EB],λs hs=>?_⟩;have wW:s∉ws:=λhm=>hs (hW s hm);have e0:σ0.at s=σ.at s:=by rw[h0,Av.DN,if_neg wW]
 by_cases hm:s∈l.map (·.1)
 .obtain⟨p,hp,rfl⟩:=Ay.1 hm;have:=Cb.1 hv p hp;simp only[Hb,gD] at this;rcases this with this|this
  .exact absurd this wW
  .cases hx:σ.at p.1 with
   |box ver cs ow=>obtain⟨v1,c1,o1,e1,e2⟩:=h2 p.1 ver cs ow (by rw[e0];exact hx);have:=e2 hm;exact⟨v1,c1,o1,e1,by omega,λe=>by omega⟩
   |_=>rw[hx] at this;cases this
 .rw[h1 s hm,e0];exact .refl _
def Ca.le{n m:Nat}(h:Ca C (IT.run (AH C) n))(ZR:m<=n):Ca C (IT.run (AH C) m):=⟨h.1,λf args h0 r h' Ad=>h.2 f args h0 r h' (IT.DA ZR Ad)⟩
def Ua(hm:C.P.follows .mixedOrders=true):∀(c:Code) (n:Nat),Ca C (IT.run (AH C) n)->∀{K:C7->Av->IT} {R:Ep} {σ:Av} {h:Ab} {a:Act} {w:World} {U:Gh} {Z:Nat->Nat} {Q:Exit->Act->World->Prop},
  IT.step (AH C) (IT.run (AH C) n) (CI C fid c σ K) h=some R->Bk C U0 w0 U Z σ h a w->
  (∀x U' Z' σ' h' a' w',IT.step (AH C) (IT.run (AH C) n) (K x σ') h'=some R->Dg (Bj c++AK c) σ σ'->Bk C U0 w0 U' Z' σ' h' a' w'->Q (T7 x) a' w')->c.wp C.P Q a w:=by
 intro c;induction c with
 |skip=>intro n hS K R σ h a w U Z Q Ad hr hK;exact wp_skip (hK .normal U Z σ h a w Ad (.refl _ _) hr)
 |region id ops draw=>
  intro n hS K R σ h a w U Z Q Ad hr hK;simp only[CI] at Ad;split at Ad;.exact L3 hm hS Ad hr λU' Z' σ' h' a' w' h1 h2 h3=>hK .normal U' Z' σ' h' a' w' h1 h2 h3
  .rename_i l hl;unfold Np at Ad;simp only at Ad;split at Ad
   .rename_i hv;simp only[IT.step] at Ad;split at Ad
    .rename_i x vs h1 L4;refine L3 hm hS L4 hr λU' Z' σ' h' a' w' k1 k2 k3=>?_;obtain⟨DB,e,he⟩:=HG (h:=h') k1 k2 (by rw[Av.EB]) (λs hs=>by rw[Av.DN,if_pos hs]) (λs _=>by rw[Av.DN];split<;>simp) (λs ver cs ow hb=>by
      rw[Av.DN] at hb;split at hb;.cases hb
      .exact⟨ver,cs,ow,hb⟩)
     cases e;obtain⟨σh,p1,p2,p3,p4,p5⟩:=he.next k3 Ad;exact hK .normal U' Z' σh h1 a' w' p1 (HH rfl hv p3 p4 p5 (λs hs=>hs)) p2
    .cases Ad
   .cases Ad
 |seq x y ihx ihy=>
  intro n hS K R σ h a w U Z Q Ad hr hK;simp only[CI] at Ad;refine wp_seq (ihx n hS Ad hr λe U' Z' σ' h' a' w' h1 h2 h3=>?_);have up:∀σ2,Dg (Bj x++AK x) σ σ2->Dg (Bj (.seq x y)++AK (.seq x y)) σ σ2:=λσ2 ho=>ho.mono λs hs=>by simp only[Bj,AK,Aj] at hs⊢;rcases hs with hs|hs<;>simp[hs]
  cases e with
  |normal=>refine ihy n hS h1 h3 λe2 U2 Z2 σ2 Q2 a2 w2 k1 k2 k3=>hK e2 U2 Z2 σ2 Q2 a2 w2 k1 ((up _ h2).trans (k2.mono λs hs=>?_)) k3;simp only[Bj,AK,Aj] at hs⊢;rcases hs with hs|hs<;>simp[hs]
  |exit i=>exact hK (.exit i) U' Z' σ' h' a' w' h1 (up _ h2) h3
  |ret=>exact hK .ret U' Z' σ' h' a' w' h1 (up _ h2) h3
 |cond c x y ihx ihy=>
  intro n hS K R σ h a w U Z Q Ad hr hK;have upx:∀{σ1 σ2:Av},Dg (Bj x++AK x) σ1 σ2->Dg (Bj (.cond c x y)++AK (.cond c x y)) σ1 σ2:=λ{σ1 σ2} ho=>ho.mono λs hs=>by cases c<;>simp only[Bj,AK,Aj,AP] at hs⊢<;>rcases hs with hs|hs<;>simp[hs]
  have upy:∀{σ1 σ2:Av},Dg (Bj y++AK y) σ1 σ2->Dg (Bj (.cond c x y)++AK (.cond c x y)) σ1 σ2:=λ{σ1 σ2} ho=>ho.mono λs hs=>by cases c<;>simp only[Bj,AK,Aj,AP] at hs⊢<;>rcases hs with hs|hs<;>simp[hs]
  simp only[CI] at Ad;split at Ad;.rename_i hc;obtain⟨s,h1,_⟩:=CJ hr hc;exact wp_cond_true h1 (ihx n hS Ad hr λe U' Z' σ' h' a' w' k1 k2 k3=>hK e U' Z' σ' h' a' w' k1 (upx k2) k3)
  .rename_i hc;obtain⟨s,h1,_⟩:=CJ hr hc;exact wp_cond_false h1 (ihy n hS Ad hr λe U' Z' σ' h' a' w' k1 k2 k3=>hK e U' Z' σ' h' a' w' k1 (upy k2) k3)
  .rename_i s v hc;have ZB:σ.at s= .val v:=C4 hc;have h0:=hr.fr.DG s;rw[ZB] at h0;have arms:∀{K':C7->Av->IT} {R':Ep} {Q':Exit->Act->World->Prop},IT.step (AH C) (IT.run (AH C) n) (.Ah v (CI C fid x (σ.set s (.Hm true)) K') (CI C fid y (σ.set s (.Hm false)) K')) h=some R'->
     (∀e U' Z' σ' h' a' w',IT.step (AH C) (IT.run (AH C) n) (K' e σ') h'=some R'->Dg (Bj (.cond (.tmp s) x y)++AK (.cond (.tmp s) x y)) σ σ'->Bk C U0 w0 U' Z' σ' h' a' w'->Q' (T7 e) a' w')->(Code.cond (.tmp s) x y).wp C.P Q' a w:=by
    intro K' R' Q' L2 hK';have Sp:∀b:Bool,Dg (Bj (.cond (.tmp s) x y)++AK (.cond (.tmp s) x y)) σ (σ.set s (.Hm b)):=λb=> .set (by simp[AK]);simp only[IT.step] at L2;split at L2;.have hv:a.eval (.tmp s)= .bool true:=h0;exact wp_cond_true hv (ihx n hS L2 (hr.Od h0) λe U' Z' σ' h' a' w' k1 k2 k3=>hK' e U' Z' σ' h' a' w' k1 ((Sp true).trans (upx k2)) k3)
    .have hv:a.eval (.tmp s)= .bool false:=h0;exact wp_cond_false hv (ihy n hS L2 (hr.Od h0) λe U' Z' σ' h' a' w' k1 k2 k3=>hK' e U' Z' σ' h' a' w' k1 ((Sp false).trans (upy k2)) k3)
    .cases L2
   split at Ad;.exact arms Ad hK
   .rename_i l hl;unfold Np at Ad;simp only at Ad;split at Ad
    .rename_i hv;simp only[IT.step] at Ad;split at Ad
     .rename_i e vs h1 L4;refine arms L4 λe2 U' Z' σ' h' a' w' k1 k2 k3=>?_;obtain⟨DB,eq,he⟩:=HG (h:=h') (ws:=s::(Bj x++Bj y++AK x++AK y)) k1 (k2.mono λt ht=>by
        simp only[Bj,AK,Aj,AP] at ht⊢;rcases ht with(ht|ht)|ht|ht|ht<;>simp[ht]) (by rw[Av.EB]) (λt ht=>by rw[Av.DN,if_pos ht]) (λt _=>by rw[Av.DN];split<;>simp) (λt ver cs ow hb=>by
       rw[Av.DN] at hb;split at hb;.cases hb
       .exact⟨ver,cs,ow,hb⟩)
      cases eq;obtain⟨σh,p1,p2,p3,p4,p5⟩:=he.next k3 Ad;exact hK e U' Z' σh h1 a' w' p1 (HH rfl hv p3 p4 p5 (λt ht=>by simp only[Bj,AK,Aj,AP] at ht⊢;rcases ht with ht|((ht|ht)|ht)|ht<;>simp[ht])) p2
     .cases Ad
    .cases Ad
  .cases Ad
 |block id b ih=>
  intro n hS K R σ h a w U Z Q Ad hr hK;simp only[CI] at Ad;refine wp_block (ih n hS Ad hr λe U' Z' σ' h' a' w' h1 h2 h3=>?_);cases e with
  |normal=>exact hK .normal U' Z' σ' h' a' w' h1 h2 h3
  |exit i=>
   simp only at h1;show if i=id then Q .normal a' w' else Q (.exit i) a' w'
   by_cases hi:i=id;.rw[if_pos hi] at h1⊢;exact hK .normal U' Z' σ' h' a' w' h1 h2 h3
   .rw[if_neg hi] at h1⊢;exact hK (.exit i) U' Z' σ' h' a' w' h1 h2 h3
  |ret=>exact hK .ret U' Z' σ' h' a' w' h1 h2 h3
 |loop b ih=>
  intro n hS K R σ h a w U Z Q Ad hr hK;simp only[CI] at Ad;generalize hl:C.aH fid ((CV b).getD 0)=l at Ad;generalize ao:(CV b).getD 0=key at Ad;generalize h0:σ.clear (Bj b++AK b)=σ0 at Ad;split at Ad
  .rename_i hv;split at Ad;.cases Ad
   .rename_i init iG;have iH:σ0.length=σ.length:=by rw[<-h0,Av.EB]
    have fQ:∀s,s∈Bj b++AK b->σ0.at s= .undef:=λs hs=>by rw[<-h0,Av.DN,if_pos hs]
    refine NH (λm a w=>∃U Z σ1 h vs,Bk C U0 w0 U Z σ1 h a w/\T9 σ0 (Bj b++AK b) l σ1 vs/\m<=n+1/\
     IT.run (AH C) m (.loop key vs (λvs=>Ee vs l 0 σ0 λσh=>CI C fid b σh λx σ'=>J1 σ0 l x σ') λx vs=>Ee vs l 0 σ0 λσ'=>Zw K x σ') h=some R) ?_ (n+1) a w
     ⟨U,Z,σ,h,init,hr,⟨iG,iH.symm,λs _=>by rw[<-h0,Av.DN];split<;>simp,λs ver cs ow hb=>by
      rw[<-h0,Av.DN] at hb;split at hb;.cases hb
      .exact⟨ver,cs,ow,hb⟩⟩,Ap _,Ad⟩
    rintro m a1 w1 ⟨U1,Z1,σ1,h1,vs,EH,aq,ZR,DZ⟩;cases m with
    |zero=>simp[IT.run] at DZ
    |succ m=>
     simp only[IT.run,IT.step] at DZ;have body:∀{x:C7} {DB:List Aa} {h':Ab},IT.step (AH C) (IT.run (AH C) m) (Ee vs l 0 σ0 λσh=>CI C fid b σh λx σ'=>J1 σ0 l x σ') h1=some (x,DB,h')->∀{Q':Exit->Act->World->Prop},
       (∀U' Z' σ' a' w',Bk C U0 w0 U' Z' σ' h' a' w'->T9 σ0 (Bj b++AK b) l σ' DB->Q' (T7 x) a' w')->b.wp C.P Q' a1 w1:=by
      intro x DB h' hb Q' hQ';obtain⟨σh,p1,p2,p3,p4,p5⟩:=aq.next EH hb;refine ih m (hS.le (by omega)) p1 p2 λy U' Z' σ' h2 a' w' k1 k2 k3=>?_;obtain⟨sU,eq,he⟩:=HG k1 k2 p3 fQ (λs hs=> .inr (p4 s hs).symm) λs ver cs ow hb=>by obtain⟨v1,c1,o1,e1,_⟩:=p5 s ver cs ow hb;exact⟨v1,c1,o1,e1⟩
      cases eq;exact hQ' U' Z' σ' a' w' k3 he
     split at DZ;.rename_i DB h' hb;exact body hb λU' Z' σ' a' w' DC sV=>⟨m,QA m,U',Z',σ',h',DB,DC,sV,by omega,DZ⟩
     .rename_i x DB h' hne hb;refine body hb λU' Z' σ' a' w' DC sV=>?_;have KH:=IT.Ei (λt h r=>IT.DA (fn:=AH C) (show m<=n by omega)) _ _ _ DZ;obtain⟨σh,p1,p2,p3,p4,p5⟩:=sV.next DC KH;have ho:=HH h0.symm hv p3 p4 p5 λs hs=>hs;cases x with
      |normal=>exact absurd rfl hne
      |exit i=>exact hK _ U' Z' σh h' a' w' p1 ho p2
      |ret=>exact hK _ U' Z' σh h' a' w' p1 ho p2
     .cases DZ
  .cases Ad
 |exit id=>intro n hS K R σ h a w U Z Q Ad hr hK;exact wp_exit (hK (.exit id) U Z σ h a w Ad (.refl _ _) hr)
 |ret=>intro n hS K R σ h a w U Z Q Ad hr hK;exact wp_ret (hK .ret U Z σ h a w Ad (.refl _ _) hr)
 |label l=>intro n hS K R σ h a w U Z Q Ad hr hK;exact wp_label (hK .normal U Z σ h a w Ad (.refl _ _) hr)
 |scope b ih=>
  intro n hS K R σ h a w U Z Q Ad hr hK;simp only[CI] at Ad;refine wp_scope_straight (ih n hS Ad hr λe U' Z' σ' h' a' w' h1 h2 h3=>?_);cases e with
  |normal=>exact hK .normal U' Z' σ' h' a' w' h1 h2 h3
  |exit i=>exact hK (.exit i) U' Z' σ' h' a' w' h1 h2 h3
  |ret=>exact hK .ret U' Z' σ' h' a' w' h1 h2 h3
 |_=>intros n hS K R σ h a w U Z Q Ad hr hK;cases Ad
end
end Go.Am
end
section
namespace Go.Am
open Go
section
variable{C:CB}{U0 U:Gh}{w0 w:World}{Z:Nat->Nat}{σ:Av}{h:Ab}{a:Act}{fid:FuncId}{run:IT->Ab->Option Ep}
def DO(tmps:Array Value):ResultVar->Sem Value
 | .tmp t=>pure (tmps.getD t undef)
 | .cell a t=>do loadVar t (<-asAddr (tmps.getD a undef))
def Jz{P:Program}{t:TypeId}{b o:Nat}{v:Value}(h:(Instr.loadAt t (.pointer (some ⟨b,o,none⟩))).run P w= .ok v w):(loadVar t ⟨b,o,none⟩).run P w= .ok v w:=by simpa[Instr.loadAt,Instr.sureAddr] using h
def KJ{K:List Aa->IT}{R:Ep}:∀{rs:List ResultVar} {BE:List Aa},IT.step (AH C) run (CP C σ rs BE K) h=some R->Bk C U0 w0 U Z σ h a w->
  ∃vs us,(rs.mapM (DO a.tmps)).run C.P w= .ok us w/\Ai U vs us/\IT.step (AH C) run (K (BE.reverse++vs)) h=some R
 |[],BE,Ad,hr=>⟨[],[],by simp,rfl,by simpa[CP] using Ad⟩
 |rv::rs,BE,Ad,hr=>by
  have one:∀(v:Aa) (u:Value),(DO a.tmps rv).run C.P w= .ok u w->Au U v u->IT.step (AH C) run (CP C σ rs (v::BE) K) h=some R->
    ∃vs us,((rv::rs).mapM (DO a.tmps)).run C.P w= .ok us w/\Ai U vs us/\IT.step (AH C) run (K (BE.reverse++vs)) h=some R:=by
   intro v u h1 h2 h3;obtain⟨vs,us,k1,k2,k3⟩:=KJ h3 hr;refine⟨v::vs,u::us,?_,⟨u,us,rfl,h2,k2⟩,by simpa using k3⟩;simp[List.mapM_cons,h1,k1]
  cases rv with
  |tmp t=>
   simp only[CP] at Ad;split at Ad;.rename_i v hv;exact one v _ (by simp[DO]) (Gv (hr.fr.DG t) hv) Ad
   .cases Ad
  |cell p t=>
   have qZ:∀(b o:Nat) (v:Aa),a.tmps.getD p undef= .pointer (some ⟨b,o,none⟩)->(∃u,(Instr.loadAt t (.pointer (some ⟨b,o,none⟩))).run C.P w= .ok u w/\Au U v u)->IT.step (AH C) run (CP C σ rs (v::BE) K) h=some R->
     ∃vs us,((ResultVar.cell p t::rs).mapM (DO a.tmps)).run C.P w= .ok us w/\Ai U vs us/\IT.step (AH C) run (K (BE.reverse++vs)) h=some R:=by
    intro b o v hp ⟨u,h1,h2⟩ h3;refine one v u ?_ h2 h3;simp only[DO,hp,asAddr,Sem.run_bind,Sem.run_pure,Result.andThen_ok];exact Jz h1
   simp only[CP] at Ad;split at Ad
   .rename_i s off ver cs ow ht ha;split at Ad;.rename_i hlt;obtain⟨hs,hx⟩:=E9 hr ha;obtain⟨u,q1,q2,_⟩:=EY hr ht hs (r:=cs.getD off .nilIface) (off:=off) (by simp[Cj,List.getD,Ax hlt]);exact qZ _ _ _ hx ⟨u,q1,q2⟩ Ad
    .cases Ad
   .rename_i n s off ver cs ow ht ha;split at Ad;.rename_i Cd;obtain⟨hs,hx⟩:=E9 hr ha;obtain⟨u,q1,q2,_⟩:=EY hr ht hs (r:= .agg ((cs.drop off).take n)) (off:=off) (by simp[Cj,Cd]);exact qZ _ _ _ hx ⟨u,q1,q2⟩ Ad
    .cases Ad
   .rename_i n p' ht ha;simp only[IT.step] at Ad;split at Ad
    .rename_i v hv;have TG:=II hr ha;unfold Ck at hv;split at hv;.rename_i cs;obtain⟨b,k,Ow,hm⟩:=TG;obtain⟨us,p1,p2⟩:=hm.values;exact qZ b k v Ow (DM (w:=w) ht p1 (λj u hj=>(hr.BI.DI _ _ _ (p2 j u hj)).1) (λu hu=>by obtain⟨j,hj⟩:=AU hu;exact(hr.BI.DI _ _ _ (p2 j u hj)).2.1) hv) Ad
     .rename_i id off;obtain⟨b,hb,Ow⟩:=TG;split at hv
      .rename_i cs hcs;obtain⟨us,e,fr,p1,pf,p2,p3⟩:=hr.BI.cells id cs hcs b hb;refine qZ b off v Ow (DM (w:=w) (b:=b) (o:=off) ht (p2.drop off) (λj u hj=>?_) (λu hu=>p3 u (Bu hu)) (HA hv)) Ad;rw[cell_of_row w _ _ us e fr p1];rw[Bg,A0] at hj;split at hj;.simpa using hj
       .cases hj
      .cases hv
     .cases hv
    .cases Ad
   .cases Ad
def Bk.DJ(hr:Bk C U0 w0 U Z σ h a w){p:Aa}{off:Nat}{u:Value}{h':Ab}(hp:Au U p u)(hf:Ll h off p=some h'):∃U',Bk C U0 w0 U' Z σ h' a w:=by
 unfold Ll at hf;split at hf;.cases hf;exact⟨U,hr⟩
 .rename_i id o0;generalize o0+off=o at hf;obtain⟨b,hb,_⟩:=hp;split at hf
  .rename_i cs hcs;split at hf
   .rename_i v hv;obtain⟨us,e,fr,p1,pf,p2,p3⟩:=hr.BI.cells id cs hcs b hb;obtain⟨x,hx,aU⟩:=p2.get hv;cases hq:IB h v with
    |none=>rw[hq] at hf;cases hf
    |some q=>
     obtain⟨h1,v'⟩:=q;rw[hq] at hf;simp only[Bx] at hf;split at hf
     .rename_i Dz iI;cases hf;obtain⟨U1,Cd,EH,VE⟩:=hr.Mn aU hq;have Q7:=Cd.mu _ _ hb;obtain⟨fM,e1,jn,r1,rf,r2,r3⟩:=EH.BI.cells id Dz iI b Q7;rw[p1] at r1;cases r1;have Sp:Ai U1 (Dz.set o v') (us.toList.take (Dz.set o v').length):=by
       rw[kf];refine Ai.C2 (by simp[r2.length]) λi y z hy hz=>?_;by_cases hi:o=i
       .subst hi;by_cases hlt:o<Dz.length
        .rw[AD hlt] at hy;cases hy;have ar:x=z:=by rw[A6 hlt] at hz;have sW:o<cs.length:=(Af.1 hv).1;rw[A6 sW] at hx;rw[hx] at hz;exact D7 hz
         rw[<-ar];exact VE
        .rw[Dj (by simpa using hlt)] at hy;cases hy
       .rw[AB hi] at hy;obtain⟨z',Mq,au⟩:=r2.get hy;rw[hz] at Mq;cases Mq;exact au
      obtain⟨Pl,N8⟩:=Gs EH.BI iI Q7 p1 us (Dz.set o v') rfl rf Sp (by rw[kf];exact r3);rw[setRow_self w b us e fr p1] at Pl N8;exact⟨U1,EH.DX Pl N8⟩
     .cases hf
   .cases hf
  .cases hf
 .cases hf
def Q8{t:IT}{R:Ep}:∀{l:List (Nat×Nat)} {U:Gh} {h:Ab},IT.step (AH C) run (QL C σ l t) h=some R->Bk C U0 w0 U Z σ h a w->∃U' h',Bk C U0 w0 U' Z σ h' a w/\IT.step (AH C) run t h'=some R
 |[],U,h,Ad,hr=>⟨U,h,hr,Ad⟩
 |(s,off)::l,U,h,Ad,hr=>by
  simp only[QL] at Ad;split at Ad
  .rename_i p hp;simp only[IT.step] at Ad;split at Ad;.rename_i h1 hf;obtain⟨U1,EH⟩:=hr.DJ (Gv (hr.fr.DG s) hp) hf;exact Q8 Ad EH
   .cases Ad
  .cases Ad
def L5{R:Ep}:∀{vs BE:List Aa} {U:Gh} {h:Ab} {us S0:List Value},IT.step (AH C) run (Hs vs BE Kx) h=some R->Bk C U0 w0 U Z σ h a w->Ai U vs us->Ai U BE.reverse S0->
  ∃U' h' DB,Bk C U0 w0 U' Z σ h' a w/\Ai U' DB (S0++us)/\IT.step (AH C) run (Kx DB) h'=some R
 |[],BE,U,h,us,S0,Ad,hr,h1,h2=>by rw[show us=[] from h1,BM];exact⟨U,h,BE.reverse,hr,h2,Ad⟩
 |v::vs,BE,U,h,us,S0,Ad,hr,h1,h2=>by
  obtain⟨u,By,rfl,hv,h1⟩:=h1;simp only[Hs,IT.step] at Ad;split at Ad
  .rename_i h3 v' hf;obtain⟨U1,Cd,EH,VE⟩:=hr.Mn hv hf;have h4:Ai U1 (v'::BE).reverse (S0++[u]):=by rw[Pc];exact(Ai.mono Cd _ _ h2).append ⟨u,[],rfl,VE,rfl⟩
   obtain⟨U2,h5,sU,q1,q2,q3⟩:=L5 Ad EH (Ai.mono Cd _ _ h1) h4;exact⟨U2,h5,sU,q1,by rwa [Bz] at q2,q3⟩
  .cases Ad
def Q9{R:Ep}{vs:List Aa}{us:List Value}{U:Gh}{h:Ab}(Ad:IT.step (AH C) run (Kx vs) h=some R)(hv:Ai U vs us):
  ∃r,R=(.ret,[r],h)/\Au U r (if hh:us.toArray.size=1 then us.toArray[0] else .tuple us.toArray):=by
 unfold Kx at Ad;split at Ad;.rename_i v;obtain⟨u,By,rfl,rU,hnil⟩:=hv;rw[show By=[] from hnil];simp only[IT.step] at Ad;cases Ad;exact⟨v,rfl,by simpa using rU⟩
 .rename_i hne;simp only[IT.step] at Ad;cases Ad;have hlen:us.length≠1:=λe=>by have:=hv.length;rw[e] at this;obtain⟨v,hv⟩:=fD.1 this.symm;exact hne v hv
  refine⟨_,rfl,?_⟩;rw[dif_neg (by simpa using hlen)];exact⟨us.toArray,rfl,by simpa using hv⟩
def KK{fn:Func}{tmps:Array Value}{us:List Value}(h:(fn.results.toList.mapM (DO tmps)).run C.P w= .ok us w):(results fn tmps).run C.P w= .ok (if hh:us.toArray.size=1 then us.toArray[0] else .tuple us.toArray) w:=by
 have e:fn.results.mapM (DO tmps)=(do let l<-fn.results.toList.mapM (DO tmps);pure l.toArray:Sem (Array Value)):=by rw[Array.mapM_eq_mapM_toList];simp
 have e2:results fn tmps=(do let vs<-fn.results.mapM (DO tmps);pure (if hh:vs.size=1 then vs[0] else .tuple vs):Sem Value):=by unfold results;congr 2
 rw[e2,e];simp only[Sem.run_bind,h,Result.andThen_ok,Sem.run_pure]
def VT{fn:Func}{R:Ep}(Ad:IT.step (AH C) run (Oc C fid fn σ) h=some R)(hr:Bk C U0 w0 U Z σ h a w):
  ∃r h' v U',R=(.ret,[r],h')/\(results fn a.tmps).run C.P w= .ok v w/\Dp U' h' w/\FC U0 w0 U' w/\Au U' r v/\(C.Et fid=true->∃s c,D2 U' w0.heap.size w s c v r):=by
 unfold Oc at Ad;split at Ad;.cases Ad
 .rename_i Ct;obtain⟨U1,h1,EH,DZ⟩:=Q8 Ad hr;by_cases ho:C.Et fid=true
  .have aw:∃t x,fn.results.toList=[.tmp t]/\σ.at t= .A5 x:=by
    have:H4 σ fn.results.toList=true:=by
     cases hq:H4 σ fn.results.toList with
     |true=>rfl
     |false=>exact absurd (by simp[ho,hq]) Ct
    unfold H4 at this;split at this
    .rename_i t EI;split at this;.rename_i x hx;exact⟨t,x,EI,hx⟩
     .cases this
    .cases this
   obtain⟨t,x,fU,hx⟩:=aw;have h0:=EH.fr.DG t;rw[hx] at h0;have VU:=KK (C:=C) (w:=w) (fn:=fn) (tmps:=a.tmps) (us:=[a.tmps.getD t undef]) (by rw[fU];simp[DO]);rw[fU] at DZ;simp only[CP,hx,BQ.Da,Pc,JO,Bi] at DZ;have iJ:IB h1 x=some (h1,x):=by rcases h0.2 with(rfl|⟨_,rfl⟩)|⟨_,_,_,_,_,_,_,rfl,_⟩<;>rfl
   have hR:R=(.ret,[x],h1):=by
    split at DZ;.simp only[Hs,IT.step,iJ,Pc,JO,Bi,Kx] at DZ;cases DZ;rfl
    .simp only[IT.step,Kx] at DZ;cases DZ;rfl
   exact⟨x,h1,_,U1,hR,by simpa using VU,EH.BI,EH.BE,h0.1,λ_=>⟨t,none,h0.2⟩⟩
  .obtain⟨vs,us,k1,k2,KH⟩:=KJ DZ EH;simp only[JO,Bi] at KH;have VU:=KK (C:=C) k1;split at KH;.obtain⟨U2,h2,sU,q1,q2,q3⟩:=L5 KH EH k2 (S0:=[]) rfl;rw[Bi] at q2;obtain⟨r,hR,sX⟩:=Q9 q3 q2;exact⟨r,h2,_,U2,hR,VU,q1.BI,q1.BE,sX,λe=>absurd e ho⟩
   .obtain⟨r,hR,sX⟩:=Q9 KH k2;exact⟨r,h1,_,U1,hR,VU,EH.BI,EH.BE,sX,λe=>absurd e ho⟩
def Bk.start{U:Gh}{h:Ab}{w:World}(hi:Dp U h w)(hg:∀g cs,C.C8 g=some cs->Bb U cs g 0){args:List Aa}{cargs:Array Value}(ha:Ai U args cargs.toList)(n:Nat)(Z:Nat->Nat):
  Bk C U w U Z (args.map .val++List.replicate (n-args.length) .undef) h {tmps:=cargs++Array.replicate (n-cargs.size) undef,defers:=[]} w:=by
 have hlen:cargs.size=args.length:=by have:=ha.length;simpa using this
 refine⟨hi,⟨by simp[hlen],λs=>?_⟩,FC.refl U w,rfl,hg⟩;by_cases hs:s<args.length
 .have h1:Av.at (args.map .val++List.replicate (n-args.length) .undef) s= .val args[s]:=by simp[Av.at,List.getD,As,hs]
  obtain⟨u,hu,hr⟩:=ha.get (Ax hs);have h2:(cargs++Array.replicate (n-cargs.size) undef).getD s undef=u:=by
   rw[C6,Array.getElem?_append_left (by omega)];have:cargs[s]?=some u:=by simpa using hu
   rw[this];rfl
  rw[h1,h2];exact hr
 .have h1:Av.at (args.map .val++List.replicate (n-args.length) .undef) s= .undef:=by
   have hm:(args.map BQ.val).length=args.length:=by simp
   simp only[Av.at,List.getD];rw[BL (by omega),List.getElem?_replicate];split<;>rfl
  rw[h1];trivial
def NL(C:CB):Prop:=
 (∀f,C.aJ f=true->TN C f)/\∀(f:FuncId) (p:List Aa->IT),C.aI f=some p->∀n,Ca C (IT.run (AH C) n)->∀(args:List Aa) (h:Ab) (r:Aa) (h':Ab),IT.step (AH C) (IT.run (AH C) n) (p args) h=some (.ret,[r],h')->
  (∃fn c,C.P.funcs[B4 f]?=some fn/\(fn.name== "runtime.NumGoroutine")=false/\fn.body=some c)/\
  ∀(U:Gh) (w:World) (cargs:Array Value),Dp U h w->(∀g cs,C.C8 g=some cs->Bb U cs g 0)->Ai U args cargs.toList->
   Calls C.P (B4 f) cargs w λe w'=>match e with
    | .returned v=>∃U',Dp U' h' w'/\FC U w U' w'/\Au U' r v/\(C.Et f=true->∃s c,D2 U' w.heap.size w' s c v r)
    |_=>False
def OJ(hm:C.P.follows .mixedOrders=true)(bM:∀g cs,C.C8 g=some cs->cs.all Aa.FW=true)(ZS:NL C):∀n,Ca C (IT.run (AH C) n)
 |0=>⟨⟨bM,ZS.1⟩,λf args h r h' Ad=>by simp[IT.run] at Ad⟩
 |n+1=>⟨⟨bM,ZS.1⟩,λf args h r h' Ad=>by
  have ih:=OJ hm bM ZS n;simp only[IT.run] at Ad;unfold AH at Ad;split at Ad;.rename_i p hp;exact ZS.2 f p hp n ih args h r h' Ad
  unfold gL at Ad;split at Ad
  .rename_i fn hf;split at Ad;.cases Ad
   .rename_i hname;unfold Tj at Ad;split at Ad;.cases Ad
    .rename_i c hb;refine⟨⟨fn,c,hf,by simpa using hname,hb⟩,λU w cargs hi hg ha=>calls_of_wp hf hb ?_⟩;refine Ua (C:=C) (fid:=f) hm c n ih Ad (Bk.start hi hg ha fn.ntmps (λ_=>0)) λx U' Z' σ' h1 a' w' k1 _ k3=>?_;have Hh:IT.step (AH C) (IT.run (AH C) n) (Oc C f fn σ') h1=some (.ret,[r],h')->a'.defers=[]/\∃v,(results fn a'.tmps).run C.P w'= .ok v w'/\∃U'',Dp U'' h' w'/\FC U w U'' w'/\Au U'' r v/\(C.Et f=true->∃s c,D2 U'' w.heap.size w' s c v r):=λsY=>by obtain⟨r',h2,v,U'',e,p1,p2,p3,p4,p5⟩:=VT sY k3;cases e;exact⟨k3.defers,v,p1,U'',p2,p3,p4,p5⟩
     cases x with
     |normal=>exact Hh k1
     |ret=>exact Hh k1
     |exit i=>cases k1
  .cases Ad⟩
end
def Ev.calls{C:CB}(hm:C.P.follows .mixedOrders=true)(bM:∀g cs,C.C8 g=some cs->cs.all Aa.FW=true)(ZS:NL C){f:FuncId}{args:List Aa}{h:Ab}{Q:Aa->Ab->Prop}(sZ:Ev C f args h Q){U:Gh}{w:World}{cargs:Array Value}(hi:Dp U h w)(hg:∀g cs,C.C8 g=some cs->Bb U cs g 0)(ha:Ai U args cargs.toList):
  Calls C.P (B4 f) cargs w λe w'=>match e with
   | .returned v=>∃r h' U',Q r h'/\Dp U' h' w'/\FC U w U' w'/\Au U' r v
   |_=>False:=by
 obtain⟨n,x,vs,h',Ad,rfl,r,rfl,hQ⟩:=sZ;refine(((OJ hm bM ZS n).2 f args h r h' Ad).2 U w cargs hi hg ha).mono λe w' he=>?_;cases e with
 |returned v=>obtain⟨U',p1,p2,p3,_⟩:=he;exact⟨r,h',U',hQ,p1,p2,p3⟩
 |_=>exact he
end Go.Am
end
section
namespace Go.Am
open Go
inductive Ty where
 |bool
 |int (k:IntKind)
 |str
 |sl (e:Ty)
 |st (fs:List Ty)
 deriving Inhabited
mutual
def Ty.size:Ty->Nat
 | .bool| .int _| .str| .sl _=>1
 | .st fs=>Ty.F6 fs
def Ty.F6:List Ty->Nat
 |[]=>0
 |t::ts=>Ty.size t+Ty.F6 ts
end
mutual
def IM(P:Program):Ty->TypeId->Bool
 | .bool,t=>match P.underlying t with|some .bool=>true|_=>false
 | .int k,t=>match P.underlying t with|some (.int k')=>decide (k'=k)|_=>false
 | .str,t=>match P.underlying t with|some .string=>true|_=>false
 | .sl e,t=>match P.underlying t with
  |some (.slice e')=>P.cellsOf e'==Ty.size e&&decide (0<Ty.size e)&&IM P e e'
  |_=>false
 | .st fs,t=>match P.underlying t with
  |some (.struct fields)=>P.cellsOf t==Ty.F6 fs&&HI P fs fields.toList 0
  |_=>false
def HI(P:Program):List Ty->List Field->Nat->Bool
 |[],[],_=>true
 |ty::tys,f::fs,off=>f.offset==off&&P.cellsOf f.type==Ty.size ty&&IM P ty f.type&&HI P tys fs (off+Ty.size ty)
 |_,_,_=>false
end
mutual
def NM:Ty->List Aa->Prop
 | .bool,l=>∃b,l=[.bool b]
 | .int k,l=>∃n,l=[.int k n]/\(Lit.int k n).wf=true
 | .str,l=>∃s:Ag,l=[.str s]/\s.length<=maxLen
 | .sl e,l=>l=[.slnil]\/∃Ac:List (List Aa),l=[.sl (Ty.size e) Ac]/\Ac.length<=maxLen/\∀r∈Ac,NM e r
 | .st fs,l=>Sv fs l
def Sv:List Ty->List Aa->Prop
 |[],l=>l=[]
 |ty::tys,l=>∃a b,l=a++b/\NM ty a/\Sv tys b
end
def Ty.bN:Ty->Bool
 | .st _=>true
 |_=>false
def Ub(ty:Ty)(a:Aa):Prop:=if ty.bN then∃cs,a= .agg cs/\NM ty cs else NM ty [a]
def Le:List Ty->List Aa->Prop
 |[],l=>l=[]
 |ty::tys,l=>∃a b,l=a::b/\Ub ty a/\Le tys b
def CK(W:World):Gh:={DI:=λb o=>(W.cell? ⟨b,o,none⟩).filter (·.oneCell'),mu:=λ_=>none,A5:=λ_=>none,sz:=λ_=>none}
def Uc(W:World):Dp (CK W) [] W:=by refine⟨λb o v h=>?_,λid x h=>by simp at h,λid cs h=>by simp at h,λid es h=>by simp at h,λid b h=>(by cases h),λb x h=>(by cases h),λb n h=>(by cases h)⟩;simp only[CK,Ij] at h;exact⟨h.1,h.2,.inl rfl⟩
def Ka{W:World}{b o:Nat}{v:Value}(h:W.cell? ⟨b,o,none⟩=some v)(h1:v.oneCell'=true):(CK W).DI b o=some v:=by simp[CK,h,h1,Option.filter]
def KL{V:Type}{p:Nat->V->Prop}:∀(n:Nat),(∀i,i<n->∃x,p i x)->∃l:List V,l.length=n/\∀i x,l[i]?=some x->p i x
 |0,_=>⟨[],rfl,by simp⟩
 |n+1,h=>by
  obtain⟨l,hl,hp⟩:=KL n λi hi=>h i (by omega);obtain⟨x,hx⟩:=h n (by omega);refine⟨l++[x],by simp[hl],λi y hy=>?_⟩;rw[qH] at hy;split at hy;.exact hp i y hy
  .have:i-l.length=0:=by
    rcases Fk (i-l.length) with h0|h0
    .exact h0
    .rw[Dj (by simp;omega)] at hy;cases hy
   rw[this] at hy;simp at hy;subst hy;have:i=n:=by omega
   rw[this];exact hx
section
variable{H:Type}{enc:TypeId×Value->H}{P:Program}{W:World}
def Ir{a:Addr}{n:Nat}{cs:List Value}(h:W.cells? 0 a n=some cs)(hn:0<n):a.spot=none:=by
 obtain⟨_,hl,hc⟩:=World.cells?_some h;have h0:=hc 0 hn;have hlt:0<cs.length:=by omega
 rw[Ax hlt] at h0;unfold World.cell? at h0;have ha:a.add 0=a:=by simp[Addr.add]
 rw[ha] at h0;split at h0
 .split at h0;.cases h0
  .rename_i hs;simpa using hs
 .cases h0
mutual
def NN:∀(ty:Ty) {t:TypeId} {fuel:Nat} {cs:List Value} {x:DataW H×List MemPlace},IM P ty t=true->DataW.trod enc P W 0 (λ_=>true) true fuel t cs=some x->
  ∃as,NM ty as/\Ai (CK W) as cs/\(∀u∈cs,u.oneCell'=true)/\as.length=Ty.size ty
 | .bool,t,fuel,cs,x,Fm,h=>by
  unfold IM at Fm;split at Fm;.rename_i ht;obtain⟨b,rfl,_⟩:=DataW.trod_bool ht h;exact⟨[.bool b],⟨b,rfl⟩,⟨_,[],rfl,rfl,rfl⟩,by simp[Value.oneCell'],rfl⟩
  .cases Fm
 | .int k,t,fuel,cs,x,Fm,h=>by
  unfold IM at Fm;split at Fm
  .rename_i k' ht;have hk:k'=k:=by simpa using Fm
   subst hk;obtain⟨n,rfl,_,hw⟩:=DataW.trod_int ht h;exact⟨[.int k' n],⟨n,rfl,hw⟩,⟨_,[],rfl,rfl,rfl⟩,by simp[Value.oneCell'],rfl⟩
  .cases Fm
 | .str,t,fuel,cs,x,Fm,h=>by
  unfold IM at Fm;split at Fm
  .rename_i ht;obtain⟨s,rfl,_,hs⟩:=DataW.trod_string ht h;refine⟨[.str s.data.toList],⟨_,rfl,by
    have e:s.data.toList.length=s.size:=by rw[AM];rfl
    rw[e];exact hs⟩,⟨_,[],rfl,?_,rfl⟩,by simp[Value.oneCell'],rfl⟩
   show Value.string s= .string ⟨⟨s.data.toList⟩⟩;congr 1
  .cases Fm
 | .sl e,t,fuel,cs,x,Fm,h=>by
  unfold IM at Fm;split at Fm
  .rename_i e' ht;simp only[Ao,Vl,CO] at Fm;obtain⟨⟨hce,hpos⟩,tC⟩:=Fm;rcases DataW.trod_slice ht h with⟨rfl,_⟩|⟨a,len,cap,elems,rest,n,_,rfl,_,_,hl,hm,hlen,wX,hsp,_⟩
   .exact⟨[.slnil],.inl rfl,⟨_,[],rfl,rfl,rfl⟩,by simp[Value.oneCell'],rfl⟩
   .have spot:0<cap->a.spot=none:=λhc=>by
     have ha:a.add 0=a:=by simp[Addr.add]
     rcases Fk len with h0|h0
     .obtain⟨EH,GK⟩:=hsp rfl;have:=GK 0 (by omega);rw[Ax (show 0<rest.length by omega)] at this;have ax:(len+0)*P.cellsOf e'=0:=by rw[h0];simp
      rw[ax,ha] at this;obtain⟨vs,hv,_⟩:=JQ.1 this;exact Ir hv (by omega)
     .have:=wX 0 h0;rw[Ax (show 0<elems.length by omega)] at this;rw[FQ,ha] at this;obtain⟨vs,hv,_⟩:=JQ.1 this;exact Ir hv (by omega)
    obtain⟨Ac,QY,OA⟩:=KL (p:=λi (r:List Aa)=>NM e r/\r.length=Ty.size e/\Bb (CK W) r a.block (a.off+i*Ty.size e)) len λi hi=>by
     have:=wX i hi;rw[Ax (show i<elems.length by omega)] at this;obtain⟨vs,hv,hd⟩:=JQ.1 this;obtain⟨r,p1,p2,p3,p4⟩:=NN e tC hd;refine⟨r,p1,p4,Bb.C2 λj y hj=>?_⟩;obtain⟨u,hu,ay⟩:=p2.get hj;obtain⟨_,hvl,wY⟩:=World.cells?_some hv;have Pk:j<P.cellsOf e':=by have:=(Af.1 hu).1;omega
     have hc:=wY j Pk;rw[hu] at hc;have PE:a=⟨a.block,a.off,none⟩:=by have:=spot (by omega);cases a;simp_all
     have Hz:(a.add (i*P.cellsOf e')).add j=⟨a.block,a.off+i*Ty.size e+j,none⟩:=by rw[hce];generalize a.block=b at*;generalize a.off=o at*;subst PE;rw[Addr.add_lit,Addr.add_lit]
     rw[Hz] at hc;exact⟨u,Ka hc (p3 u (AT hu)),ay⟩
    refine⟨[.sl (Ty.size e) Ac],.inr ⟨Ac,rfl,by omega,λr hr=>?_⟩,⟨_,[],rfl,⟨a,cap,by rw[QY],by omega,?_,B3.C2 λi r hr=>?_⟩,rfl⟩,by simp[Value.oneCell'],rfl⟩;.obtain⟨i,hi⟩:=AU hr;exact(OA i r hi).1
    .rcases Fk cap with h0|h0
     .exact .inr h0
     .exact .inl (spot h0)
    .exact⟨(OA i r hr).2.1,(OA i r hr).2.2⟩
  .cases Fm
 | .st fs,t,fuel,cs,x,Fm,h=>by
  unfold IM at Fm;split at Fm
  .rename_i fields ht;simp only[Ao,Vl] at Fm;obtain⟨hct,hf⟩:=Fm;obtain⟨xs,n,_,_,hcl,jo,Nq⟩:=DataW.trod_struct ht h;obtain⟨as,p1,p2,p3,p4⟩:=KM fs (fields:=fields.toList) (off:=0) (cs:=cs) (n:=n) hf (λi f hi=>by
    have:=Nq i f (by simpa using hi);have hlt:i<fields.size:=by have:=(Af.1 hi).1;simpa using this
    rw[Ax (show i<xs.length by omega)] at this;exact⟨_,this⟩) (by rw[hcl,hct];omega)
   have e1:(cs.drop 0).take (Ty.F6 fs)=cs:=by rw[FL];exact AS (by rw[hcl,hct];exact Ap _)
   rw[e1] at p2 p3;exact⟨as,p1,p2,p3,p4⟩
  .cases Fm
def KM:∀(tys:List Ty) {fields:List Field} {off:Nat} {cs:List Value} {n:Nat},HI P tys fields off=true->
  (∀(i:Nat) (f:Field),fields[i]?=some f->∃y,DataW.trod enc P W 0 (λ_=>true) true n f.type ((cs.drop f.offset).take (P.cellsOf f.type))=some y)->off+Ty.F6 tys<=cs.length->
  ∃as,Sv tys as/\Ai (CK W) as ((cs.drop off).take (Ty.F6 tys))/\(∀u∈(cs.drop off).take (Ty.F6 tys),u.oneCell'=true)/\as.length=Ty.F6 tys
 |[],fields,off,cs,n,Fm,h,hl=>by refine⟨[],rfl,?_,?_,rfl⟩<;>simp[Ty.F6,Ai]
 |ty::tys,fields,off,cs,n,Fm,h,hl=>by
  cases fields with
  |nil=>simp[HI] at Fm
  |cons f fs=>
   simp only[HI,Ao,Vl] at Fm;obtain⟨⟨⟨ho,hc⟩,MO⟩,TW⟩:=Fm;obtain⟨y,hy⟩:=h 0 f rfl;rw[ho,hc] at hy;obtain⟨as,p1,p2,p3,p4⟩:=NN ty MO hy;simp only[Ty.F6] at hl;obtain⟨bs,q1,q2,q3,q4⟩:=KM tys TW (λi g hi=>h (i+1) g (by simpa using hi)) (by omega);have e1:(cs.drop off).take (Ty.F6 (ty::tys))=(cs.drop off).take (Ty.size ty)++(cs.drop (off+Ty.size ty)).take (Ty.F6 tys):=by simp only[Ty.F6];rw[List.take_add,DS]
   rw[e1];refine⟨as++bs,⟨as,bs,rfl,p1,q1⟩,p2.append q2,λu hu=>?_,by simp[p4,q4,Ty.F6]⟩;rcases Aj.1 hu with hu|hu
   .exact p3 u hu
   .exact q3 u hu
end
def NO{ty:Ty}{t:TypeId}{v:Value}{base:Nat}(Fm:IM P ty t=true)(hv:Value.okWide P W .any base t v):if ty.bN then∃cs,v= .agg cs else v.cells=#[v]:=by
 cases ty with
 |st fs=>
  unfold IM at Fm;split at Fm;.rename_i fields ht;unfold Value.okWide at hv;rw[ht] at hv;obtain⟨cs,e,_⟩:=hv;exact⟨cs,e⟩
  .cases Fm
 |_=>
  unfold IM at Fm;split at Fm;.rename_i ht;unfold Value.okWide at hv;rw[ht] at hv;simp only[Cell.okWide,ht,Cell.ok] at hv;cases v<;>first|rfl|exact hv.elim
  .cases Fm
def M2:∀{tys:List Ty} {ts:List TypeId} {vs:List Value} {ds:List (DataW H)} {ps:List MemPlace} {base:Nat},DataW.TrodAll enc P W 0 (λ_=>true) true ts vs ds ps->tys.length=ts.length->(∀(i:Nat) (ty:Ty) (t:TypeId),tys[i]?=some ty->ts[i]?=some t->IM P ty t=true)->
  (∀(i:Nat) (t:TypeId) (v:Value),ts[i]?=some t->vs[i]?=some v->Value.okWide P W .any base t v)->∃as,Le tys as/\Ai (CK W) as vs
 |[],[],[],[],_,_,_,_,_,_=>⟨[],rfl,rfl⟩
 |ty::tys,t::ts,v::vs,d::ds,ps,base,⟨p,q,⟨fuel,h1⟩,h2,_⟩,hl,Fm,NP=>by
  have MO:=Fm 0 ty t rfl rfl;obtain⟨cells,p1,p2,p3,p4⟩:=NN ty MO h1;obtain⟨bs,q1,q2⟩:=M2 h2 (by simpa using hl) (λi ty t h h'=>Fm (i+1) ty t (by simpa using h) (by simpa using h')) (λi t v h h'=>NP (i+1) t v (by simpa using h) (by simpa using h'));have hc:=NO MO (NP 0 t v rfl rfl);have:∃a,Ub ty a/\Au (CK W) a v:=by
   by_cases Ex:ty.bN=true;.rw[if_pos Ex] at hc;obtain⟨us,rfl⟩:=hc;exact⟨.agg cells,(by unfold Ub;rw[if_pos Ex];exact⟨cells,rfl,p1⟩),us,rfl,by simpa[Value.cells] using p2,by simpa[Value.cells] using p3⟩
   .rw[if_neg Ex] at hc;rw[hc] at p2;obtain⟨u,us,e,hu,hnil⟩:∃c Dz,cells=c::Dz/\Au (CK W) c v/\Dz=[]:=by
     cases cells with
     |nil=>cases p2
     |cons c Dz=>obtain⟨u,By,e,h1,h2⟩:=p2;simp at e;obtain⟨rfl,rfl⟩:=e;exact⟨c,Dz,rfl,h1,by cases Dz with|nil=>rfl|cons _ _=>obtain⟨_,_,e,_⟩:=h2;cases e⟩
    subst hnil;subst e;exact⟨u,(by unfold Ub;rw[if_neg Ex];exact p1),hu⟩
  obtain⟨a,ha,hr⟩:=this;exact⟨a::bs,⟨a,bs,rfl,ha,q1⟩,⟨v,vs,rfl,hr,q2⟩⟩
 |[],_::_,_,_,_,_,_,hl,_,_=>by simp at hl
 |_::_,[],_,_,_,_,_,hl,_,_=>by simp at hl
 |[],[],_::_,_,_,_,h,_,_,_=>by cases h
 |[],[],[],_::_,_,_,h,_,_,_=>by cases h
 |_::_,_::_,[],_,_,_,h,_,_,_=>by cases h
 |_::_,_::_,_::_,[],_,_,h,_,_,_=>by cases h
def L6{W':World}{may:MemPlace->Prop}(h1:W'.os=W.os)(h2:W'.output=W.output)(hb:∀i,i<W.heap.size->W'.heap[i]?=W.heap[i]?):W.keptBut W' may:=by
 refine⟨h1,h2,λi hi=>?_⟩;rw[hb i hi];split;.rename_i c t fr c' t' RX e1 e2;rw[e1] at e2;cases e2;exact⟨rfl,rfl,rfl,λ_ _=>rfl⟩
 .rename_i e1 e2;rw[e1] at e2;cases e2;exact .inr ⟨rfl,rfl⟩
 .rfl
def It(hl:laidOutB P=true){W':World}(hb:RowKit.Below W.heap.size W W'):∀{ts:List TypeId} {vs:List Value} {ds:List (DataW H)} {ps:List MemPlace},(∀t∈ts,P.readableRec t=true/\t<P.types.size)->
  DataW.TrodAll enc P W 0 (λ_=>true) true ts vs ds ps->(∀x∈ps,x.block<W.heap.size)->DataW.TrodAll enc P W' 0 (λb=>decide (b<W.heap.size)) true ts vs ds ps
 |[],[],[],ps,_,h,_=>h
 |t::ts,v::vs,d::ds,ps,Nv,⟨p,q,h1,h2,e⟩,hlt=>by subst e;have ht:=Nv t (by simp);exact⟨p,q,RowKit.Below.trod hl ht.1 ht.2 h1 hb λx hx=>hlt x (AR _ hx),It hl hb (λt' h'=>Nv t' (by simp[h'])) h2 λx hx=>hlt x (Aw _ hx),rfl⟩
 |[],[],_::_,_,_,h,_=>by cases h
 |[],_::_,_,_,_,h,_=>by cases h
 |_::_,[],_,_,_,h,_=>by cases h
 |_::_,_::_,[],_,_,h,_=>by cases h
end
def NQ{C:CB}(hm:C.P.follows .mixedOrders=true)(bM:∀g cs,C.C8 g=some cs->cs.all Aa.FW=true)(ZS:NL C)(hl:laidOutB C.P=true){f:FuncId}{fn:Func}{rt:TypeId}(az:f<=99999)(a_:fn.resultTypes=#[rt])(ba:C.P.underlying rt=some .bool){tys:List Ty}(hlen:tys.length=fn.params.size)
  (tD:∀(i:Nat) (ty:Ty) (t:TypeId),tys[i]?=some ty->fn.params[i]?=some t->IM C.P ty t=true) (iK:∀t∈fn.params.toList,C.P.readableRec t=true/\t<C.P.types.size)
  (sZ:∀as,Le tys as->Ev C f as [] λr _=>r= .bool true) {s:ChangeSpec} (ZB:s.vars=[])
  {H:Type} (VM:∀ds:List (DataW H),ds.length=fn.params.size->s.fn H ds={results:=[.lit (.bool true)],args:=ds})
  {enc:TypeId×Value->H} {W:World} {base:Nat} {args:Array Value} {ds gs:List (DataW H)} {before:List MemPlace} (hg:∀g cs,C.C8 g=some cs->Bb (CK W) cs g 0)
  (NP:∀(j:Nat) (t:TypeId) (v:Value),fn.params[j]?=some t->args[j]?=some v->Value.okWide C.P W .any base t v) (hW:DataW.Whole enc C.P fn.params.toList s.vars false W args.toList ds gs before):
  Calls C.P f args W λe W'=>∃v,e= .returned v/\s.post enc C.P fn false true false false W args v W':=by
 have hW':=hW;have hlt:=hW.lt;obtain⟨p,q,hA,hV,rfl,hfz,qQ⟩:=hW;rw[ZB] at hV;have bK:gs=[]/\q=[]:=by
  cases gs with
  |nil=>exact⟨rfl,hV⟩
  |cons _ _=>cases hV
 obtain⟨rfl,rfl⟩:=bK;obtain⟨as,tE,N8⟩:=M2 hA (by simpa using hlen) (λi ty t h h'=>tD i ty t h (by simpa using h')) (λi t v h h'=>NP i t v (by simpa using h) (by simpa using h'));have PZ:ds.length=fn.params.size:=by
  have key:∀{ts:List TypeId} {vs:List Value} {ds:List (DataW H)} {ps:List MemPlace},DataW.TrodAll enc C.P W 0 (λ_=>true) true ts vs ds ps->ds.length=ts.length:=by
   intro ts;induction ts with
   |nil=>intro vs ds ps h;cases vs<;>cases ds<;>first|rfl|cases h
   |cons t ts ih=>
    intro vs ds ps h;cases vs with
    |nil=>cases h
    |cons v vs=>
     cases ds with
     |nil=>cases h
     |cons d ds=>obtain⟨_,_,_,h2,_⟩:=h;simp[ih h2]
  simpa using key hA
 have Lc:=(sZ as tE).calls hm bM ZS (Uc W) hg N8;rw[show B4 f=f from if_pos az] at Lc;refine Lc.mono λe W' he=>?_;cases e with
 |returned v=>
  obtain⟨r,h',U',rfl,hi,EA,hv⟩:=he;have hvb:v= .bool true:=hv;subst hvb;have hold:∀i,i<W.heap.size->W'.heap[i]?=W.heap[i]?:=λi VO=>(EA.GS i VO λid h0=>by cases h0).1;have hbelow:RowKit.Below W.heap.size W W':=⟨EA.os,EA.tape,EA.output,EA.size,hold⟩;refine⟨_,rfl,ds,[],p++[],[],p,[],hW',?_,?_,?_,L6 EA.os EA.output hold,λh0=>by cases h0⟩;.rw[BM,VM ds PZ,a_];exact⟨[],[],RowKit.shut_bool ba true,rfl,rfl⟩
  .rw[BM,VM ds PZ];exact It hl hbelow iK hA λx hx=>hlt x (by simpa using hx)
  .rw[BM,VM ds PZ,ZB];rfl
 |_=>exact he.elim
end Go.Am
end
