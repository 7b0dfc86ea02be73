/- Lemmas -/
import Derived.Scope
import Derived.Test.YtkaolmlpcamojaaGreatDoorC6
import Derived.Carry
import Derived.ReadAgain
set_option linter.all false
section
namespace Go.Am
open Go
def Kpt(x y:Es):Prop:=
 match x with
 | .box ver cs ow=>∃Gr GY Ob,y= .box Gr GY Ob/\ver<=Gr/\(Gr=ver->GY=cs/\Ob=ow)
 | .Fi t o=>y= .Fi t o\/y= .undef
 |x=>y=x
def Kpt.refl(x:Es):Kpt x x:=by
 cases x with
 |box ver cs ow=>exact⟨ver,cs,ow,rfl,Ag _,λ_=>⟨rfl,rfl⟩⟩
 |Fi t o=>exact .inl rfl
 |_=>rfl
def Kpt.trans{x y z:Es}(h:Kpt x y)(k:Kpt y z):Kpt x z:=by
 cases x with
 |box ver cs ow=>obtain⟨b,m,l,rfl,h1,h2⟩:=h;obtain⟨v2,j,c,rfl,f,d⟩:=k;refine⟨v2,j,c,rfl,Bs h1 f,λe=>?_⟩;have i:b=ver:=Ab;have g:v2=b:=Ab;obtain⟨rfl,rfl⟩:=d g;exact h2 i
 |Fi t o=>
  rcases h with rfl|rfl
  .exact k
  .exact .inr k
 |_=>rw[show y=_ from h] at k;exact k
def Gj(W:List Nat)(σ O:BT):Prop:=O.length=σ.length/\∀s,s∉W->Kpt (σ.at s) (O.at s)
def Gj.refl(W:List Nat)(σ:BT):Gj W σ σ:=⟨rfl,λ_ _=> .refl _⟩
def Gj.trans{W:List Nat}{σ O J:BT}(h:Gj W σ O)(k:Gj W O J):Gj W σ J:=⟨k.1.trans h.1,λs hs=>(h.2 s hs).trans (k.2 s hs)⟩
def Gj.mono{W W':List Nat}{σ O:BT}(h:Gj W σ O)(hw:∀s∈W,s∈W'):Gj W' σ O:=⟨h.1,λs hs=>h.2 s λhm=>hs (hw s hm)⟩
def Gj.set{W:List Nat}{σ:BT}{s:Nat}{x:Es}(hs:s∈W):Gj W σ (σ.set s x):=
 ⟨AH,λt ht=>by rw[BT.Gi λe=>ht (by rw[<-e];exact hs)];exact .refl _⟩
def Gj.put{W:List Nat}{σ:BT}{d:Option Nat}{x:Es}(hs:∀s∈d.toList,s∈W):Gj W σ (σ.put d x):=by
 cases d with
 |none=>exact .refl _ _
 |some d=>exact .set (hs d AH)
section
variable{C:FY}{fid:FuncId}{ops:List Oper}{run:IT->Ah->Option Ka}{σ σ':BT}{h h':Ah}{W:List Nat}
def Gj.drop(σ:BT)(ds:List Nat):Gj W σ (σ.drop ds):=by
 refine⟨BT.length_drop σ ds,λs _=>?_⟩;rw[BT.Sw];cases hx:σ.at s with
 |Fi t o=>
  simp only
  split;.exact .inr rfl
  .exact .inl rfl
 |_=>exact .refl _
def sI{r:EM}{ds:List Nat}(hd:r.NC C run (σ.drop ds) h σ' h')(hw:∀s∈r.wf,s∈W):Gj W σ σ':=by obtain⟨ws,rfl,h1,_⟩:=aH hd;refine(Gj.drop σ ds).trans ⟨BT.JY ws _,λs hs=>?_⟩;rw[BT.GP ws _ s λp hp e=>hs (hw s (by rw[<-e];exact h1 p hp))];exact .refl _
def Qq{x:Operand}{d:Nat}{take:Bool}{r:EM}(h:KL C σ x d take=some r):∀s∈r.wf,s=d\/(take=true/\x= .tmp s):=by
 unfold KL at h;split at h;.cases h;simp[EM.wf]
 .cases h;simp[EM.wf]
 .split at h
  .rename_i ht;cases h;intro s hs;simp only[EM.wf,BF,Ax] at hs;rcases hs with hs|hs
   .revert hs;generalize b:Si _ _=c;intro hs;unfold Si at b;split at b;.subst b;simp at hs;exact .inr ⟨ht,by rw[hs]⟩
    .subst b;simp at hs
   .exact .inl (by simpa using hs)
  .cases hc:IC _ with
   |none=>rw[hc] at h;cases h
   |some sl=>rw[hc] at h;cases h;simp[EM.wf]
 .cases hc:IC _ with
  |none=>rw[hc] at h;cases h
  |some sl=>rw[hc] at h;cases h;simp[EM.wf]
 .cases h
def SG{x:Operand}{p:Nat×Aa}(h:Dv σ x=some p):x= .tmp p.1:=by
 cases x with
 |tmp t=>
  simp only[Dv] at h;cases hx:σ.at t with
  |Bu v=>rw[hx] at h;cases h;rfl
  |_=>rw[hx] at h;cases h
 |_=>cases h
def mX{t:TypeId}{v:Aa}{d:Nat}{r:EM}(h:UC C fid t v d=some r):r.wf=[d]:=by
 unfold UC at h;split at h;.cases h
 .split at h;.cases h
  .split at h<;>(cases h;rfl)
def Np:∀{xs:List Operand} {vs:List Aa} {fz:List (Nat×List Aa)},Gp C σ xs=some (vs,fz)->∀p∈fz,p.1∈Kg xs
 |[],vs,fz,hc=>by cases hc;simp
 |x::xs,vs,fz,hc=>by
  unfold Gp at hc;split at hc;.cases hc
  .rename_i HZ c b;have ih:=Np b;have up:∀p∈c,p.1∈Kg (x::xs):=λp hp=>by obtain⟨y,hy,he⟩:=Ck.1 (ih p hp);exact Ck.2 ⟨y,Zf _ hy,he⟩
   split at hc
   .rename_i s ver cs ow hs;split at hc;.cases hc
    .cases hc;intro p hp;rcases AS.1 hp with rfl|hp
     .simp[Kg]
     .exact up p hp
   .rename_i sl _ hs;cases hv:sl.Hr with
    |none=>rw[hv] at hc;cases hc
    |some u=>rw[hv] at hc;cases hc;exact up
   .cases hc
def xV{o:Oper}{r:EM}(hc:Gq C fid ops σ o=some r)(hd:r.NC C run (σ.drop r.news) h σ' h'):Gj (Eu ops o) σ σ':=by
 have SF:∀s∈o.dst.toList,s∈Eu ops o:=λs hs=>CE _ hs
 have hwf:(∀s∈r.wf,s∈Eu ops o)->Gj (Eu ops o) σ σ':=sI hd
 have Zj:r.wf=o.dst.toList->Gj (Eu ops o) σ σ':=λe=>hwf (by rw[e];exact SF)
 have UP:∀{m x},TP m o.dst x=some r->Gj (Eu ops o) σ σ':=λ{m x} he=>by
  obtain⟨_,_,rfl⟩:=Hu he
  exact Zj rfl
 have HH:∀{p x},TO p o.dst x=some r->Gj (Eu ops o) σ σ':=λ{p x} he=>by
  obtain⟨args,_,rfl⟩:=D2 he
  exact Zj (by simp[EM.wf])
 unfold Gq at hc
 split at hc
 .rename_i x ho
  split at hc
  .rename_i d Gd
   refine hwf λs hs=>?_
   rcases Qq hc s hs with rfl|⟨ht,rfl⟩
   .exact SF s (by rw[Gd];simp)
   .refine BU _ ?_
    simp[ho,Gd,ht]
  .cases hc
 .rename_i x ho
  split at hc
  .rename_i d Gd
   refine hwf λs hs=>?_
   rcases Qq hc s hs with rfl|⟨ht,rfl⟩
   .exact SF s (by rw[Gd];simp)
   .refine BU _ ?_
    simp[ho]
  .cases hc
 .rename_i c x y ho
  split at hc
  .rename_i d _ Gd
   refine hwf λs hs=>?_
   rcases Qq hc s hs with rfl|⟨ht,rfl⟩
   .exact SF s (by rw[Gd];simp)
   .cases ht
  .rename_i d _ Gd
   refine hwf λs hs=>?_
   rcases Qq hc s hs with rfl|⟨ht,rfl⟩
   .exact SF s (by rw[Gd];simp)
   .cases ht
  .exact HH hc
 .split at hc
  .rename_i d z Gd hz
   split at hc
   .split at hc
    .cases hc;exact Zj (by rw[Gd];rfl)
    .cases hc
   .exact Zj (by rw[mX hc,Gd];rfl)
  .cases hc
 .split at hc
  .rename_i d v Gd hz
   exact Zj (by rw[mX hc,Gd];rfl)
  .cases hc
 .split at hc
  .split at hc
   .exact HH hc
   .cases hc
  .cases hc
 .split at hc
  .split at hc
   .split at hc
    .split at hc
     .cases hc;exact Zj (by simp[EM.wf])
     .cases ha:Bz C σ _ with
      |none=>rw[ha] at hc;cases hc
      |some args=>rw[ha] at hc;cases hc;exact Zj (by simp[EM.wf])
    .cases hc
   .cases hc
  .cases hc
 .split at hc
  .rename_i d Gd
   unfold LF at hc
   split at hc
   .cases hc;exact Zj (by rw[Gd];rfl)
   .rename_i s off ver cs ow ht ha
    split at hc
    .simp only at hc
     split at hc
     .cases hc
      rw[Ok AH] at hd
      obtain⟨rfl,rfl⟩:=hd
      have hs:σ.at s= .box ver cs ow:=by
       unfold Gn at ha
       split at ha
       .rename_i hs;cases ha;exact He hs
       .split at ha
        .rename_i hb;cases ha;exact hb
        .cases ha
       .exact absurd ha (by cases hv:Es.Hr _<;>simp)
       .cases ha
      refine⟨by simp[BT.drop,BT.El],λt b=>?_⟩
      have f:t≠d:=λe=>b (SF t (by rw[Gd,e];simp))
      have qd:s<σ.length:=BT.Px (by rw[hs];simp)
      show Kpt (σ.at t) (BT.at ((σ.set s _).set d _) t)
      rw[BT.Gi (λe=>f e.symm)]
      by_cases cO:s=t
      .subst cO
       rw[BT.Fv qd,hs]
       exact⟨_,_,_,rfl,Ff _,λe=>absurd e Ab⟩
      .rw[BT.Gi cO];exact .refl _
     .cases hc;exact Zj (by rw[Gd];rfl)
    .cases hc
   .split at hc
    .cases hc;exact Zj (by rw[Gd];rfl)
    .cases hc
   .cases hc
  .cases hc
 .rename_i t x y ho
  split at hc
  .rename_i Gd
   unfold JD at hc
   split at hc
   .cases hc;exact hwf (by simp[EM.wf])
   .rename_i m sh s off ver cs ow v K5 qQ ha hv
    split at hc
    .cases hc
     obtain⟨_,rfl,rfl⟩:=hd
     have hs:σ.at s= .box ver cs ow:=by
      unfold Gn at ha
      split at ha
      .rename_i hs;cases ha;exact He hs
      .split at ha
       .rename_i hb;cases ha;exact hb
       .cases ha
      .exact absurd ha (by cases hv:Es.Hr _<;>simp)
      .cases ha
     have Zw:∀(D:Option (Nat×Aa)),(∀p,D=some p->p.1∈Eu ops o/\p.1≠s)->∀X:List Aa×List Nat,Gj (Eu ops o) σ ((σ.DU D).set s (.box (ver+1) X.1 X.2)):=by
      intro D i X
      refine⟨by cases D<;>simp[BT.DU],λt b=>?_⟩
      have hlen:s<(σ.DU D).length:=by
       have:s<σ.length:=BT.Px (by rw[hs];simp)
       cases D<;>simpa[BT.DU] using this
      by_cases cO:s=t
      .subst cO
       rw[BT.Fv hlen,hs]
       exact⟨_,_,_,rfl,Ff _,λe=>absurd e Ab⟩
      .rw[BT.Gi cO]
       cases D with
       |none=>exact .refl _
       |some p=>
        obtain⟨g,j⟩:=i p rfl
        simp only[BT.DU]
        rw[BT.Gi (λe=>b (by rw[<-e];exact g))]
        exact .refl _
     refine Zw _ (λp hp=>?_) (_,_)
     split at hp
     .have hy:=SG hp
      subst hy
      refine⟨BU _ (by simp[ho]),λe=>?_⟩
      simp only[Dv] at hp
      rw[e,hs] at hp
      cases hp
     .cases hp
    .cases hc
   .cases hc
  .cases hc
 .split at hc
  .rename_i Gd _ _
   cases hc;exact Zj (by rw[Gd];rfl)
  .rename_i Gd _ _
   cases hc;exact Zj (by rw[Gd];rfl)
  .exact HH hc
 .split at hc
  .exact HH hc
  .cases hc
 .exact HH hc
 .split at hc
  .cases hv:E4 C σ _ with
   |none=>rw[hv] at hc;cases hc
   |some v=>rw[hv] at hc;cases hc;exact Zj rfl
  .split at hc
   .cases hv:E4 C σ _ with
    |none=>rw[hv] at hc;cases hc
    |some v=>rw[hv] at hc;cases hc;exact Zj rfl
   .exact HH hc
  .exact HH hc
  .cases hc
 .rename_i fn first captured ho
  split at hc
  .rename_i d as bs fz Gd ha hb
   cases hc
   refine hwf λs hs=>?_
   simp only[EM.wf,AS] at hs
   rcases hs with rfl|hs
   .exact SF s (by rw[Gd];simp)
   .obtain⟨p,hp,rfl⟩:=Bk.1 hs
    refine BU _ ?_
    simp only[ho]
    exact Np hb p hp
  .cases hc
 .cases hc;exact Zj rfl
 .split at hc
  .split at hc
   .cases hc;exact Zj rfl
   .cases hc
  .cases hc
 .split at hc
  .split at hc
   .cases hc;exact hwf (by simp[EM.wf])
   .cases hc;exact hwf (by simp[EM.wf])
   .cases hc
  .cases hc
 .split at hc
  .split at hc
   .cases hc;exact hwf (by simp[EM.wf])
   .cases hc;exact hwf (by simp[EM.wf])
   .cases hc
  .cases hc
 .split at hc
  .split at hc
   .cases hc;exact Zj rfl
   .cases hc;exact Zj rfl
   .cases hc
  .cases hc
 .split at hc
  .split at hc
   .exact UP hc
   .cases hc
  .cases hc
 .split at hc
  .cases hc
  .exact UP hc
  .cases hc
 .split at hc
  .split at hc<;>first|exact UP hc|cases hc
  .cases hc
 .split at hc
  .rename_i Gd
   exact UP (by rw[Gd];exact hc)
  .cases hc
 .split at hc
  .exact HH hc
  .split at hc
   .split at hc
    .exact UP hc
    .exact HH hc
   .cases hc
  .cases hc
 .split at hc
  .rename_i off sh d hf Gd
   split at hc
   .cases hc;exact Zj (by rw[Gd];rfl)
   .cases hc;exact Zj (by rw[Gd];rfl)
   .exact HH (by rw[Gd];exact hc)
  .cases hc
 .split at hc
  .exact HH hc
  .cases hc
 .split at hc
  .split at hc
   .exact HH hc
   .cases hc
  .split at hc
   .split at hc
    .cases hc
    .exact HH hc
   .cases hc
  .cases hc
 .split at hc
  .exact HH hc
  .split at hc
   .exact HH hc
   .cases hc
  .cases hc
 .exact HH hc
 .rename_i c ho
  unfold Rr at hc
  split at hc
  .split at hc
   .split at hc
    .exact HH hc
    .exact HH hc
    .cases hc
   .cases hc
  .rename_i hcl
   split at hc
   .rename_i t t' s x h0 h1 EP
    have Zw:∀p,Dv σ s=some p->p.1∈Eu ops o:=λp hp=>by
     have:=SG hp
     subst this
     refine BU _ ?_
     simp only[ho,hcl,EP]
     simp[Kg]
    split at hc
    all_goals first
     |(cases hc;done)
     | (split at hc
        . split at hc
          . split at hc
            . split at hc
              . split at hc
                . cases hc
                  refine hwf fun q hq => ?_
                  simp only [EM.wf, Ax] at hq
                  rcases hq with hq | hq
                  . exact SF q hq
                  . cases sJ : Dv σ s with
                    | none => rw [sJ] at hq; simp at hq
                    | some p => rw [sJ] at hq; simp at hq; rw [hq]; exact Zw p sJ
                . split at hc
                  . cases hc
                    refine hwf fun q hq => ?_
                    simp only [EM.wf, Ax] at hq
                    rcases hq with hq | hq
                    . exact SF q hq
                    . cases sJ : Dv σ s with
                      | none => rw [sJ] at hq; simp at hq
                      | some p => rw [sJ] at hq; simp at hq; rw [hq]; exact Zw p sJ
                  . cases hc
                    refine hwf fun q hq => ?_
                    simp only [EM.wf, Ax] at hq
                    rcases hq with hq | hq
                    . exact SF q hq
                    . cases sJ : Dv σ s with
                      | none => rw [sJ] at hq; simp at hq
                      | some p => rw [sJ] at hq; simp at hq; rw [hq]; exact Zw p sJ
              . split at hc
                . cases hc
                  refine hwf fun q hq => SF q (by simpa [EM.wf] using hq)
                . cases hc
            . cases hc
          . cases hc
        . cases hc)
   .cases hc
  .split at hc
   .split at hc
    all_goals first
     |(cases hc;done)
     | (split at hc
        . exact UP hc
        . cases hc)
   .cases hc
  .split at hc
   .split at hc
    .split at hc
     .exact UP hc
     .cases hc
    .cases hc
   .cases hc
  .split at hc
   .exact HH hc
   .cases hc
  .split at hc
   .exact HH hc
   .cases hc
  .split at hc
   .split at hc
    .split at hc
     .exact UP hc
     .cases hc
    .cases hc
   split at hc
   .cases ha:Bz C σ c.args.toList with
    |none=>rw[ha] at hc;cases hc
    |some args=>
     rw[ha] at hc
     simp only[B0,BB] at hc
     split at hc<;>(cases hc;exact Zj rfl)
   .cases hc
  .split at hc
   .cases hc;exact Zj rfl
   .cases hc
  .cases hc
 .cases hc
end
end Go.Am
end
section
namespace Go.Am
open Go
def sd:DX->Exit
 | .normal=> .normal
 | .exit i=> .exit i
 | .ret=> .ret
def Oy:∀{l m:List Nat},l.Nodup->(∀x∈l,x∈m)->l.length<=m.length
 |[],_,_,_=>AV _
 |x::l,m,hn,hs=>by have hx:=hs x AH;have h1:=Oy (l:=l) (m:=m.erase x) (B5.1 hn).2 λy hy=>(List.mem_erase_of_ne λe=>(B5.1 hn).1 (by rw[<-e];exact hy)).2 (hs y (by simp[hy]));rw[List.length_erase_of_mem hx] at h1;have:0<m.length:=List.length_pos_of_mem hx;simp;omega
def cY{P:Program}{c:Code}{Q:Exit->Act->World->Prop}(T:Nat->Act->World->Prop)(round:∀n a w,T n a w->c.wp P (Exit.then (λa' w'=>∃m,m<n/\T m a' w') Q) a w)(n:Nat)(a:Act)(w:World)(h0:T n a w):(Code.loop c).wp P Q a w:=by
 intro b k cs;have key:∀n a w,T n a w->∃e a' w',Q e a' w'/\Arrives P (lone (b.at a (.code c:: .inLoop c::k)) cs w) b k cs e a' w':=by
  intro n;induction n using Nat.strongRecOn with
  |_ n ih=>
   intro a w i;obtain⟨e,a1,w1,hq,Ç⟩:=round n a w i b (.inLoop c::k) cs;by_cases he:e= .normal;.subst he;obtain⟨m,hm,d⟩:=hq;obtain⟨j,a2,f,g,r2⟩:=ih m hm a1 w1 d;exact⟨j,a2,f,g,.of_steps (Go.Steps.trans Ç (.one step_inLoop)) r2⟩
   .exact⟨e,a1,w1,by cases e<;>first|exact hq|exact absurd rfl he,.pass (x:= .inLoop c) rfl (λ_ _=> .inl he) Ç⟩
 obtain⟨e,a',w',hq,Ç⟩:=key n a w h0;exact⟨e,a',w',hq,.of_steps (.one step_loop) Ç⟩
section
variable{C:FY}{U0 U:Gh}{w0 w:World}{Z:Nat->Nat}{σ:BT}{h:Ah}{a:Act}{fid:FuncId}{run:IT->Ah->Option Ka}
def cZ{ops:List Oper}{o:Oper}{K:BT->IT}{R:Ka}(hr:IT.step (B9 C) run (TQ C fid ops σ o K) h=some R):
  ∃d,(d=σ\/∃s b,s∈FC ops o/\σ.at s= .val (.bool b)/\d=σ.set s (.O8 b))/\
   ((IY ops d o= .Nz true/\IT.step (B9 C) run (om C fid ops d o K) h=some R)\/(IY ops d o= .Nz false/\IT.step (B9 C) run (K (d.put o.dst .skip)) h=some R)):=by
 unfold TQ at hr;split at hr;.rename_i hg;exact⟨σ,.inl rfl,.inl ⟨hg,hr⟩⟩
 .rename_i hg;exact⟨σ,.inl rfl,.inr ⟨hg,hr⟩⟩
 .rename_i s v want hg;have e:s∈FC ops o/\σ.at s= .val v/\∀b,IY ops (σ.set s (.O8 b)) o= .Nz (b==want):=by
   unfold IY at hg⊢;unfold FC;cases ho:o.guard with
   |none=>rw[ho] at hg;cases hg
   |some g=>
    obtain⟨j,want'⟩:=g;rw[ho] at hg;simp only at hg⊢;cases hd:(ops[j]?).bind (·.dst) with
    |none=>rw[hd] at hg;cases hg
    |some s'=>
     rw[hd] at hg;simp only at hg⊢;cases hx:σ.at s' with
     |val v'=>rw[hx] at hg;cases hg;refine⟨AH,hx,λb=>?_⟩;rw[BT.Fv (BT.Px (by rw[hx];simp))]
     |O8 c=>rw[hx] at hg;cases hg
     |skip=>rw[hx] at hg;cases hg
     |_=>rw[hx] at hg;cases hg
  obtain⟨g1,g2,g3⟩:=e;simp only[IT.step] at hr;split at hr
  .refine⟨σ.set s (.O8 true),.inr ⟨s,true,g1,g2,rfl⟩,?_⟩;rw[g3];cases want with
   |true=>exact .inl ⟨rfl,hr⟩
   |false=>exact .inr ⟨rfl,hr⟩
  .refine⟨σ.set s (.O8 false),.inr ⟨s,false,g1,g2,rfl⟩,?_⟩;rw[g3];cases want with
   |true=>exact .inr ⟨rfl,hr⟩
   |false=>exact .inl ⟨rfl,hr⟩
  .cases hr
 .cases hr
def gz(a:Act){ops:List Oper}{o:Oper}:(∀p∈Sk C σ o,∃ver ow,σ.at p.1= .box ver p.2 ow)/\((Sk C σ o).map (·.1)).Nodup/\∀p∈Sk C σ o,p.1∈Eu ops o:=by
 have no:∀l:List (Nat×List Aa),l=[]->(∀p∈l,∃ver ow,σ.at p.1= .box ver p.2 ow)/\(l.map (·.1)).Nodup/\∀p∈l,p.1∈Eu ops o:=by rintro l rfl;exact⟨(λp hp=>nomatch hp),MM,λp hp=>nomatch hp⟩
 cases ho:o.op with
 |call c=>
  cases hc:c.callee with
  |value g=>
   cases g with
   |func f=>
    cases hf:TR f with
    |true=>
     cases hx:Gp C σ c.args.toList with
     |some q=>
      obtain⟨vs,fz⟩:=q;have e:Sk C σ o=fz:=by unfold Sk;simp only[ho,hc,hf,hx,BN]
      rw[e];obtain⟨h1,h2,_⟩:=No (a:=a) hx;refine⟨h1,h2,λp hp=>BU _ ?_⟩;simp only[ho,hc,hf,BN];exact Np hx p hp
     |none=>exact no _ (by unfold Sk;simp only[ho,hc,hf,hx,BN])
    |false=>exact no _ (by unfold Sk;simp[ho,hc,hf])
   |_=>exact no _ (by unfold Sk;simp only[ho,hc])
  |_=>exact no _ (by unfold Sk;simp only[ho,hc])
 |_=>exact no _ (by unfold Sk;simp only[ho])
def Gj.El{W:List Nat}:∀{l:List (Nat×Es)} {σ:BT},(∀p∈l,p.1∈W)->Gj W σ (σ.El l)
 |[],σ,_=> .refl _ _
 |(s,x)::l,σ,h=>(Gj.set (h (s,x) AH)).trans (Gj.El λp hp=>h p (by simp[hp]))
def sg{ops:List Oper}{o:Oper}{W:List Nat}(hr:Dh C U0 w0 U Z σ h a w)(hw:∀s∈Eu ops o,s∈W):∃b,Dh C U0 w0 b Z (aBH C σ o) h a w/\Gj W σ (aBH C σ o):=by
 obtain⟨h1,h2,c⟩:=gz (C:=C) (σ:=σ) a (ops:=ops) (o:=o);obtain⟨b,_,FZ,_⟩:=(hr.drop ((Sk C σ o).map (·.1))).TW (fz:=Sk C σ o) (λp hp=>by obtain⟨ver,ow,hs⟩:=h1 p hp;exact⟨ver,ow,by rw[BT.Sw,hs]⟩) h2
 refine⟨b,FZ,(Gj.drop σ _).trans (Gj.El λp hp=>?_)⟩;obtain⟨q,hq,rfl⟩:=Bk.1 hp;exact hw _ (c q hq)
def xW(m:Fc C run){ops:Array Oper}{Q:Exit->Act->World->Prop}{W:List Nat}{K:BT->IT}{R:Ka}:∀(rest:List Oper) (k:Nat) (U:Gh) (Z:Nat->Nat) (σ:BT) (h:Ah) (a:Act) (w:World),
  ops.toList.drop k=rest->(∀o∈rest,(∀s∈Eu ops.toList o,s∈W)/\∀s∈FC ops.toList o,s∈W)->IT.step (B9 C) run (wZ C fid ops.toList rest σ K) h=some R->Dh C U0 w0 U Z σ h a w->
  (∀g f σ' h' a' w',IT.step (B9 C) run (K σ') h'=some R->Gj W σ σ'->Dh C U0 w0 g f σ' h' a' w'->Q .normal a' w')->wpOps C.P ops Q (List.range' k rest.length) a w
 |[],k,U,Z,σ,h,a,w,_,_,A3,hr,hQ=>by simp only[BJ,List.range'_zero,wpOps];exact hQ U Z σ h a w A3 (.refl _ _) hr
 |o::rest,k,U,Z,σ,h,a,w,hk,hW,A3,hr,hQ=>by
  have ho:ops[k]?=some o:=by
   have:ops.toList[k]?=some o:=by have h0:=Ca (·[0]?) hk;simpa[Ct] using h0
   simpa using this
  have l:ops.toList.drop (k+1)=rest:=by have h0:=Ca (List.drop 1) hk;simpa[Ek] using h0
  obtain⟨sK,rj⟩:=hW o AH;simp only[A9,List.range'_succ,wpOps,ho];obtain⟨U1,e,c⟩:=sg hr sK;obtain⟨i,j,Jf⟩:=cZ A3;have Kx:Dh C U0 w0 U1 Z i h a w/\Gj W σ i:=by
   rcases j with rfl|⟨s,b,g1,g2,rfl⟩
   .exact⟨e,c⟩
   .have h0:=e.fr.It s;rw[g2] at h0;exact⟨e.lW h0,c.trans (.set (rj s g1))⟩
  obtain⟨Kx,aFN⟩:=Kx;have next:∀g f σ' h' a' w',IT.step (B9 C) run (wZ C fid ops.toList rest σ' K) h'=some R->Gj W σ σ'->Dh C U0 w0 g f σ' h' a' w'->wpOps C.P ops Q (List.range' (k+1) rest.length) a' w':=λg f σ' h' a' w' Q9 fy FZ=>xW m rest (k+1) g f σ' h' a' w' l (λo ho=>hW o (by simp[ho])) Q9 FZ λq p d h2 a2 n LW aK6 aFO=>hQ q p d h2 a2 n LW (fy.trans aK6) aFO
  rcases Jf with⟨hg,Jg⟩|⟨hg,Jg⟩
  .rw[Af (LZ Kx hg)];unfold om at Jg;split at Jg;.rename_i r hc;obtain⟨d,h2,hd,UQ⟩:=Z3 Jg;exact .inl (rh m hc hd Kx λg f a' w' FZ=>next g f d h2 a' w' UQ (aFN.trans ((xV hc hd).mono sK)) FZ)
   .cases Jg
  .rw[Ad (by rw[LZ Kx hg];simp)];exact next U1 Z _ h _ w Jg (aFN.trans (.put λs hs=>sK s (CE _ hs))) (Kx.put λ_ _=>rfl)
def sL{W:List Nat}{d:Option Nat}{σ σ':BT}(h:M1 d σ σ')(hd:∀s∈d.toList,s∈W):Gj W σ σ':=by
 unfold M1 at h;cases d with
 |none=>simp only at h;rw[h];exact .refl _ _
 |some d=>
  simp only at h;split at h;.obtain⟨b,_,rfl⟩:=h;exact .set (hd d AH)
  .rw[h];exact .refl _ _
def sM{ops:List Oper}{an:List Nat}{W:List Nat}(hW:∀o∈ops,∀s∈Eu ops o,s∈W){fl:List KG}{L:List St}{σ σf:BT}{h hf:Ah}(hs:Steps C fid ops run an fl L σ h σf hf):Gj W σ σf:=by
 induction hs with
 |nil=>exact .refl _ _
 |cons h1 _ _ ih=>
  refine Gj.trans ?_ ih;obtain⟨o,ho,⟨_,_,_,rfl,rfl⟩|⟨r,b,hg,hc,_,hd,_,ha⟩⟩:=h1;.exact .put λs hs=>hW o (CD ho) s (CE _ hs)
  .refine((xV hc hd).mono λs hs=>hW o (CD ho) s hs).trans (sL ha λs hs=>?_);split at hs;.exact hW o (CD ho) s (CE _ hs)
   .simp at hs
def XJ(hm:C.P.follows .mixedOrders=true)(f:Fc C run){id:Nat}{ops:Array Oper}{draw:Bool}{Q:Exit->Act->World->Prop}{K:BT->IT}{R:Ka}(A3:IT.step (B9 C) run (So C fid ops.toList draw σ K) h=some R)(hr:Dh C U0 w0 U Z σ h a w)
  (hQ:∀d c σ' h' a' w',IT.step (B9 C) run (K σ') h'=some R->Gj (ops.toList.flatMap (Eu ops.toList)++ops.toList.flatMap (FC ops.toList)) σ σ'->Dh C U0 w0 d c σ' h' a' w'->Q .normal a' w'):(Code.region id ops draw).wp C.P Q a w:=by
 unfold So at A3;cases draw with
 |false=>refine wp_region ?_;have:=xW (W:=ops.toList.flatMap (Eu ops.toList)++ops.toList.flatMap (FC ops.toList)) f ops.toList 0 U Z σ h a w rfl (λo ho=>⟨λs hs=>CE _ (wO.2 ⟨o,ho,hs⟩),λs hs=>BU _ (wO.2 ⟨o,ho,hs⟩)⟩) A3 hr hQ;simpa[aJH] using this
 |true=>
  simp only[BN] at A3;split at A3
  .rename_i Gd;obtain⟨L,σf,hf,h1,h2,l⟩:=RE A3;refine wp_region_any hm ?_;have b:=h2;unfold Xh at b;simp only[TC,BR,BC] at b;have aFP:xU (Xf ops.toList) L:=by have:=aK b.1;rw[aP6] at this;exact this
   have hlt:=h1.lt;have cJ:∀i,i<ops.size->i∈L.map (·.idx):=λi hi=>by have:=Db.1 b.2 i (by simpa using hi);simpa using this
   have z_:(L.map (·.idx)).Nodup:=by rw[List.Nodup,aP6];exact aFP.imp λh=>h.1
   have hlen:L.length=ops.size:=by
    have k:(L.map (·.idx)).length<=(List.range ops.size).length:=Oy z_ (λi hi=>by obtain⟨s,hs,rfl⟩:=Bk.1 hi;simpa using hlt s hs)
    have g:(List.range ops.size).length<=(L.map (·.idx)).length:=Oy List.nodup_range λi hi=>cJ i (by simpa using hi);simp at k g;omega
   have fy:=sM (W:=ops.toList.flatMap (Eu ops.toList)++ops.toList.flatMap (FC ops.toList)) (λo ho s hs=>CE _ (wO.2 ⟨o,ho,hs⟩)) h1;refine gy f Gd (λd c a' w' FZ=>hQ d c σf hf a' w' l fy FZ) ops.size L _ U Z σ h a w.drew hlen h1 aFP ⟨AH,λi hi=>⟨λ_=>cJ i hi,λ_=>by simp[Array.getD,hi]⟩,λj hj e _=>?_⟩ hr.drew;exfalso;rcases AP j ops.size with hlt|Eg
   .simp[Array.getD,hlt] at hj
   .simp[Array.getD,Nat.not_lt.2 Eg] at hj
  .cases A3
end
end Go.Am
end
section
namespace Go.Am
open Go
def Qr(x y:Es):Prop:=
 (∃u,x.Hr=some u/\y= .val u)\/(∃v,x= .Bu v/\y= .Bu v)\/∃ver cs ow Gr Ob,x= .box ver cs ow/\y= .box Gr cs Ob/\∀o∈Ob,o∈ow
def BT.IE:∀(ws:List Nat) (σ:BT) (s:Nat),(σ.clear ws).at s=if s∈ws then .undef else σ.at s
 |[],σ,s=>by simp[BT.clear]
 |t::ws,σ,s=>by
  rw[BT.clear,BT.IE ws];by_cases h:s∈ws;.simp[h]
  .by_cases h2:s=t
   .subst h2;rw[BT.XF];by_cases hl:s<σ.length;.simp[hl]
    .have:σ.at s= .undef:=by simp[BT.at,List.getD,hl]
     simp[h,hl,this]
   .rw[BT.Gi λe=>h2 e.symm];simp[h,h2]
def BT.Kk:∀(ws:List Nat) (σ:BT),(σ.clear ws).length=σ.length
 |[],σ=>rfl
 |t::ws,σ=>by rw[BT.clear,BT.Kk ws];simp
section
variable{C:FY}{U0 U:Gh}{w0 w:World}{Z:Nat->Nat}{σ:BT}{h:Ah}{a:Act}{fid:FuncId}{run:IT->Ah->Option Ka}
def Qr.rel{B s:Nat}{x y:Es}{v:Value}(hx:LG U Z B w s x v)(hf:Qr x y):LG U Z B w s y v:=by
 rcases hf with⟨u,hu,rfl⟩|⟨u,rfl,rfl⟩|⟨ver,cs,ow,Gr,Ob,rfl,rfl,Pc⟩
 .exact ND hx hu
 .exact hx
 .obtain⟨j,i,g,us,e,f,d,c,b⟩:=hx;exact⟨j,i,g,us,e,f,d,c,λo ho=>b o (Pc o ho)⟩
def UR{σs:BT}{G:BT->IT}{R:Ka}{vs:List Aa}:∀{l:List (Nat×Sh)} {i:Nat} {σa:BT},Xi σs l=some (vs.drop i)->σa.length=σs.length->IT.step (B9 C) run (JJ vs l i σa G) h=some R->
  ∃b,IT.step (B9 C) run (G b) h=some R/\b.length=σa.length/\(∀s,s∉l.map (·.1)->b.at s=σa.at s)/\(∀s,s∈l.map (·.1)->Qr (σs.at s) (b.at s)/\
   ((∃Gr GY Ob,b.at s= .box Gr GY Ob/\ZY (σa.at s)<Gr)\/∀ver cs ow,σs.at s≠ .box ver cs ow))
 |[],i,σa,_,_,hr=>⟨σa,hr,rfl,λ_ _=>rfl,AH⟩
 |(s,sh)::l,i,σa,hv,hl,hr=>by
  have hd:∃v HZ,vs.drop i=v::HZ/\vs.drop (i+1)=HZ/\vs.getD i .nilIface=v/\Xi σs l=some HZ/\
    (match(generalizing:=false) sh,σs.at s with| .val,x=>x.Hr| .Bu,.Bu v=>some v| .box n ow,.box _ cs Ob=>if cs.length=n/\ow.all (Ob.contains ·) then some (.agg cs) else none|_,_=>none)=some v:=by
   unfold Xi at hv;simp only at hv;split at hv
   .rename_i v HZ h1 h2;simp only[BB] at hv;refine⟨v,HZ,hv.symm,?_,?_,h2,h1⟩;.have:=Ca (List.drop 1) hv;simpa[Ek] using this.symm
    .have:=Ca (·[0]?) hv;simp only[IS,Ct,Bv] at this;simp[List.getD,<-this]
   .cases hv
  obtain⟨v,HZ,r,aK7,cS,Sx,SH⟩:=hd;have hlt:s<σa.length:=by rw[hl];refine BT.Px λe=>?_;rw[e] at SH;cases sh<;>simp[Es.Hr] at SH
  have go:∀(y:Es),Qr (σs.at s) y->((∃Gr GY Ob,y= .box Gr GY Ob/\ZY (σa.at s)<Gr)\/∀ver cs ow,σs.at s≠ .box ver cs ow)->IT.step (B9 C) run (JJ vs l (i+1) (σa.set s y) G) h=some R->
    ∃b,IT.step (B9 C) run (G b) h=some R/\b.length=σa.length/\(∀t,t∉((s,sh)::l).map (·.1)->b.at t=σa.at t)/\(∀t,t∈((s,sh)::l).map (·.1)->Qr (σs.at t) (b.at t)/\
     ((∃Gr GY Ob,b.at t= .box Gr GY Ob/\ZY (σa.at t)<Gr)\/∀ver cs ow,σs.at t≠ .box ver cs ow)):=by
   intro y hy c FZ;obtain⟨b,q,p,j,m⟩:=UR (l:=l) (i:=i+1) (σa:=σa.set s y) (by rw[aK7];exact Sx) (by simpa using hl) FZ;refine⟨b,q,by simpa using p,λt ht=>?_,λt ht=>?_⟩;.simp only[Bl,AS,MN] at ht;rw[j t ht.2,BT.Gi λe=>ht.1 e.symm]
   .by_cases hm:t∈l.map (·.1)
    .obtain⟨g,k⟩:=m t hm;refine⟨g,k.imp (λ⟨Gr,GY,Ob,f,d⟩=>⟨Gr,GY,Ob,f,?_⟩) id⟩;by_cases cO:s=t
     .subst cO;rw[BT.Fv hlt] at d;rcases c with⟨z,B,A,rfl,h1⟩|hn
      .simp only[ZY] at d;omega
      .rcases g with⟨u,_,e⟩|⟨u,_,e⟩|⟨ver,cs,ow,_,_,e,_⟩
       .rw[f] at e;cases e
       .rw[f] at e;cases e
       .exact absurd e (hn _ _ _)
     .rwa [BT.Gi cO] at d
    .have cO:t=s:=by simp only[Bl,AS] at ht;exact ht.resolve_right hm
     subst cO;rw[j t hm,BT.Fv hlt];exact⟨hy,c⟩
  cases sh with
  |val=>
   simp only[JJ,cS] at hr;have sj:(σs.at s).Hr=some v:=by simpa using SH
   refine go (.val v) (.inl ⟨v,sj,rfl⟩) (.inr λver cs ow e=>?_) hr;rw[e] at sj;cases sj
  |Bu=>
   simp only[JJ,cS] at hr;cases hx:σs.at s with
   |Bu u=>rw[hx] at SH;cases SH;exact go (.Bu v) (.inr (.inl ⟨v,hx,rfl⟩)) (.inr λver cs ow e=>by rw[hx] at e;cases e) hr
   |_=>rw[hx] at SH;cases SH
  |box n ow=>
   simp only[JJ,cS,IT.step] at hr;cases hx:σs.at s with
   |box ver cs Ob=>
    rw[hx] at SH;simp only at SH;split at SH
    .rename_i H5;cases SH;split at hr;.rename_i hn;rw[TU hn] at hr;refine go (.box (ZY (σa.at s)+1) cs ow) (.inr (.inr ⟨ver,cs,Ob,_,ow,hx,rfl,λo ho=>?_⟩)) (.inl ⟨_,_,_,rfl,Nu _⟩) hr;have:=Db.1 H5.2 o ho;simpa using this
     .cases hr
    .cases SH
   |_=>rw[hx] at SH;cases SH
def Dh.aB8(hr:Dh C U0 w0 U Z σ h a w){O:BT}(hl:O.length=σ.length)(hs:∀s,O.at s= .undef\/O.at s=σ.at s\/Qr (σ.at s) (O.at s)):Dh C U0 w0 U Z O h a w:=by
 refine⟨hr.D6,⟨by rw[hl];exact hr.fr.size,λs=>?_⟩,hr.D0,hr.defers,hr.Ha⟩;have h0:=hr.fr.It s;rcases hs s with e|e|e
 .rw[e];trivial
 .rw[e];exact h0
 .exact e.rel h0
structure sk(σ0:BT)(ws:List Nat)(l:List (Nat×Sh))(σ':BT)(vs:List Aa):Prop where
 vec:Xi σ' l=some vs
 len:σ'.length=σ0.length
 same:∀s,s∉l.map (·.1)->σ0.at s= .undef\/σ0.at s=σ'.at s
 box:∀s ver cs ow,σ0.at s= .box ver cs ow->∃Gr GY Ob,σ'.at s= .box Gr GY Ob
def mY{σ0 σ':BT}{l:List (Nat×Sh)}(hk:rF σ0 σ' l=true){s:Nat}(hs:s∉l.map (·.1)):(∀ver cs ow,σ0.at s= .box ver cs ow->∃GY Ob,σ'.at s= .box ver GY Ob)/\(∀t o,σ0.at s= .Fi t o->∃t' o',σ'.at s= .Fi t' o'):=by
 have hc:(l.map (·.1)).contains s=false:=by
  cases hc:(l.map (·.1)).contains s with
  |false=>rfl
  |true=>exact absurd (by simpa using hc) hs
 have Wh:s<σ0.length->(match σ0.at s with
   | .box ver _ _=>(l.map (·.1)).contains s||(match σ'.at s with| .box Gr _ _=>Gr==ver|_=>false)
   | .Fi _ _=>(l.map (·.1)).contains s||(match σ'.at s with| .Fi _ _=>true|_=>false)
   |_=>true)=true:=λhl=>by
  unfold rF at hk;exact Db.1 hk s (by simpa using hl)
 constructor
 .intro ver cs ow hx;have:=Wh (BT.Px (by rw[hx];simp));rw[hx] at this;simp only[hc,Hl] at this;split at this
  .rename_i Gr GY Ob hy;have e:Gr=ver:=by simpa using this
   subst e;exact⟨GY,Ob,hy⟩
  .cases this
 .intro t o hx;have:=Wh (BT.Px (by rw[hx];simp));rw[hx] at this;simp only[hc,Hl] at this;split at this;.rename_i t' o' hy;exact⟨t',o',hy⟩
  .cases this
def PJ{σ0 b σ':BT}{ws:List Nat}{l:List (Nat×Sh)}{x:DX}{R:Ka}(VG:IT.step (B9 C) run (Hc σ0 l x σ') h=some R)(fy:Gj ws b σ')(hlen:b.length=σ0.length)
  (VE:∀s,s∈ws->σ0.at s= .undef) (NB:∀s,s∉l.map (·.1)->σ0.at s= .undef\/σ0.at s=b.at s) (aK8:∀s ver cs ow,σ0.at s= .box ver cs ow->∃Gr GY Ob,b.at s= .box Gr GY Ob):
  ∃vs,R=(x,vs,h)/\sk σ0 ws l σ' vs:=by
 unfold Hc at VG;split at VG
 .rename_i hk;split at VG
  .rename_i vs hv;cases VG;refine⟨vs,rfl,hv,fy.1.trans hlen,λs hs=>?_,λs ver cs ow hb=>?_⟩
   .by_cases hw:s∈ws;.exact .inl (VE s hw)
    .rcases NB s hs with e|e
     .exact .inl e
     .right;have Zk:=fy.2 s hw;obtain⟨i,g⟩:=mY hk hs;rw[e] at i g⊢;cases hx:b.at s with
      |box ver cs ow=>rw[hx] at Zk;obtain⟨m,p,n,c,_,d⟩:=Zk;obtain⟨k,f,j⟩:=i ver cs ow hx;rw[c] at j;cases j;obtain⟨rfl,rfl⟩:=d rfl;exact c.symm
      |Fi t o=>
       rw[hx] at Zk;rcases Zk with c|c
       .exact c.symm
       .obtain⟨t',o',d⟩:=g t o hx;rw[c] at d;cases d
      |_=>rw[hx] at Zk;exact(show σ'.at s=_ from Zk).symm
   .have hw:s∉ws:=λhw=>by rw[VE s hw] at hb;cases hb
    obtain⟨m,p,n,c⟩:=aK8 s ver cs ow hb;have Zk:=fy.2 s hw;rw[c] at Zk;obtain⟨v2,k,f,d,_⟩:=Zk;exact⟨v2,k,f,d⟩
  .cases VG
 .cases VG
def sk.next{σ0 σ':BT}{ws:List Nat}{l:List (Nat×Sh)}{vs:List Aa}(he:sk σ0 ws l σ' vs){G:BT->IT}{R:Ka}(hr:Dh C U0 w0 U Z σ' h a w)(A3:IT.step (B9 C) run (JJ vs l 0 σ0 G) h=some R):
  ∃b,IT.step (B9 C) run (G b) h=some R/\Dh C U0 w0 U Z b h a w/\b.length=σ0.length/\(∀s,s∉l.map (·.1)->b.at s=σ0.at s)/\(∀s ver cs ow,σ0.at s= .box ver cs ow->∃Gr GY Ob,b.at s= .box Gr GY Ob/\(s∈l.map (·.1)->ver<Gr)):=by
 obtain⟨b,i,f,c,d⟩:=UR (σs:=σ') (by simpa using he.vec) he.len.symm A3;refine⟨b,i,hr.aB8 (f.trans he.len.symm) λs=>?_,f,c,λs ver cs ow hb=>?_⟩
 .by_cases hm:s∈l.map (·.1);.exact .inr (.inr (d s hm).1)
  .rw[c s hm];rcases he.same s hm with e|e
   .exact .inl e
   .exact .inr (.inl e)
 .by_cases hm:s∈l.map (·.1)
  .obtain⟨_,q⟩:=d s hm;obtain⟨m,o,n,k⟩:=he.box s ver cs ow hb;rcases q with⟨Gr,GY,Ob,j,g⟩|q
   .exact⟨Gr,GY,Ob,j,λ_=>by rw[hb] at g;exact g⟩
   .exact absurd k (q _ _ _)
  .exact⟨ver,cs,ow,by rw[c s hm];exact hb,λh=>absurd h hm⟩
def PK{σ σ0 b:BT}{ws W:List Nat}{l:List (Nat×Sh)}(h0:σ0=σ.clear ws)(hv:oq l ws σ=true)(hl:b.length=σ0.length)(h1:∀s,s∉l.map (·.1)->b.at s=σ0.at s)
  (h2:∀s ver cs ow,σ0.at s= .box ver cs ow->∃Gr GY Ob,b.at s= .box Gr GY Ob/\(s∈l.map (·.1)->ver<Gr)) (hW:∀s∈ws,s∈W):Gj W σ b:=by
 refine⟨by rw[hl,h0,BT.Kk],λs hs=>?_⟩;have c:s∉ws:=λhm=>hs (hW s hm);have e0:σ0.at s=σ.at s:=by rw[h0,BT.IE,Ad c]
 by_cases hm:s∈l.map (·.1)
 .obtain⟨p,hp,rfl⟩:=Bk.1 hm;have:=Db.1 hv p hp;simp only[OT,aFl] at this;rcases this with this|this
  .exact absurd this c
  .cases hx:σ.at p.1 with
   |box ver cs ow=>obtain⟨d,j,f,i,g⟩:=h2 p.1 ver cs ow (by rw[e0];exact hx);have:=g hm;exact⟨d,j,f,i,Ab,λe=>Ab⟩
   |_=>rw[hx] at this;cases this
 .rw[h1 s hm,e0];exact .refl _
def Fc.le{n m:Nat}(h:Fc C (IT.run (B9 C) n))(b:m<=n):Fc C (IT.run (B9 C) m):=⟨h.1,λf args h0 r h' A3=>h.2 f args h0 r h' (IT.Ii b A3)⟩
def sm(hm:C.P.follows .mixedOrders=true):∀(c:Code) (n:Nat),Fc C (IT.run (B9 C) n)->∀{K:DX->BT->IT} {R:Ka} {σ:BT} {h:Ah} {a:Act} {w:World} {U:Gh} {Z:Nat->Nat} {Q:Exit->Act->World->Prop},
  IT.step (B9 C) (IT.run (B9 C) n) (Gs C fid c σ K) h=some R->Dh C U0 w0 U Z σ h a w->
  (∀x f d σ' h' a' w',IT.step (B9 C) (IT.run (B9 C) n) (K x σ') h'=some R->Gj (Di c++Cg c) σ σ'->Dh C U0 w0 f d σ' h' a' w'->Q (sd x) a' w')->c.wp C.P Q a w:=by
 intro c;induction c with
 |skip=>intro n p K R σ h a w U Z Q A3 hr g;exact wp_skip (g .normal U Z σ h a w A3 (.refl _ _) hr)
 |region id ops draw=>
  intro n p K R σ h a w U Z Q A3 hr g;simp only[Gs] at A3;split at A3;.exact XJ hm p A3 hr λf d σ' h' a' w' h1 h2 A=>g .normal f d σ' h' a' w' h1 h2 A
  .rename_i l hl;unfold cI at A3;simp only at A3;split at A3
   .rename_i hv;simp only[IT.step] at A3;split at A3
    .rename_i x vs h1 XK;refine XJ hm p XK hr λf d σ' h' a' w' z u q=>?_;obtain⟨HZ,e,he⟩:=PJ (h:=h') z u (by rw[BT.Kk]) (λs hs=>by rw[BT.IE,Af hs]) (λs _=>by rw[BT.IE];split<;>simp) (λs ver cs ow hb=>by
      rw[BT.IE] at hb;split at hb;.cases hb
      .exact⟨ver,cs,ow,hb⟩)
     cases e;obtain⟨k,F,E,L,J,I⟩:=he.next q A3;exact g .normal f d k h1 a' w' F (PK rfl hv L J I (λs hs=>hs)) E
    .cases A3
   .cases A3
 |seq x y D B=>
  intro n p K R σ h a w U Z Q A3 hr g;simp only[Gs] at A3;refine wp_seq (D n p A3 hr λe f d σ' h' a' w' h1 h2 A=>?_);have up:∀j,Gj (Di x++Cg x) σ j->Gj (Di (.seq x y)++Cg (.seq x y)) σ j:=λj ho=>ho.mono λs hs=>by simp only[Di,Cg,Ax] at hs⊢;rcases hs with hs|hs<;>simp[hs]
  cases e with
  |normal=>refine B n p h1 A λY U2 Z2 j aI a2 w2 z u q=>g Y U2 Z2 j aI a2 w2 z ((up _ h2).trans (u.mono λs hs=>?_)) q;simp only[Di,Cg,Ax] at hs⊢;rcases hs with hs|hs<;>simp[hs]
  |exit i=>exact g (.exit i) f d σ' h' a' w' h1 (up _ h2) A
  |ret=>exact g .ret f d σ' h' a' w' h1 (up _ h2) A
 |cond c x y D B=>
  intro n p K R σ h a w U Z Q A3 hr g;have N:∀{o j:BT},Gj (Di x++Cg x) o j->Gj (Di (.cond c x y)++Cg (.cond c x y)) o j:=λ{o j} ho=>ho.mono λs hs=>by cases c<;>simp only[Di,Cg,Ax,AS] at hs⊢<;>rcases hs with hs|hs<;>simp[hs]
  have M:∀{o j:BT},Gj (Di y++Cg y) o j->Gj (Di (.cond c x y)++Cg (.cond c x y)) o j:=λ{o j} ho=>ho.mono λs hs=>by cases c<;>simp only[Di,Cg,Ax,AS] at hs⊢<;>rcases hs with hs|hs<;>simp[hs]
  simp only[Gs] at A3;split at A3;.rename_i hc;obtain⟨s,h1,_⟩:=Gt hr hc;exact wp_cond_true h1 (D n p A3 hr λe f d σ' h' a' w' z u q=>g e f d σ' h' a' w' z (N u) q)
  .rename_i hc;obtain⟨s,h1,_⟩:=Gt hr hc;exact wp_cond_false h1 (B n p A3 hr λe f d σ' h' a' w' z u q=>g e f d σ' h' a' w' z (M u) q)
  .rename_i s v hc;have T:σ.at s= .val v:=He hc;have h0:=hr.fr.It s;rw[T] at h0;have G:∀{S:DX->BT->IT} {R':Ka} {Q':Exit->Act->World->Prop},IT.step (B9 C) (IT.run (B9 C) n) (.Gg v (Gs C fid x (σ.set s (.O8 true)) S) (Gs C fid y (σ.set s (.O8 false)) S)) h=some R'->
     (∀e f d σ' h' a' w',IT.step (B9 C) (IT.run (B9 C) n) (S e σ') h'=some R'->Gj (Di (.cond (.tmp s) x y)++Cg (.cond (.tmp s) x y)) σ σ'->Dh C U0 w0 f d σ' h' a' w'->Q' (sd e) a' w')->(Code.cond (.tmp s) x y).wp C.P Q' a w:=by
    intro S R' Q' Q9 O;have gq:∀b:Bool,Gj (Di (.cond (.tmp s) x y)++Cg (.cond (.tmp s) x y)) σ (σ.set s (.O8 b)):=λb=> .set (by simp[Cg]);simp only[IT.step] at Q9;split at Q9;.have hv:a.eval (.tmp s)= .bool true:=h0;exact wp_cond_true hv (D n p Q9 (hr.lW h0) λe f d σ' h' a' w' z u q=>O e f d σ' h' a' w' z ((gq true).trans (N u)) q)
    .have hv:a.eval (.tmp s)= .bool false:=h0;exact wp_cond_false hv (B n p Q9 (hr.lW h0) λe f d σ' h' a' w' z u q=>O e f d σ' h' a' w' z ((gq false).trans (M u)) q)
    .cases Q9
   split at A3;.exact G A3 g
   .rename_i l hl;unfold cI at A3;simp only at A3;split at A3
    .rename_i hv;simp only[IT.step] at A3;split at A3
     .rename_i e vs h1 XK;refine G XK λY f d σ' h' a' w' z u q=>?_;obtain⟨HZ,eq,he⟩:=PJ (h:=h') (ws:=s::(Di x++Di y++Cg x++Cg y)) z (u.mono λt ht=>by
        simp only[Di,Cg,Ax,AS] at ht⊢;rcases ht with(ht|ht)|ht|ht|ht<;>simp[ht]) (by rw[BT.Kk]) (λt ht=>by rw[BT.IE,Af ht]) (λt _=>by rw[BT.IE];split<;>simp) (λt ver cs ow hb=>by
       rw[BT.IE] at hb;split at hb;.cases hb
       .exact⟨ver,cs,ow,hb⟩)
      cases eq;obtain⟨k,F,E,L,J,I⟩:=he.next q A3;exact g e f d k h1 a' w' F (PK rfl hv L J I (λt ht=>by simp only[Di,Cg,Ax,AS] at ht⊢;rcases ht with ht|((ht|ht)|ht)|ht<;>simp[ht])) E
     .cases A3
    .cases A3
  .cases A3
 |block id b ih=>
  intro n p K R σ h a w U Z Q A3 hr g;simp only[Gs] at A3;refine wp_block (ih n p A3 hr λe f d σ' h' a' w' h1 h2 A=>?_);cases e with
  |normal=>exact g .normal f d σ' h' a' w' h1 h2 A
  |exit i=>
   simp only at h1;show if i=id then Q .normal a' w' else Q (.exit i) a' w'
   by_cases hi:i=id;.rw[Af hi] at h1⊢;exact g .normal f d σ' h' a' w' h1 h2 A
   .rw[Ad hi] at h1⊢;exact g (.exit i) f d σ' h' a' w' h1 h2 A
  |ret=>exact g .ret f d σ' h' a' w' h1 h2 A
 |loop b ih=>
  intro n p K R σ h a w U Z Q A3 hr g;simp only[Gs] at A3;generalize hl:C.aBD fid ((GM b).getD 0)=l at A3;generalize aQB:(GM b).getD 0=key at A3;generalize h0:σ.clear (Di b++Cg b)=σ0 at A3;split at A3
  .rename_i hv;split at A3;.cases A3
   .rename_i init aFQ;have aFR:σ0.length=σ.length:=by rw[<-h0,BT.Kk]
    have VE:∀s,s∈Di b++Cg b->σ0.at s= .undef:=λs hs=>by rw[<-h0,BT.IE,Af hs]
    refine cY (λm a w=>∃U Z o h vs,Dh C U0 w0 U Z o h a w/\sk σ0 (Di b++Cg b) l o vs/\m<=n+1/\
     IT.run (B9 C) m (.loop key vs (λvs=>JJ vs l 0 σ0 λk=>Gs C fid b k λx σ'=>Hc σ0 l x σ') λx vs=>JJ vs l 0 σ0 λσ'=>aAl K x σ') h=some R) ?_ (n+1) a w
     ⟨U,Z,σ,h,init,hr,⟨aFQ,aFR.symm,λs _=>by rw[<-h0,BT.IE];split<;>simp,λs ver cs ow hb=>by
      rw[<-h0,BT.IE] at hb;split at hb;.cases hb
      .exact⟨ver,cs,ow,hb⟩⟩,Ag _,A3⟩
    rintro m a1 w1 ⟨U1,Z1,o,h1,vs,Kx,V,hmn,Jg⟩;cases m with
    |zero=>simp[IT.run] at Jg
    |succ m=>
     simp only[IT.run,IT.step] at Jg;have body:∀{x:DX} {HZ:List Aa} {h':Ah},IT.step (B9 C) (IT.run (B9 C) m) (JJ vs l 0 σ0 λk=>Gs C fid b k λx σ'=>Hc σ0 l x σ') h1=some (x,HZ,h')->∀{Q':Exit->Act->World->Prop},
       (∀f d σ' a' w',Dh C U0 w0 f d σ' h' a' w'->sk σ0 (Di b++Cg b) l σ' HZ->Q' (sd x) a' w')->b.wp C.P Q' a1 w1:=by
      intro x HZ h' hb Q' X;obtain⟨k,F,E,L,J,I⟩:=V.next Kx hb;refine ih m (p.le Ab) F E λy f d σ' h2 a' w' z u q=>?_;obtain⟨vs2,eq,he⟩:=PJ z u L VE (λs hs=> .inr (J s hs).symm) λs ver cs ow hb=>by obtain⟨v1,c1,o1,e1,_⟩:=I s ver cs ow hb;exact⟨v1,c1,o1,e1⟩
      cases eq;exact X f d σ' a' w' q he
     split at Jg;.rename_i HZ h' hb;exact body hb λf d σ' a' w' FZ QT=>⟨m,Nu m,f,d,σ',h',HZ,FZ,QT,Ab,Jg⟩
     .rename_i x HZ h' hne hb;refine body hb λf d σ' a' w' FZ QT=>?_;have UQ:=IT.JS (λt h r=>IT.Ii (fn:=B9 C) (Ab:m<=n)) _ _ _ Jg;obtain⟨k,F,E,L,J,I⟩:=QT.next FZ UQ;have ho:=PK h0.symm hv L J I λs hs=>hs;cases x with
      |normal=>exact absurd rfl hne
      |exit i=>exact g _ f d k h' a' w' F ho E
      |ret=>exact g _ f d k h' a' w' F ho E
     .cases Jg
  .cases A3
 |exit id=>intro n p K R σ h a w U Z Q A3 hr g;exact wp_exit (g (.exit id) U Z σ h a w A3 (.refl _ _) hr)
 |ret=>intro n p K R σ h a w U Z Q A3 hr g;exact wp_ret (g .ret U Z σ h a w A3 (.refl _ _) hr)
 |label l=>intro n p K R σ h a w U Z Q A3 hr g;exact wp_label (g .normal U Z σ h a w A3 (.refl _ _) hr)
 |scope b ih=>
  intro n p K R σ h a w U Z Q A3 hr g;simp only[Gs] at A3;refine wp_scope_straight (ih n p A3 hr λe f d σ' h' a' w' h1 h2 A=>?_);cases e with
  |normal=>exact g .normal f d σ' h' a' w' h1 h2 A
  |exit i=>exact g (.exit i) f d σ' h' a' w' h1 h2 A
  |ret=>exact g .ret f d σ' h' a' w' h1 h2 A
 |_=>intros n p K R σ h a w U Z Q A3 hr g;cases A3
end
end Go.Am
end
section
namespace Go.Am
open Go
section
variable{C:FY}{U0 U:Gh}{w0 w:World}{Z:Nat->Nat}{σ:BT}{h:Ah}{a:Act}{fid:FuncId}{run:IT->Ah->Option Ka}
def IF(tmps:Array Value):ResultVar->Sem Value
 | .tmp t=>pure (tmps.getD t undef)
 | .cell a t=>do loadVar t (<-asAddr (tmps.getD a undef))
def SI{P:Program}{t:TypeId}{b o:Nat}{v:Value}(h:(Instr.loadAt t (.pointer (some ⟨b,o,none⟩))).run P w= .ok v w):(loadVar t ⟨b,o,none⟩).run P w= .ok v w:=by simpa[Instr.loadAt,Instr.sureAddr] using h
def US{K:List Aa->IT}{R:Ka}:∀{rs:List ResultVar} {D0:List Aa},IT.step (B9 C) run (GI C σ rs D0 K) h=some R->Dh C U0 w0 U Z σ h a w->
  ∃vs us,(rs.mapM (IF a.tmps)).run C.P w= .ok us w/\Bj U vs us/\IT.step (B9 C) run (K (D0.reverse++vs)) h=some R
 |[],D0,A3,hr=>⟨[],[],AH,rfl,by simpa[GI] using A3⟩
 |f::rs,D0,A3,hr=>by
  have one:∀(v:Aa) (u:Value),(IF a.tmps f).run C.P w= .ok u w->BQ U v u->IT.step (B9 C) run (GI C σ rs (v::D0) K) h=some R->
    ∃vs us,((f::rs).mapM (IF a.tmps)).run C.P w= .ok us w/\Bj U vs us/\IT.step (B9 C) run (K (D0.reverse++vs)) h=some R:=by
   intro v u h1 h2 m;obtain⟨vs,us,z,y,x⟩:=US m hr;refine⟨v::vs,u::us,?_,⟨u,us,rfl,h2,y⟩,by simpa using x⟩;simp[List.mapM_cons,h1,z]
  cases f with
  |tmp t=>
   simp only[GI] at A3;split at A3;.rename_i v hv;exact one v _ (by simp[IF]) (ND (hr.fr.It t) hv) A3
   .cases A3
  |cell p t=>
   have c:∀(b o:Nat) (v:Aa),a.tmps.getD p undef= .pointer (some ⟨b,o,none⟩)->(∃u,(Instr.loadAt t (.pointer (some ⟨b,o,none⟩))).run C.P w= .ok u w/\BQ U v u)->IT.step (B9 C) run (GI C σ rs (v::D0) K) h=some R->
     ∃vs us,((ResultVar.cell p t::rs).mapM (IF a.tmps)).run C.P w= .ok us w/\Bj U vs us/\IT.step (B9 C) run (K (D0.reverse++vs)) h=some R:=by
    intro b o v hp ⟨u,h1,h2⟩ m;refine one v u ?_ h2 m;simp only[IF,hp,asAddr,Sem.run_bind,Sem.run_pure,Result.andThen_ok];exact SI h1
   simp only[GI] at A3;split at A3
   .rename_i s off ver cs ow ht ha;split at A3;.rename_i hlt;obtain⟨hs,hx⟩:=Lo hr ha;obtain⟨u,i,g,_⟩:=K6 hr ht hs (r:=cs.getD off .nilIface) (off:=off) (by simp[Ft,List.getD,Al hlt]);exact c _ _ _ hx ⟨u,i,g⟩ A3
    .cases A3
   .rename_i n s off ver cs ow ht ha;split at A3;.rename_i En;obtain⟨hs,hx⟩:=Lo hr ha;obtain⟨u,i,g,_⟩:=K6 hr ht hs (r:= .agg ((cs.drop off).take n)) (off:=off) (by simp[Ft,En]);exact c _ _ _ hx ⟨u,i,g⟩ A3
    .cases A3
   .rename_i n p' ht ha;simp only[IT.step] at A3;split at A3
    .rename_i v hv;have xO:=Rz hr ha;unfold A8 at hv;split at hv;.rename_i cs;obtain⟨b,k,mL,hm⟩:=xO;obtain⟨us,l,d⟩:=hm.values;exact c b k v mL (ID (w:=w) ht l (λj u hj=>(hr.D6.Iw _ _ _ (d j u hj)).1) (λu hu=>by obtain⟨j,hj⟩:=CU hu;exact(hr.D6.Iw _ _ _ (d j u hj)).2.1) hv) A3
     .rename_i id off;obtain⟨b,hb,mL⟩:=xO;split at hv
      .rename_i cs hcs;obtain⟨us,e,fr,l,pf,d,q⟩:=hr.D6.cells id cs hcs b hb;refine c b off v mL (ID (w:=w) (b:=b) (o:=off) ht (d.drop off) (λj u hj=>?_) (λu hu=>q u (Bw hu)) (PD hv)) A3;rw[cell_of_row w _ _ us e fr l];rw[Ct,Ci] at hj;split at hj;.simpa using hj
       .cases hj
      .cases hv
     .cases hv
    .cases A3
   .cases A3
def Dh.Pp(hr:Dh C U0 w0 U Z σ h a w){p:Aa}{off:Nat}{u:Value}{h':Ah}(hp:BQ U p u)(hf:Mg h off p=some h'):∃t,Dh C U0 w0 t Z σ h' a w:=by
 unfold Mg at hf;split at hf;.cases hf;exact⟨U,hr⟩
 .rename_i id r;generalize r+off=o at hf;obtain⟨b,hb,_⟩:=hp;split at hf
  .rename_i cs hcs;split at hf
   .rename_i v hv;obtain⟨us,e,fr,c,pf,n,B⟩:=hr.D6.cells id cs hcs b hb;obtain⟨x,hx,g⟩:=n.get hv;cases hq:KA h v with
    |none=>rw[hq] at hf;cases hf
    |some q=>
     obtain⟨h1,v'⟩:=q;rw[hq] at hf;simp only[Cw] at hf;split at hf
     .rename_i GY aFS;cases hf;obtain⟨U1,En,Kx,U_⟩:=hr.Pk g hq;have TJ:=En.mu _ _ hb;obtain⟨k,D,s,j,l,r2,m⟩:=Kx.D6.cells id GY aFS b TJ;rw[c] at j;cases j;have gq:Bj U1 (GY.set o v') (us.toList.take (GY.set o v').length):=by
       rw[Bq];refine Bj.Hd (by simp[r2.length]) λi y z hy hz=>?_;by_cases hi:o=i
       .subst hi;by_cases hlt:o<GY.length
        .rw[AO hlt] at hy;cases hy;have f:x=z:=by rw[C3 hlt] at hz;have aLa:o<cs.length:=(Ak.1 hv).1;rw[C3 aLa] at hx;rw[hx] at hz;exact D5 hz
         rw[<-f];exact U_
        .rw[Ec (by simpa using hlt)] at hy;cases hy
       .rw[Ao hi] at hy;obtain⟨A,Zq,d⟩:=r2.get hy;rw[hz] at Zq;cases Zq;exact d
      obtain⟨Wf,Pb⟩:=NA Kx.D6 aFS TJ c us (GY.set o v') rfl l gq (by rw[Bq];exact m);rw[setRow_self w b us e fr c] at Wf Pb;exact⟨U1,Kx.Je Wf Pb⟩
     .cases hf
   .cases hf
  .cases hf
 .cases hf
def xX{t:IT}{R:Ka}:∀{l:List (Nat×Nat)} {U:Gh} {h:Ah},IT.step (B9 C) run (xC C σ l t) h=some R->Dh C U0 w0 U Z σ h a w->∃b h',Dh C U0 w0 b Z σ h' a w/\IT.step (B9 C) run t h'=some R
 |[],U,h,A3,hr=>⟨U,h,hr,A3⟩
 |(s,off)::l,U,h,A3,hr=>by
  simp only[xC] at A3;split at A3
  .rename_i p hp;simp only[IT.step] at A3;split at A3;.rename_i h1 hf;obtain⟨U1,Kx⟩:=hr.Pp (ND (hr.fr.It s) hp) hf;exact xX A3 Kx
   .cases A3
  .cases A3
def XL{R:Ka}:∀{vs D0:List Aa} {U:Gh} {h:Ah} {us nc:List Value},IT.step (B9 C) run (Pv vs D0 UE) h=some R->Dh C U0 w0 U Z σ h a w->Bj U vs us->Bj U D0.reverse nc->
  ∃c h' HZ,Dh C U0 w0 c Z σ h' a w/\Bj c HZ (nc++us)/\IT.step (B9 C) run (UE HZ) h'=some R
 |[],D0,U,h,us,nc,A3,hr,h1,h2=>by rw[show us=[] from h1,By];exact⟨U,h,D0.reverse,hr,h2,A3⟩
 |v::vs,D0,U,h,us,nc,A3,hr,h1,h2=>by
  obtain⟨u,DT,rfl,hv,h1⟩:=h1;simp only[Pv,IT.step] at A3;split at A3
  .rename_i k v' hf;obtain⟨U1,En,Kx,U_⟩:=hr.Pk hv hf;have i:Bj U1 (v'::D0).reverse (nc++[u]):=by rw[Ee];exact(Bj.mono En _ _ h2).append ⟨u,[],rfl,U_,rfl⟩
   obtain⟨j,g,b,f,e,d⟩:=XL A3 Kx (Bj.mono En _ _ h1) i;exact⟨j,g,b,f,by rwa [AI] at e,d⟩
  .cases A3
def xY{R:Ka}{vs:List Aa}{us:List Value}{U:Gh}{h:Ah}(A3:IT.step (B9 C) run (UE vs) h=some R)(hv:Bj U vs us):
  ∃r,R=(.ret,[r],h)/\BQ U r (if c:us.toArray.size=1 then us.toArray[0] else .tuple us.toArray):=by
 unfold UE at A3;split at A3;.rename_i v;obtain⟨u,DT,rfl,b,hnil⟩:=hv;rw[show DT=[] from hnil];simp only[IT.step] at A3;cases A3;exact⟨v,rfl,by simpa using b⟩
 .rename_i hne;simp only[IT.step] at A3;cases A3;have hlen:us.length≠1:=λe=>by have:=hv.length;rw[e] at this;obtain⟨v,hv⟩:=aEE.1 this.symm;exact hne v hv
  refine⟨_,rfl,?_⟩;rw[dif_neg (by simpa using hlen)];exact⟨us.toArray,rfl,by simpa using hv⟩
def UT{fn:Func}{tmps:Array Value}{us:List Value}(h:(fn.results.toList.mapM (IF tmps)).run C.P w= .ok us w):(results fn tmps).run C.P w= .ok (if b:us.toArray.size=1 then us.toArray[0] else .tuple us.toArray) w:=by
 have e:fn.results.mapM (IF tmps)=(do let l<-fn.results.toList.mapM (IF tmps);pure l.toArray:Sem (Array Value)):=by rw[Array.mapM_eq_mapM_toList];simp
 have c:results fn tmps=(do let vs<-fn.results.mapM (IF tmps);pure (if b:vs.size=1 then vs[0] else .tuple vs):Sem Value):=by unfold results;congr 2
 rw[c,e];simp only[Sem.run_bind,h,Result.andThen_ok,Sem.run_pure]
def È{fn:Func}{R:Ka}(A3:IT.step (B9 C) run (lV C fid fn σ) h=some R)(hr:Dh C U0 w0 U Z σ h a w):
  ∃r h' v f,R=(.ret,[r],h')/\(results fn a.tmps).run C.P w= .ok v w/\Hm f h' w/\Lm U0 w0 f w/\BQ f r v/\(C.Jl fid=true->∃s c,IZ f w0.heap.size w s c v r):=by
 unfold lV at A3;split at A3;.cases A3
 .rename_i FG;obtain⟨U1,h1,Kx,Jg⟩:=xX A3 hr;by_cases ho:C.Jl fid=true
  .have g:∃t x,fn.results.toList=[.tmp t]/\σ.at t= .Bu x:=by
    have:Qk σ fn.results.toList=true:=by
     cases hq:Qk σ fn.results.toList with
     |true=>rfl
     |false=>exact absurd (by simp[ho,hq]) FG
    unfold Qk at this;split at this
    .rename_i t Ky;split at this;.rename_i x hx;exact⟨t,x,Ky,hx⟩
     .cases this
    .cases this
   obtain⟨t,x,d,hx⟩:=g;have h0:=Kx.fr.It t;rw[hx] at h0;have É:=UT (C:=C) (w:=w) (fn:=fn) (tmps:=a.tmps) (us:=[a.tmps.getD t undef]) (by rw[d];simp[IF]);rw[d] at Jg;simp only[GI,hx,Es.Hr,Ee,TC,BR] at Jg;have aFT:KA h1 x=some (h1,x):=by rcases h0.2 with(rfl|⟨_,rfl⟩)|⟨_,_,_,_,_,_,_,rfl,_⟩<;>rfl
   have hR:R=(.ret,[x],h1):=by
    split at Jg;.simp only[Pv,IT.step,aFT,Ee,TC,BR,UE] at Jg;cases Jg;rfl
    .simp only[IT.step,UE] at Jg;cases Jg;rfl
   exact⟨x,h1,_,U1,hR,by simpa using É,Kx.D6,Kx.D0,h0.1,λ_=>⟨t,none,h0.2⟩⟩
  .obtain⟨vs,us,n,k,UQ⟩:=US Jg Kx;simp only[TC,BR] at UQ;have É:=UT (C:=C) n;split at UQ;.obtain⟨o,h2,l,j,i,m⟩:=XL UQ Kx k (nc:=[]) rfl;rw[BR] at i;obtain⟨r,hR,b⟩:=xY m i;exact⟨r,h2,_,o,hR,É,j.D6,j.D0,b,λe=>absurd e ho⟩
   .obtain⟨r,hR,b⟩:=xY UQ k;exact⟨r,h1,_,U1,hR,É,Kx.D6,Kx.D0,b,λe=>absurd e ho⟩
def Dh.start{U:Gh}{h:Ah}{w:World}(hi:Hm U h w)(hg:∀g cs,C.Ha g=some cs->C8 U cs g 0){args:List Aa}{cargs:Array Value}(ha:Bj U args cargs.toList)(n:Nat)(Z:Nat->Nat):
  Dh C U w U Z (args.map .val++List.replicate (n-args.length) .undef) h {tmps:=cargs++Array.replicate (n-cargs.size) undef,defers:=[]} w:=by
 have hlen:cargs.size=args.length:=by have:=ha.length;simpa using this
 refine⟨hi,⟨by simp[hlen],λs=>?_⟩,Lm.refl U w,rfl,hg⟩;by_cases hs:s<args.length
 .have h1:BT.at (args.map .val++List.replicate (n-args.length) .undef) s= .val args[s]:=by simp[BT.at,List.getD,Aj,hs]
  obtain⟨u,hu,hr⟩:=ha.get (Al hs);have h2:(cargs++Array.replicate (n-cargs.size) undef).getD s undef=u:=by
   rw[Hk,Array.getElem?_append_left Ab];have:cargs[s]?=some u:=by simpa using hu
   rw[this];rfl
  rw[h1,h2];exact hr
 .have h1:BT.at (args.map .val++List.replicate (n-args.length) .undef) s= .undef:=by have hm:(args.map Es.val).length=args.length:=AH;simp only[BT.at,List.getD];rw[Bm Ab,List.getElem?_replicate];split<;>rfl
  rw[h1];trivial
def dB(C:FY):Prop:=
 (∀f,C.L8 f=true->qm C f)/\∀(f:FuncId) (p:List Aa->IT),C.aBE f=some p->∀n,Fc C (IT.run (B9 C) n)->∀(args:List Aa) (h:Ah) (r:Aa) (h':Ah),IT.step (B9 C) (IT.run (B9 C) n) (p args) h=some (.ret,[r],h')->
  (∃fn c,C.P.funcs[ED f]?=some fn/\(fn.name== "runtime.NumGoroutine")=false/\fn.body=some c)/\
  ∀(U:Gh) (w:World) (cargs:Array Value),Hm U h w->(∀g cs,C.Ha g=some cs->C8 U cs g 0)->Bj U args cargs.toList->
   Calls C.P (ED f) cargs w λe w'=>match e with
    | .returned v=>∃b,Hm b h' w'/\Lm U w b w'/\BQ b r v/\(C.Jl f=true->∃s c,IZ b w.heap.size w' s c v r)
    |_=>False
def mZ(hm:C.P.follows .mixedOrders=true)(sn:∀g cs,C.Ha g=some cs->cs.all Aa.MT=true)(d:dB C):∀n,Fc C (IT.run (B9 C) n)
 |0=>⟨⟨sn,d.1⟩,λf args h r h' A3=>by simp[IT.run] at A3⟩
 |n+1=>⟨⟨sn,d.1⟩,λf args h r h' A3=>by
  have ih:=mZ hm sn d n;simp only[IT.run] at A3;unfold B9 at A3;split at A3;.rename_i p hp;exact d.2 f p hp n ih args h r h' A3
  unfold aFt at A3;split at A3
  .rename_i fn hf;split at A3;.cases A3
   .rename_i hname;unfold ot at A3;split at A3;.cases A3
    .rename_i c hb;refine⟨⟨fn,c,hf,by simpa using hname,hb⟩,λU w cargs hi hg ha=>calls_of_wp hf hb ?_⟩;refine sm (C:=C) (fid:=f) hm c n ih A3 (Dh.start hi hg ha fn.ntmps (λ_=>0)) λx y u σ' h1 a' w' j _ k=>?_;have HF:IT.step (B9 C) (IT.run (B9 C) n) (lV C f fn σ') h1=some (.ret,[r],h')->a'.defers=[]/\∃v,(results fn a'.tmps).run C.P w'= .ok v w'/\∃b,Hm b h' w'/\Lm U w b w'/\BQ b r v/\(C.Jl f=true->∃s c,IZ b w.heap.size w' s c v r):=λaLc=>by obtain⟨r',h2,v,b,e,t,q,o,m,l⟩:=È aLc k;cases e;exact⟨k.defers,v,t,b,q,o,m,l⟩
     cases x with
     |normal=>exact HF j
     |ret=>exact HF j
     |exit i=>cases j
  .cases A3⟩
end
def Ev.calls{C:FY}(hm:C.P.follows .mixedOrders=true)(sn:∀g cs,C.Ha g=some cs->cs.all Aa.MT=true)(c:dB C){f:FuncId}{args:List Aa}{h:Ah}{Q:Aa->Ah->Prop}(I2:Ev C f args h Q){U:Gh}{w:World}{cargs:Array Value}(hi:Hm U h w)(hg:∀g cs,C.Ha g=some cs->C8 U cs g 0)(ha:Bj U args cargs.toList):
  Calls C.P (ED f) cargs w λe w'=>match e with
   | .returned v=>∃r h' b,Q r h'/\Hm b h' w'/\Lm U w b w'/\BQ b r v
   |_=>False:=by
 obtain⟨n,x,vs,h',A3,rfl,r,rfl,hQ⟩:=I2;refine(((mZ hm sn c n).2 f args h r h' A3).2 U w cargs hi hg ha).mono λe w' he=>?_;cases e with
 |returned v=>obtain⟨b,j,i,d,_⟩:=he;exact⟨r,h',b,hQ,j,i,d⟩
 |_=>exact he
end Go.Am
end
section
namespace Go.Am
open Go
inductive Ty where
 |bool
 |int (k:IntKind)
 |str
 |sl (e:Ty)
 |st (fs:List Ty)
 deriving Inhabited
mutual
def Ty.size:Ty->Nat
 | .bool| .int _| .str| .sl _=>1
 | .st fs=>Ty.M2 fs
def Ty.M2:List Ty->Nat
 |[]=>0
 |t::ts=>Ty.size t+Ty.M2 ts
end
mutual
def QU(P:Program):Ty->TypeId->Bool
 | .bool,t=>match P.underlying t with|some .bool=>true|_=>false
 | .int k,t=>match P.underlying t with|some (.int k')=>decide (k'=k)|_=>false
 | .str,t=>match P.underlying t with|some .string=>true|_=>false
 | .sl e,t=>match P.underlying t with
  |some (.slice b)=>P.cellsOf b==Ty.size e&&decide (0<Ty.size e)&&QU P e b
  |_=>false
 | .st fs,t=>match P.underlying t with
  |some (.struct fields)=>P.cellsOf t==Ty.M2 fs&&PL P fs fields.toList 0
  |_=>false
def PL(P:Program):List Ty->List Field->Nat->Bool
 |[],[],_=>true
 |ty::tys,f::fs,off=>f.offset==off&&P.cellsOf f.type==Ty.size ty&&QU P ty f.type&&PL P tys fs (off+Ty.size ty)
 |_,_,_=>false
end
mutual
def dD:Ty->List Aa->Prop
 | .bool,l=>∃b,l=[.bool b]
 | .int k,l=>∃n,l=[.int k n]/\(Lit.int k n).wf=true
 | .str,l=>∃s:Ai,l=[.str s]/\s.length<=maxLen
 | .sl e,l=>l=[.slnil]\/∃AE:List (List Aa),l=[.sl (Ty.size e) AE]/\AE.length<=maxLen/\∀r∈AE,dD e r
 | .st fs,l=>g_ fs l
def g_:List Ty->List Aa->Prop
 |[],l=>l=[]
 |ty::tys,l=>∃a b,l=a++b/\dD ty a/\g_ tys b
end
def Ty.aCb:Ty->Bool
 | .st _=>true
 |_=>false
def h_(ty:Ty)(a:Aa):Prop:=if ty.aCb then∃cs,a= .agg cs/\dD ty cs else dD ty [a]
def Wi:List Ty->List Aa->Prop
 |[],l=>l=[]
 |ty::tys,l=>∃a b,l=a::b/\h_ ty a/\Wi tys b
def Gw(W:World):Gh:={Iw:=λb o=>(W.cell? ⟨b,o,none⟩).filter (·.oneCell'),mu:=λ_=>none,Bu:=λ_=>none,sz:=λ_=>none}
def so(W:World):Hm (Gw W) [] W:=by refine⟨λb o v h=>?_,λid x h=>by simp at h,λid cs h=>by simp at h,λid es h=>by simp at h,λid b h=>(by cases h),λb x h=>(by cases h),λb n h=>(by cases h)⟩;simp only[Gw,Q0] at h;exact⟨h.1,h.2,.inl rfl⟩
def T0{W:World}{b o:Nat}{v:Value}(h:W.cell? ⟨b,o,none⟩=some v)(h1:v.oneCell'=true):(Gw W).Iw b o=some v:=by simp[Gw,h,h1,Option.filter]
def UU{V:Type}{p:Nat->V->Prop}:∀(n:Nat),(∀i,i<n->∃x,p i x)->∃l:List V,l.length=n/\∀i x,l[i]?=some x->p i x
 |0,_=>⟨[],rfl,AH⟩
 |n+1,h=>by
  obtain⟨l,hl,hp⟩:=UU n λi hi=>h i Ab;obtain⟨x,hx⟩:=h n Ab;refine⟨l++[x],by simp[hl],λi y hy=>?_⟩;rw[aJG] at hy;split at hy;.exact hp i y hy
  .have:i-l.length=0:=by
    rcases Jq (i-l.length) with h0|h0
    .exact h0
    .rw[Ec Ei] at hy;cases hy
   rw[this] at hy;simp at hy;subst hy;have:i=n:=Ab;rw[this];exact hx
section
variable{H:Type}{enc:TypeId×Value->H}{P:Program}{W:World}
def Ra{a:Addr}{n:Nat}{cs:List Value}(h:W.cells? 0 a n=some cs)(hn:0<n):a.spot=none:=by
 obtain⟨_,hl,hc⟩:=World.cells?_some h;have h0:=hc 0 hn;have hlt:0<cs.length:=Ab;rw[Al hlt] at h0;unfold World.cell? at h0;have ha:a.add 0=a:=by simp[Addr.add]
 rw[ha] at h0;split at h0
 .split at h0;.cases h0
  .rename_i hs;simpa using hs
 .cases h0
mutual
def dE:∀(ty:Ty) {t:TypeId} {fuel:Nat} {cs:List Value} {x:DataW H×List MemPlace},QU P ty t=true->DataW.trod enc P W 0 (λ_=>true) true fuel t cs=some x->
  ∃as,dD ty as/\Bj (Gw W) as cs/\(∀u∈cs,u.oneCell'=true)/\as.length=Ty.size ty
 | .bool,t,fuel,cs,x,LP,h=>by
  unfold QU at LP;split at LP;.rename_i ht;obtain⟨b,rfl,_⟩:=DataW.trod_bool ht h;exact⟨[.bool b],⟨b,rfl⟩,⟨_,[],rfl,rfl,rfl⟩,by simp[Value.oneCell'],rfl⟩
  .cases LP
 | .int k,t,fuel,cs,x,LP,h=>by
  unfold QU at LP;split at LP
  .rename_i k' ht;have hk:k'=k:=by simpa using LP
   subst hk;obtain⟨n,rfl,_,hw⟩:=DataW.trod_int ht h;exact⟨[.int k' n],⟨n,rfl,hw⟩,⟨_,[],rfl,rfl,rfl⟩,by simp[Value.oneCell'],rfl⟩
  .cases LP
 | .str,t,fuel,cs,x,LP,h=>by
  unfold QU at LP;split at LP
  .rename_i ht;obtain⟨s,rfl,_,hs⟩:=DataW.trod_string ht h;refine⟨[.str s.data.toList],⟨_,rfl,by
    have e:s.data.toList.length=s.size:=by rw[Ch];rfl
    rw[e];exact hs⟩,⟨_,[],rfl,?_,rfl⟩,by simp[Value.oneCell'],rfl⟩
   show Value.string s= .string ⟨⟨s.data.toList⟩⟩;congr 1
  .cases LP
 | .sl e,t,fuel,cs,x,LP,h=>by
  unfold QU at LP;split at LP
  .rename_i A ht;simp only[BC,zt,C0] at LP;obtain⟨⟨hce,hpos⟩,aLd⟩:=LP;rcases DataW.trod_slice ht h with⟨rfl,_⟩|⟨a,len,cap,elems,rest,n,_,rfl,_,_,hl,hm,hlen,c,hsp,_⟩
   .exact⟨[.slnil],.inl rfl,⟨_,[],rfl,rfl,rfl⟩,by simp[Value.oneCell'],rfl⟩
   .have spot:0<cap->a.spot=none:=λhc=>by
     have ha:a.add 0=a:=by simp[Addr.add]
     rcases Jq len with h0|h0
     .obtain⟨Kx,LW⟩:=hsp rfl;have:=LW 0 Ab;rw[Al (Ab:0<rest.length)] at this;have z:(len+0)*P.cellsOf A=0:=by rw[h0];simp
      rw[z,ha] at this;obtain⟨vs,hv,_⟩:=TD.1 this;exact Ra hv Ab
     .have:=c 0 h0;rw[Al (Ab:0<elems.length)] at this;rw[MJ,ha] at this;obtain⟨vs,hv,_⟩:=TD.1 this;exact Ra hv Ab
    obtain⟨AE,qR,mP⟩:=UU (p:=λi (r:List Aa)=>dD e r/\r.length=Ty.size e/\C8 (Gw W) r a.block (a.off+i*Ty.size e)) len λi hi=>by
     have:=c i hi;rw[Al (Ab:i<elems.length)] at this;obtain⟨vs,hv,hd⟩:=TD.1 this;obtain⟨r,m,g,d,l⟩:=dE e aLd hd;refine⟨r,m,l,C8.Hd λj y hj=>?_⟩;obtain⟨u,hu,q⟩:=g.get hj;obtain⟨_,hvl,v⟩:=World.cells?_some hv;have aD:j<P.cellsOf A:=by have:=(Ak.1 hu).1;omega
     have hc:=v j aD;rw[hu] at hc;have rO:a=⟨a.block,a.off,none⟩:=by have:=spot Ab;cases a;simp_all
     have NF:(a.add (i*P.cellsOf A)).add j=⟨a.block,a.off+i*Ty.size e+j,none⟩:=by rw[hce];generalize a.block=b at*;generalize a.off=o at*;subst rO;rw[Addr.add_lit,Addr.add_lit]
     rw[NF] at hc;exact⟨u,T0 hc (d u (CD hu)),q⟩
    refine⟨[.sl (Ty.size e) AE],.inr ⟨AE,rfl,Ab,λr hr=>?_⟩,⟨_,[],rfl,⟨a,cap,by rw[qR],Ab,?_,E5.Hd λi r hr=>?_⟩,rfl⟩,by simp[Value.oneCell'],rfl⟩;.obtain⟨i,hi⟩:=CU hr;exact(mP i r hi).1
    .rcases Jq cap with h0|h0
     .exact .inr h0
     .exact .inl (spot h0)
    .exact⟨(mP i r hr).2.1,(mP i r hr).2.2⟩
  .cases LP
 | .st fs,t,fuel,cs,x,LP,h=>by
  unfold QU at LP;split at LP
  .rename_i fields ht;simp only[BC,zt] at LP;obtain⟨hct,hf⟩:=LP;obtain⟨xs,n,_,_,hcl,B,cJ⟩:=DataW.trod_struct ht h;obtain⟨as,m,g,d,l⟩:=UW fs (fields:=fields.toList) (off:=0) (cs:=cs) (n:=n) hf (λi f hi=>by
    have:=cJ i f (by simpa using hi);have hlt:i<fields.size:=by have:=(Ak.1 hi).1;simpa using this
    rw[Al (Ab:i<xs.length)] at this;exact⟨_,this⟩) (by rw[hcl,hct];omega)
   have D:(cs.drop 0).take (Ty.M2 fs)=cs:=by rw[MH];exact AF (by rw[hcl,hct];exact Ag _)
   rw[D] at g d;exact⟨as,m,g,d,l⟩
  .cases LP
def UW:∀(tys:List Ty) {fields:List Field} {off:Nat} {cs:List Value} {n:Nat},PL P tys fields off=true->
  (∀(i:Nat) (f:Field),fields[i]?=some f->∃y,DataW.trod enc P W 0 (λ_=>true) true n f.type ((cs.drop f.offset).take (P.cellsOf f.type))=some y)->off+Ty.M2 tys<=cs.length->
  ∃as,g_ tys as/\Bj (Gw W) as ((cs.drop off).take (Ty.M2 tys))/\(∀u∈(cs.drop off).take (Ty.M2 tys),u.oneCell'=true)/\as.length=Ty.M2 tys
 |[],fields,off,cs,n,LP,h,hl=>by refine⟨[],rfl,?_,?_,rfl⟩<;>simp[Ty.M2,Bj]
 |ty::tys,fields,off,cs,n,LP,h,hl=>by
  cases fields with
  |nil=>simp[PL] at LP
  |cons f fs=>
   simp only[PL,BC,zt] at LP;obtain⟨⟨⟨ho,hc⟩,Z5⟩,qx⟩:=LP;obtain⟨y,hy⟩:=h 0 f rfl;rw[ho,hc] at hy;obtain⟨as,m,l,k,j⟩:=dE ty Z5 hy;simp only[Ty.M2] at hl;obtain⟨bs,e,d,c,b⟩:=UW tys qx (λi g hi=>h (i+1) g (by simpa using hi)) Ab;have o:(cs.drop off).take (Ty.M2 (ty::tys))=(cs.drop off).take (Ty.size ty)++(cs.drop (off+Ty.size ty)).take (Ty.M2 tys):=by simp only[Ty.M2];rw[aAa,Ek]
   rw[o];refine⟨as++bs,⟨as,bs,rfl,m,e⟩,l.append d,λu hu=>?_,by simp[j,b,Ty.M2]⟩;rcases Ax.1 hu with hu|hu
   .exact k u hu
   .exact c u hu
end
def dF{ty:Ty}{t:TypeId}{v:Value}{base:Nat}(LP:QU P ty t=true)(hv:Value.okWide P W .any base t v):if ty.aCb then∃cs,v= .agg cs else v.cells=#[v]:=by
 cases ty with
 |st fs=>
  unfold QU at LP;split at LP;.rename_i fields ht;unfold Value.okWide at hv;rw[ht] at hv;obtain⟨cs,e,_⟩:=hv;exact⟨cs,e⟩
  .cases LP
 |_=>
  unfold QU at LP;split at LP;.rename_i ht;unfold Value.okWide at hv;rw[ht] at hv;simp only[Cell.okWide,ht,Cell.ok] at hv;cases v<;>first|rfl|exact hv.elim
  .cases LP
def aL:∀{tys:List Ty} {ts:List TypeId} {vs:List Value} {ds:List (DataW H)} {ps:List MemPlace} {base:Nat},DataW.TrodAll enc P W 0 (λ_=>true) true ts vs ds ps->tys.length=ts.length->(∀(i:Nat) (ty:Ty) (t:TypeId),tys[i]?=some ty->ts[i]?=some t->QU P ty t=true)->
  (∀(i:Nat) (t:TypeId) (v:Value),ts[i]?=some t->vs[i]?=some v->Value.okWide P W .any base t v)->∃as,Wi tys as/\Bj (Gw W) as vs
 |[],[],[],[],_,_,_,_,_,_=>⟨[],rfl,rfl⟩
 |ty::tys,t::ts,v::vs,d::ds,ps,base,⟨p,q,⟨fuel,h1⟩,h2,_⟩,hl,LP,QV=>by
  have Z5:=LP 0 ty t rfl rfl;obtain⟨cells,f,b,k,l⟩:=dE ty Z5 h1;obtain⟨bs,j,g⟩:=aL h2 (by simpa using hl) (λi ty t h h'=>LP (i+1) ty t (by simpa using h) (by simpa using h')) (λi t v h h'=>QV (i+1) t v (by simpa using h) (by simpa using h'));have hc:=dF Z5 (QV 0 t v rfl rfl);have:∃a,h_ ty a/\BQ (Gw W) a v:=by
   by_cases HN:ty.aCb=true;.rw[Af HN] at hc;obtain⟨us,rfl⟩:=hc;exact⟨.agg cells,(by unfold h_;rw[Af HN];exact⟨cells,rfl,f⟩),us,rfl,by simpa[Value.cells] using b,by simpa[Value.cells] using k⟩
   .rw[Ad HN] at hc;rw[hc] at b;obtain⟨u,us,e,hu,hnil⟩:∃c GY,cells=c::GY/\BQ (Gw W) c v/\GY=[]:=by
     cases cells with
     |nil=>cases b
     |cons c GY=>obtain⟨u,DT,e,h1,h2⟩:=b;simp at e;obtain⟨rfl,rfl⟩:=e;exact⟨c,GY,rfl,h1,by cases GY with|nil=>rfl|cons _ _=>obtain⟨_,_,e,_⟩:=h2;cases e⟩
    subst hnil;subst e;exact⟨u,(by unfold h_;rw[Ad HN];exact f),hu⟩
  obtain⟨a,ha,hr⟩:=this;exact⟨a::bs,⟨a,bs,rfl,ha,j⟩,⟨v,vs,rfl,hr,g⟩⟩
 |[],_::_,_,_,_,_,_,hl,_,_=>by simp at hl
 |_::_,[],_,_,_,_,_,hl,_,_=>by simp at hl
 |[],[],_::_,_,_,_,h,_,_,_=>by cases h
 |[],[],[],_::_,_,_,h,_,_,_=>by cases h
 |_::_,_::_,[],_,_,_,h,_,_,_=>by cases h
 |_::_,_::_,_::_,[],_,_,h,_,_,_=>by cases h
def XM{W':World}{may:MemPlace->Prop}(h1:W'.os=W.os)(h2:W'.output=W.output)(hb:∀i,i<W.heap.size->W'.heap[i]?=W.heap[i]?):W.keptBut W' may:=by
 refine⟨h1,h2,λi hi=>?_⟩;rw[hb i hi];split;.rename_i c t fr c' t' e_ d b;rw[d] at b;cases b;exact⟨rfl,rfl,rfl,λ_ _=>rfl⟩
 .rename_i d b;rw[d] at b;cases b;exact .inr ⟨rfl,rfl⟩
 .rfl
def Rb(hl:laidOutB P=true){W':World}(hb:RowKit.Below W.heap.size W W'):∀{ts:List TypeId} {vs:List Value} {ds:List (DataW H)} {ps:List MemPlace},(∀t∈ts,P.readableRec t=true/\t<P.types.size)->
  DataW.TrodAll enc P W 0 (λ_=>true) true ts vs ds ps->(∀x∈ps,x.block<W.heap.size)->DataW.TrodAll enc P W' 0 (λb=>decide (b<W.heap.size)) true ts vs ds ps
 |[],[],[],ps,_,h,_=>h
 |t::ts,v::vs,d::ds,ps,cO,⟨p,q,h1,h2,e⟩,hlt=>by subst e;have ht:=cO t AH;exact⟨p,q,RowKit.Below.trod hl ht.1 ht.2 h1 hb λx hx=>hlt x (CE _ hx),Rb hl hb (λt' h'=>cO t' (by simp[h'])) h2 λx hx=>hlt x (BU _ hx),rfl⟩
 |[],[],_::_,_,_,h,_=>by cases h
 |[],_::_,_,_,_,h,_=>by cases h
 |_::_,[],_,_,_,h,_=>by cases h
 |_::_,_::_,[],_,_,h,_=>by cases h
end
def dG{C:FY}(hm:C.P.follows .mixedOrders=true)(sn:∀g cs,C.Ha g=some cs->cs.all Aa.MT=true)(n:dB C)(hl:laidOutB C.P=true){f:FuncId}{fn:Func}{rt:TypeId}(l:f<=99999)(k:fn.resultTypes=#[rt])(m:C.P.underlying rt=some .bool){tys:List Ty}(hlen:tys.length=fn.params.size)
  (aLf:∀(i:Nat) (ty:Ty) (t:TypeId),tys[i]?=some ty->fn.params[i]?=some t->QU C.P ty t=true) (aFU:∀t∈fn.params.toList,C.P.readableRec t=true/\t<C.P.types.size)
  (I2:∀as,Wi tys as->Ev C f as [] λr _=>r= .bool true) {s:ChangeSpec} (c:s.vars=[])
  {H:Type} (Á:∀ds:List (DataW H),ds.length=fn.params.size->s.fn H ds={results:=[.lit (.bool true)],args:=ds})
  {enc:TypeId×Value->H} {W:World} {base:Nat} {args:Array Value} {ds gs:List (DataW H)} {before:List MemPlace} (hg:∀g cs,C.Ha g=some cs->C8 (Gw W) cs g 0)
  (QV:∀(j:Nat) (t:TypeId) (v:Value),fn.params[j]?=some t->args[j]?=some v->Value.okWide C.P W .any base t v) (hW:DataW.Whole enc C.P fn.params.toList s.vars false W args.toList ds gs before):
  Calls C.P f args W λe W'=>∃v,e= .returned v/\s.post enc C.P fn false true false false W args v W':=by
 have u:=hW;have hlt:=hW.lt;obtain⟨p,q,z,y,rfl,hfz,z_⟩:=hW;rw[c] at y;have o:gs=[]/\q=[]:=by
  cases gs with
  |nil=>exact⟨rfl,y⟩
  |cons _ _=>cases y
 obtain⟨rfl,rfl⟩:=o;obtain⟨as,ZB,Pb⟩:=aL z (by simpa using hlen) (λi ty t h h'=>aLf i ty t h (by simpa using h')) (λi t v h h'=>QV i t v (by simpa using h) (by simpa using h'));have sJ:ds.length=fn.params.size:=by
  have key:∀{ts:List TypeId} {vs:List Value} {ds:List (DataW H)} {ps:List MemPlace},DataW.TrodAll enc C.P W 0 (λ_=>true) true ts vs ds ps->ds.length=ts.length:=by
   intro ts;induction ts with
   |nil=>intro vs ds ps h;cases vs<;>cases ds<;>first|rfl|cases h
   |cons t ts ih=>
    intro vs ds ps h;cases vs with
    |nil=>cases h
    |cons v vs=>
     cases ds with
     |nil=>cases h
     |cons d ds=>obtain⟨_,_,_,h2,_⟩:=h;simp[ih h2]
  simpa using key z
 have We:=(I2 as ZB).calls hm sn n (so W) hg Pb;rw[show ED f=f from Af l] at We;refine We.mono λe W' he=>?_;cases e with
 |returned v=>
  obtain⟨r,h',A,rfl,hi,Kj,hv⟩:=he;have hvb:v= .bool true:=hv;subst hvb;have hold:∀i,i<W.heap.size->W'.heap[i]?=W.heap[i]?:=λi qu=>(Kj.Oi i qu λid h0=>by cases h0).1;have b:RowKit.Below W.heap.size W W':=⟨Kj.os,Kj.tape,Kj.output,Kj.size,hold⟩;refine⟨_,rfl,ds,[],p++[],[],p,[],u,?_,?_,?_,XM Kj.os Kj.output hold,λh0=>by cases h0⟩;.rw[By,Á ds sJ,k];exact⟨[],[],RowKit.shut_bool m true,rfl,rfl⟩
  .rw[By,Á ds sJ];exact Rb hl b aFU z λx hx=>hlt x (by simpa using hx)
  .rw[By,Á ds sJ,c];rfl
 |_=>exact he.elim
end Go.Am
end
