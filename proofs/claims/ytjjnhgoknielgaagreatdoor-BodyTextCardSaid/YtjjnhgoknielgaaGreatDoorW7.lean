/- Lemmas -/
import Derived.Scope
import Derived.Test.YtjjnhgoknielgaaGreatDoorW6
import Derived.Carry
import Derived.ReadAgain
set_option linter.all false
section
namespace Go.Am
open Go
def Kpt(x y:ER):Prop:=
 match x with
 | .box ver cs ow=>∃GH Hz Pe,y= .box GH Hz Pe/\ver<=GH/\(GH=ver->Hz=cs/\Pe=ow)
 | .FD t o=>y= .FD t o\/y= .undef
 |x=>y=x
def Kpt.refl(x:ER):Kpt x x:=by
 cases x with
 |box ver cs ow=>exact⟨ver,cs,ow,rfl,Ad _,λ_=>⟨rfl,rfl⟩⟩
 |FD t o=>exact .inl rfl
 |_=>rfl
def Kpt.trans{x y z:ER}(h:Kpt x y)(k:Kpt y z):Kpt x z:=by
 cases x with
 |box ver cs ow=>obtain⟨b,m,l,rfl,h1,h2⟩:=h;obtain⟨v2,j,c,rfl,f,d⟩:=k;refine⟨v2,j,c,rfl,Bw h1 f,λe=>?_⟩;have i:b=ver:=Ac;have g:v2=b:=Ac;obtain⟨rfl,rfl⟩:=d g;exact h2 i
 |FD t o=>
  rcases h with rfl|rfl
  .exact k
  .exact .inr k
 |_=>rw[show y=_ from h] at k;exact k
def HZ(W:List Nat)(σ O:BT):Prop:=O.length=σ.length/\∀s,s∉W->Kpt (σ.at s) (O.at s)
def HZ.refl(W:List Nat)(σ:BT):HZ W σ σ:=⟨rfl,λ_ _=> .refl _⟩
def HZ.trans{W:List Nat}{σ O J:BT}(h:HZ W σ O)(k:HZ W O J):HZ W σ J:=⟨k.1.trans h.1,λs hs=>(h.2 s hs).trans (k.2 s hs)⟩
def HZ.mono{W W':List Nat}{σ O:BT}(h:HZ W σ O)(hw:∀s∈W,s∈W'):HZ W' σ O:=⟨h.1,λs hs=>h.2 s λhm=>hs (hw s hm)⟩
def HZ.set{W:List Nat}{σ:BT}{s:Nat}{x:ER}(hs:s∈W):HZ W σ (σ.set s x):=
 ⟨AB,λt ht=>by rw[BT.Gx λe=>ht (by rw[<-e];exact hs)];exact .refl _⟩
def HZ.put{W:List Nat}{σ:BT}{d:Option Nat}{x:ER}(hs:∀s∈d.toList,s∈W):HZ W σ (σ.put d x):=by
 cases d with
 |none=>exact .refl _ _
 |some d=>exact .set (hs d AB)
section
variable{C:Gw}{fid:FuncId}{ops:List Oper}{run:IT->Ai->Option KE}{σ σ':BT}{h h':Ai}{W:List Nat}
def HZ.drop(σ:BT)(ds:List Nat):HZ W σ (σ.drop ds):=by
 refine⟨BT.length_drop σ ds,λs _=>?_⟩;rw[BT.WT];cases hx:σ.at s with
 |FD t o=>
  simp only
  split;.exact .inr rfl
  .exact .inl rfl
 |_=>exact .refl _
def tU{r:E2}{ds:List Nat}(hd:r.OD C run (σ.drop ds) h σ' h')(hw:∀s∈r.wf,s∈W):HZ W σ σ':=by obtain⟨ws,rfl,h1,_⟩:=cT hd;refine(HZ.drop σ ds).trans ⟨BT.Ky ws _,λs hs=>?_⟩;rw[BT.Hn ws _ s λp hp e=>hs (hw s (by rw[<-e];exact h1 p hp))];exact .refl _
def Rw{x:Operand}{d:Nat}{take:Bool}{r:E2}(h:Lr C σ x d take=some r):∀s∈r.wf,s=d\/(take=true/\x= .tmp s):=by
 unfold Lr at h;split at h;.cases h;simp[E2.wf]
 .cases h;simp[E2.wf]
 .split at h
  .rename_i ht;cases h;intro s hs;simp only[E2.wf,B3,Ao] at hs;rcases hs with hs|hs
   .revert hs;generalize b:Tl _ _=c;intro hs;unfold Tl at b;split at b;.subst b;simp at hs;exact .inr ⟨ht,by rw[hs]⟩
    .subst b;simp at hs
   .exact .inl (by simpa using hs)
  .cases hc:Jd _ with
   |none=>rw[hc] at h;cases h
   |some sl=>rw[hc] at h;cases h;simp[E2.wf]
 .cases hc:Jd _ with
  |none=>rw[hc] at h;cases h
  |some sl=>rw[hc] at h;cases h;simp[E2.wf]
 .cases h
def TG{x:Operand}{p:Nat×Ab}(h:Dv σ x=some p):x= .tmp p.1:=by
 cases x with
 |tmp t=>
  simp only[Dv] at h;cases hx:σ.at t with
  |BU v=>rw[hx] at h;cases h;rfl
  |_=>rw[hx] at h;cases h
 |_=>cases h
def oG{t:TypeId}{v:Ab}{d:Nat}{r:E2}(h:Vw C fid t v d=some r):r.wf=[d]:=by
 unfold Vw at h;split at h;.cases h
 .split at h;.cases h
  .split at h<;>(cases h;rfl)
def Sc:∀{xs:List Operand} {vs:List Ab} {fz:List (Nat×List Ab)},HU C σ xs=some (vs,fz)->∀p∈fz,p.1∈Ls xs
 |[],vs,fz,hc=>by cases hc;simp
 |x::xs,vs,fz,hc=>by
  unfold HU at hc;split at hc;.cases hc
  .rename_i Iy c b;have ih:=Sc b;have up:∀p∈c,p.1∈Ls (x::xs):=λp hp=>by obtain⟨y,hy,he⟩:=Cs.1 (ih p hp);exact Cs.2 ⟨y,Pc _ hy,he⟩
   split at hc
   .rename_i s ver cs ow hs;split at hc;.cases hc
    .cases hc;intro p hp;rcases AF.1 hp with rfl|hp
     .simp[Ls]
     .exact up p hp
   .rename_i sl _ hs;cases hv:sl.HT with
    |none=>rw[hv] at hc;cases hc
    |some u=>rw[hv] at hc;cases hc;exact up
   .cases hc
def zF{o:Oper}{r:E2}(hc:GG C fid ops σ o=some r)(hd:r.OD C run (σ.drop r.news) h σ' h'):HZ (FO ops o) σ σ':=by
 have TF:∀s∈o.dst.toList,s∈FO ops o:=λs hs=>B4 _ hs
 have hwf:(∀s∈r.wf,s∈FO ops o)->HZ (FO ops o) σ σ':=tU hd
 have Wv:r.wf=o.dst.toList->HZ (FO ops o) σ σ':=λe=>hwf (by rw[e];exact TF)
 have VJ:∀{m x},UK m o.dst x=some r->HZ (FO ops o) σ σ':=λ{m x} he=>by
  obtain⟨_,_,rfl⟩:=HX he
  exact Wv rfl
 have Ig:∀{p x},UJ p o.dst x=some r->HZ (FO ops o) σ σ':=λ{p x} he=>by
  obtain⟨args,_,rfl⟩:=Ea he
  exact Wv (by simp[E2.wf])
 unfold GG at hc
 split at hc
 .rename_i x ho
  split at hc
  .rename_i d Gt
   refine hwf λs hs=>?_
   rcases Rw hc s hs with rfl|⟨ht,rfl⟩
   .exact TF s (by rw[Gt];simp)
   .refine BJ _ ?_
    simp[ho,Gt,ht]
  .cases hc
 .rename_i x ho
  split at hc
  .rename_i d Gt
   refine hwf λs hs=>?_
   rcases Rw hc s hs with rfl|⟨ht,rfl⟩
   .exact TF s (by rw[Gt];simp)
   .refine BJ _ ?_
    simp[ho]
  .cases hc
 .rename_i c x y ho
  split at hc
  .rename_i d _ Gt
   refine hwf λs hs=>?_
   rcases Rw hc s hs with rfl|⟨ht,rfl⟩
   .exact TF s (by rw[Gt];simp)
   .cases ht
  .rename_i d _ Gt
   refine hwf λs hs=>?_
   rcases Rw hc s hs with rfl|⟨ht,rfl⟩
   .exact TF s (by rw[Gt];simp)
   .cases ht
  .exact Ig hc
 .split at hc
  .rename_i d z Gt hz
   split at hc
   .split at hc
    .cases hc;exact Wv (by rw[Gt];rfl)
    .cases hc
   .exact Wv (by rw[oG hc,Gt];rfl)
  .cases hc
 .split at hc
  .rename_i d v Gt hz
   exact Wv (by rw[oG hc,Gt];rfl)
  .cases hc
 .split at hc
  .split at hc
   .exact Ig hc
   .cases hc
  .cases hc
 .split at hc
  .split at hc
   .split at hc
    .split at hc
     .cases hc;exact Wv (by simp[E2.wf])
     .cases ha:Bs C σ _ with
      |none=>rw[ha] at hc;cases hc
      |some args=>rw[ha] at hc;cases hc;exact Wv (by simp[E2.wf])
    .cases hc
   .cases hc
  .cases hc
 .split at hc
  .rename_i d Gt
   unfold MB at hc
   split at hc
   .cases hc;exact Wv (by rw[Gt];rfl)
   .rename_i s off ver cs ow ht ha
    split at hc
    .simp only at hc
     split at hc
     .cases hc
      rw[Pp AB] at hd
      obtain⟨rfl,rfl⟩:=hd
      have hs:σ.at s= .box ver cs ow:=by
       unfold GF at ha
       split at ha
       .rename_i hs;cases ha;exact HD hs
       .split at ha
        .rename_i hb;cases ha;exact hb
        .cases ha
       .exact absurd ha (by cases hv:ER.HT _<;>simp)
       .cases ha
      refine⟨by simp[BT.drop,BT.E3],λt b=>?_⟩
      have f:t≠d:=λe=>b (TF t (by rw[Gt,e];simp))
      have g:s<σ.length:=BT.Qx (by rw[hs];simp)
      show Kpt (σ.at t) (BT.at ((σ.set s _).set d _) t)
      rw[BT.Gx (λe=>f e.symm)]
      by_cases fX:s=t
      .subst fX
       rw[BT.FT g,hs]
       exact⟨_,_,_,rfl,F6 _,λe=>absurd e Ac⟩
      .rw[BT.Gx fX];exact .refl _
     .cases hc;exact Wv (by rw[Gt];rfl)
    .cases hc
   .split at hc
    .cases hc;exact Wv (by rw[Gt];rfl)
    .cases hc
   .cases hc
  .cases hc
 .rename_i t x y ho
  split at hc
  .rename_i Gt
   unfold Kd at hc
   split at hc
   .cases hc;exact hwf (by simp[E2.wf])
   .rename_i m sh s off ver cs ow v Lu sD ha hv
    split at hc
    .cases hc
     obtain⟨_,rfl,rfl⟩:=hd
     have hs:σ.at s= .box ver cs ow:=by
      unfold GF at ha
      split at ha
      .rename_i hs;cases ha;exact HD hs
      .split at ha
       .rename_i hb;cases ha;exact hb
       .cases ha
      .exact absurd ha (by cases hv:ER.HT _<;>simp)
      .cases ha
     have aK:∀(D:Option (Nat×Ab)),(∀p,D=some p->p.1∈FO ops o/\p.1≠s)->∀X:List Ab×List Nat,HZ (FO ops o) σ ((σ.DU D).set s (.box (ver+1) X.1 X.2)):=by
      intro D j X
      refine⟨by cases D<;>simp[BT.DU],λt b=>?_⟩
      have hlen:s<(σ.DU D).length:=by
       have:s<σ.length:=BT.Qx (by rw[hs];simp)
       cases D<;>simpa[BT.DU] using this
      by_cases fX:s=t
      .subst fX
       rw[BT.FT hlen,hs]
       exact⟨_,_,_,rfl,F6 _,λe=>absurd e Ac⟩
      .rw[BT.Gx fX]
       cases D with
       |none=>exact .refl _
       |some p=>
        obtain⟨i,k⟩:=j p rfl
        simp only[BT.DU]
        rw[BT.Gx (λe=>b (by rw[<-e];exact i))]
        exact .refl _
     refine aK _ (λp hp=>?_) (_,_)
     split at hp
     .have hy:=TG hp
      subst hy
      refine⟨BJ _ (by simp[ho]),λe=>?_⟩
      simp only[Dv] at hp
      rw[e,hs] at hp
      cases hp
     .cases hp
    .cases hc
   .cases hc
  .cases hc
 .split at hc
  .rename_i Gt _ _
   cases hc;exact Wv (by rw[Gt];rfl)
  .rename_i Gt _ _
   cases hc;exact Wv (by rw[Gt];rfl)
  .exact Ig hc
 .split at hc
  .exact Ig hc
  .cases hc
 .exact Ig hc
 .split at hc
  .cases hv:Fi C σ _ with
   |none=>rw[hv] at hc;cases hc
   |some v=>rw[hv] at hc;cases hc;exact Wv rfl
  .split at hc
   .cases hv:Fi C σ _ with
    |none=>rw[hv] at hc;cases hc
    |some v=>rw[hv] at hc;cases hc;exact Wv rfl
   .exact Ig hc
  .exact Ig hc
  .cases hc
 .rename_i fn first captured ho
  split at hc
  .rename_i d as bs fz Gt ha hb
   cases hc
   refine hwf λs hs=>?_
   simp only[E2.wf,AF] at hs
   rcases hs with rfl|hs
   .exact TF s (by rw[Gt];simp)
   .obtain⟨p,hp,rfl⟩:=A5.1 hs
    refine BJ _ ?_
    simp only[ho]
    exact Sc hb p hp
  .cases hc
 .cases hc;exact Wv rfl
 .split at hc
  .split at hc
   .cases hc;exact Wv rfl
   .cases hc
  .cases hc
 .split at hc
  .split at hc
   .cases hc;exact hwf (by simp[E2.wf])
   .cases hc;exact hwf (by simp[E2.wf])
   .cases hc
  .cases hc
 .split at hc
  .split at hc
   .cases hc;exact hwf (by simp[E2.wf])
   .cases hc;exact hwf (by simp[E2.wf])
   .cases hc
  .cases hc
 .split at hc
  .split at hc
   .cases hc;exact Wv rfl
   .cases hc;exact Wv rfl
   .cases hc
  .cases hc
 .split at hc
  .split at hc
   .exact VJ hc
   .cases hc
  .cases hc
 .split at hc
  .cases hc
  .exact VJ hc
  .cases hc
 .split at hc
  .split at hc<;>first|exact VJ hc|cases hc
  .cases hc
 .split at hc
  .rename_i Gt
   exact VJ (by rw[Gt];exact hc)
  .cases hc
 .split at hc
  .exact Ig hc
  .split at hc
   .split at hc
    .exact VJ hc
    .exact Ig hc
   .cases hc
  .cases hc
 .split at hc
  .rename_i off sh d hf Gt
   split at hc
   .cases hc;exact Wv (by rw[Gt];rfl)
   .cases hc;exact Wv (by rw[Gt];rfl)
   .exact Ig (by rw[Gt];exact hc)
  .cases hc
 .split at hc
  .exact Ig hc
  .cases hc
 .split at hc
  .split at hc
   .exact Ig hc
   .cases hc
  .split at hc
   .split at hc
    .cases hc
    .exact Ig hc
   .cases hc
  .cases hc
 .split at hc
  .exact Ig hc
  .split at hc
   .exact Ig hc
   .cases hc
  .cases hc
 .exact Ig hc
 .rename_i c ho
  unfold Sq at hc
  split at hc
  .split at hc
   .split at hc
    .exact Ig hc
    .exact Ig hc
    .cases hc
   .cases hc
  .rename_i hcl
   split at hc
   .rename_i t t' s x h0 h1 E6
    have aK:∀p,Dv σ s=some p->p.1∈FO ops o:=λp hp=>by
     have:=TG hp
     subst this
     refine BJ _ ?_
     simp only[ho,hcl,E6]
     simp[Ls]
    split at hc
    all_goals first
     |(cases hc;done)
     | (split at hc
        . split at hc
          . split at hc
            . split at hc
              . split at hc
                . cases hc
                  refine hwf fun q hq => ?_
                  simp only [E2.wf, Ao] at hq
                  rcases hq with hq | hq
                  . exact TF q hq
                  . cases tV : Dv σ s with
                    | none => rw [tV] at hq; simp at hq
                    | some p => rw [tV] at hq; simp at hq; rw [hq]; exact aK p tV
                . split at hc
                  . cases hc
                    refine hwf fun q hq => ?_
                    simp only [E2.wf, Ao] at hq
                    rcases hq with hq | hq
                    . exact TF q hq
                    . cases tV : Dv σ s with
                      | none => rw [tV] at hq; simp at hq
                      | some p => rw [tV] at hq; simp at hq; rw [hq]; exact aK p tV
                  . cases hc
                    refine hwf fun q hq => ?_
                    simp only [E2.wf, Ao] at hq
                    rcases hq with hq | hq
                    . exact TF q hq
                    . cases tV : Dv σ s with
                      | none => rw [tV] at hq; simp at hq
                      | some p => rw [tV] at hq; simp at hq; rw [hq]; exact aK p tV
              . split at hc
                . cases hc
                  refine hwf fun q hq => TF q (by simpa [E2.wf] using hq)
                . cases hc
            . cases hc
          . cases hc
        . cases hc)
   .cases hc
  .split at hc
   .split at hc
    all_goals first
     |(cases hc;done)
     | (split at hc
        . exact VJ hc
        . cases hc)
   .cases hc
  .split at hc
   .split at hc
    .split at hc
     .exact VJ hc
     .cases hc
    .cases hc
   .cases hc
  .split at hc
   .exact Ig hc
   .cases hc
  .split at hc
   .exact Ig hc
   .cases hc
  .split at hc
   .split at hc
    .split at hc
     .exact VJ hc
     .cases hc
    .cases hc
   split at hc
   .cases ha:Bs C σ c.args.toList with
    |none=>rw[ha] at hc;cases hc
    |some args=>
     rw[ha] at hc
     simp only[BW,BO] at hc
     split at hc<;>(cases hc;exact Wv rfl)
   .cases hc
  .split at hc
   .cases hc;exact Wv rfl
   .cases hc
  .cases hc
 .cases hc
end
end Go.Am
end
section
namespace Go.Am
open Go
def N_:GD->Exit
 | .normal=> .normal
 | .exit i=> .exit i
 | .ret=> .ret
def PD:∀{l m:List Nat},l.Nodup->(∀x∈l,x∈m)->l.length<=m.length
 |[],_,_,_=>Bn _
 |x::l,m,hn,hs=>by have hx:=hs x AB;have h1:=PD (l:=l) (m:=m.erase x) (Ca.1 hn).2 λy hy=>(List.mem_erase_of_ne λe=>(Ca.1 hn).1 (by rw[<-e];exact hy)).2 (hs y (by simp[hy]));rw[List.length_erase_of_mem hx] at h1;have:0<m.length:=List.length_pos_of_mem hx;simp;omega
def gI{P:Program}{c:Code}{Q:Exit->Act->World->Prop}(T:Nat->Act->World->Prop)(round:∀n a w,T n a w->c.wp P (Exit.then (λa' w'=>∃m,m<n/\T m a' w') Q) a w)(n:Nat)(a:Act)(w:World)(h0:T n a w):(Code.loop c).wp P Q a w:=by
 intro b k cs;have key:∀n a w,T n a w->∃e a' w',Q e a' w'/\Arrives P (lone (b.at a (.code c:: .inLoop c::k)) cs w) b k cs e a' w':=by
  intro n;induction n using Nat.strongRecOn with
  |_ n ih=>
   intro a w i;obtain⟨e,a1,w1,hq,aAu⟩:=round n a w i b (.inLoop c::k) cs;by_cases he:e= .normal;.subst he;obtain⟨m,hm,d⟩:=hq;obtain⟨j,a2,f,g,r2⟩:=ih m hm a1 w1 d;exact⟨j,a2,f,g,.of_steps (Go.Steps.trans aAu (.one step_inLoop)) r2⟩
   .exact⟨e,a1,w1,by cases e<;>first|exact hq|exact absurd rfl he,.pass (x:= .inLoop c) rfl (λ_ _=> .inl he) aAu⟩
 obtain⟨e,a',w',hq,aAu⟩:=key n a w h0;exact⟨e,a',w',hq,.of_steps (.one step_loop) aAu⟩
section
variable{C:Gw}{U0 U:Gh}{w0 w:World}{Z:Nat->Nat}{σ:BT}{h:Ai}{a:Act}{fid:FuncId}{run:IT->Ai->Option KE}
def gJ{ops:List Oper}{o:Oper}{K:BT->IT}{R:KE}(hr:IT.step (Cf C) run (UL C fid ops σ o K) h=some R):
  ∃d,(d=σ\/∃s b,s∈FZ ops o/\σ.at s= .val (.bool b)/\d=σ.set s (.Qk b))/\
   ((JE ops d o= .OA true/\IT.step (Cf C) run (yi C fid ops d o K) h=some R)\/(JE ops d o= .OA false/\IT.step (Cf C) run (K (d.put o.dst .skip)) h=some R)):=by
 unfold UL at hr;split at hr;.rename_i hg;exact⟨σ,.inl rfl,.inl ⟨hg,hr⟩⟩
 .rename_i hg;exact⟨σ,.inl rfl,.inr ⟨hg,hr⟩⟩
 .rename_i s v want hg;have e:s∈FZ ops o/\σ.at s= .val v/\∀b,JE ops (σ.set s (.Qk b)) o= .OA (b==want):=by
   unfold JE at hg⊢;unfold FZ;cases ho:o.guard with
   |none=>rw[ho] at hg;cases hg
   |some g=>
    obtain⟨j,want'⟩:=g;rw[ho] at hg;simp only at hg⊢;cases hd:(ops[j]?).bind (·.dst) with
    |none=>rw[hd] at hg;cases hg
    |some s'=>
     rw[hd] at hg;simp only at hg⊢;cases hx:σ.at s' with
     |val v'=>rw[hx] at hg;cases hg;refine⟨AB,hx,λb=>?_⟩;rw[BT.FT (BT.Qx (by rw[hx];simp))]
     |Qk c=>rw[hx] at hg;cases hg
     |skip=>rw[hx] at hg;cases hg
     |_=>rw[hx] at hg;cases hg
  obtain⟨g1,g2,g3⟩:=e;simp only[IT.step] at hr;split at hr
  .refine⟨σ.set s (.Qk true),.inr ⟨s,true,g1,g2,rfl⟩,?_⟩;rw[g3];cases want with
   |true=>exact .inl ⟨rfl,hr⟩
   |false=>exact .inr ⟨rfl,hr⟩
  .refine⟨σ.set s (.Qk false),.inr ⟨s,false,g1,g2,rfl⟩,?_⟩;rw[g3];cases want with
   |true=>exact .inr ⟨rfl,hr⟩
   |false=>exact .inl ⟨rfl,hr⟩
  .cases hr
 .cases hr
def zG(j:Ft C run){ops:Array Oper}{Q:Exit->Act->World->Prop}{W:List Nat}{K:BT->IT}{R:KE}:∀(rest:List Oper) (k:Nat) (U:Gh) (Z:Nat->Nat) (σ:BT) (h:Ai) (a:Act) (w:World),
  ops.toList.drop k=rest->(∀o∈rest,(∀s∈FO ops.toList o,s∈W)/\∀s∈FZ ops.toList o,s∈W)->IT.step (Cf C) run (yM C fid ops.toList rest σ K) h=some R->Df C U0 w0 U Z σ h a w->
  (∀e d σ' h' a' w',IT.step (Cf C) run (K σ') h'=some R->HZ W σ σ'->Df C U0 w0 e d σ' h' a' w'->Q .normal a' w')->wpOps C.P ops Q (List.range' k rest.length) a w
 |[],k,U,Z,σ,h,a,w,_,_,AR,hr,hQ=>by simp only[AZ,List.range'_zero,wpOps];exact hQ U Z σ h a w AR (.refl _ _) hr
 |o::rest,k,U,Z,σ,h,a,w,hk,hW,AR,hr,hQ=>by
  have ho:ops[k]?=some o:=by
   have:ops.toList[k]?=some o:=by have h0:=B6 (·[0]?) hk;simpa[CE] using h0
   simpa using this
  have i:ops.toList.drop (k+1)=rest:=by have h0:=B6 (List.drop 1) hk;simpa[Ez] using h0
  obtain⟨zH,H_⟩:=hW o AB;simp only[AJ,List.range'_succ,wpOps,ho];obtain⟨f,g,JP⟩:=gJ AR;have KF:Df C U0 w0 U Z f h a w/\HZ W σ f:=by
   rcases g with rfl|⟨s,b,g1,g2,rfl⟩
   .exact⟨hr,.refl _ _⟩
   .have h0:=hr.fr.IZ s;rw[g2] at h0;exact⟨hr.nE h0,.set (H_ s g1)⟩
  obtain⟨KF,aJb⟩:=KF;have next:∀e d σ' h' a' w',IT.step (Cf C) run (yM C fid ops.toList rest σ' K) h'=some R->HZ W σ σ'->Df C U0 w0 e d σ' h' a' w'->wpOps C.P ops Q (List.range' (k+1) rest.length) a' w':=λe d σ' h' a' w' Ym qb Ib=>zG j rest (k+1) e d σ' h' a' w' i (λo ho=>hW o (by simp[ho])) Ym Ib λn m c h2 a2 l Ng aNH aJc=>hQ n m c h2 a2 l Ng (qb.trans aNH) aJc
  rcases JP with⟨hg,JQ⟩|⟨hg,JQ⟩
  .rw[Ae (MT KF hg)];unfold yi at JQ;split at JQ;.rename_i r hc;obtain⟨c,h2,hd,VK⟩:=cE JQ;exact .inl (G_ j hc hd KF λe d a' w' Ib=>next e d c h2 a' w' VK (aJb.trans ((zF hc hd).mono zH)) Ib)
   .cases JQ
  .rw[Aa (by rw[MT KF hg];simp)];exact next U Z _ h _ w JQ (aJb.trans (.put λs hs=>zH s (B4 _ hs))) (KF.put λ_ _=>rfl)
def tW{W:List Nat}{d:Option Nat}{σ σ':BT}(h:NZ d σ σ')(hd:∀s∈d.toList,s∈W):HZ W σ σ':=by
 unfold NZ at h;cases d with
 |none=>simp only at h;rw[h];exact .refl _ _
 |some d=>
  simp only at h;split at h;.obtain⟨b,_,rfl⟩:=h;exact .set (hd d AB)
  .rw[h];exact .refl _ _
def tX{ops:List Oper}{an:List Nat}{W:List Nat}(hW:∀o∈ops,∀s∈FO ops o,s∈W){fl:List Lk}{L:List St}{σ σf:BT}{h hf:Ai}(hs:Steps C fid ops run an fl L σ h σf hf):HZ W σ σf:=by
 induction hs with
 |nil=>exact .refl _ _
 |cons h1 _ _ ih=>
  refine HZ.trans ?_ ih;obtain⟨o,ho,⟨_,_,_,rfl,rfl⟩|⟨r,b,hg,hc,_,hd,_,ha⟩⟩:=h1;.exact .put λs hs=>hW o (CJ ho) s (B4 _ hs)
  .refine((zF hc hd).mono λs hs=>hW o (CJ ho) s hs).trans (tW ha λs hs=>?_);split at hs;.exact hW o (CJ ho) s (B4 _ hs)
   .simp at hs
def Yn(hm:C.P.follows .mixedOrders=true)(f:Ft C run){id:Nat}{ops:Array Oper}{draw:Bool}{Q:Exit->Act->World->Prop}{K:BT->IT}{R:KE}(AR:IT.step (Cf C) run (Tp C fid ops.toList draw σ K) h=some R)(hr:Df C U0 w0 U Z σ h a w)
  (hQ:∀d c σ' h' a' w',IT.step (Cf C) run (K σ') h'=some R->HZ (ops.toList.flatMap (FO ops.toList)++ops.toList.flatMap (FZ ops.toList)) σ σ'->Df C U0 w0 d c σ' h' a' w'->Q .normal a' w'):(Code.region id ops draw).wp C.P Q a w:=by
 unfold Tp at AR;cases draw with
 |false=>refine wp_region ?_;have:=zG (W:=ops.toList.flatMap (FO ops.toList)++ops.toList.flatMap (FZ ops.toList)) f ops.toList 0 U Z σ h a w rfl (λo ho=>⟨λs hs=>B4 _ (yE.2 ⟨o,ho,hs⟩),λs hs=>BJ _ (yE.2 ⟨o,ho,hs⟩)⟩) AR hr hQ;simpa[aMb] using this
 |true=>
  simp only[BN] at AR;split at AR
  .rename_i Gt;obtain⟨L,σf,hf,h1,h2,h3⟩:=SD AR;refine wp_region_any hm ?_;have b:=h2;unfold XQ at b;simp only[Uv,Bq,Bg] at b;have aJd:zE (XO ops.toList) L:=by have:=cV b.1;rw[aS9] at this;exact this
   have hlt:=h1.lt;have Wk:∀i,i<ops.size->i∈L.map (·.idx):=λi hi=>by have:=Eg.1 b.2 i (by simpa using hi);simpa using this
   have tH:(L.map (·.idx)).Nodup:=by rw[List.Nodup,aS9];exact aJd.imp λh=>h.1
   have hlen:L.length=ops.size:=by
    have k:(L.map (·.idx)).length<=(List.range ops.size).length:=PD tH (λi hi=>by obtain⟨s,hs,rfl⟩:=A5.1 hi;simpa using hlt s hs)
    have g:(List.range ops.size).length<=(L.map (·.idx)).length:=PD List.nodup_range λi hi=>Wk i (by simpa using hi);simp at k g;omega
   have qb:=tX (W:=ops.toList.flatMap (FO ops.toList)++ops.toList.flatMap (FZ ops.toList)) (λo ho s hs=>B4 _ (yE.2 ⟨o,ho,hs⟩)) h1;refine qq f Gt (λd c a' w' Ib=>hQ d c σf hf a' w' h3 qb Ib) ops.size L _ U Z σ h a w.drew hlen h1 aJd ⟨AB,λi hi=>⟨λ_=>Wk i hi,λ_=>by simp[Array.getD,hi]⟩,λj hj e _=>?_⟩ hr.drew;exfalso;rcases Bm j ops.size with hlt|JA
   .simp[Array.getD,hlt] at hj
   .simp[Array.getD,Nat.not_lt.2 JA] at hj
  .cases AR
end
end Go.Am
end
section
namespace Go.Am
open Go
def Rx(x y:ER):Prop:=
 (∃u,x.HT=some u/\y= .val u)\/(∃v,x= .BU v/\y= .BU v)\/∃ver cs ow GH Pe,x= .box ver cs ow/\y= .box GH cs Pe/\∀o∈Pe,o∈ow
def BT.Jf:∀(ws:List Nat) (σ:BT) (s:Nat),(σ.clear ws).at s=if s∈ws then .undef else σ.at s
 |[],σ,s=>by simp[BT.clear]
 |t::ws,σ,s=>by
  rw[BT.clear,BT.Jf ws];by_cases h:s∈ws;.simp[h]
  .by_cases h2:s=t
   .subst h2;rw[BT.Yh];by_cases hl:s<σ.length;.simp[hl]
    .have:σ.at s= .undef:=by simp[BT.at,List.getD,hl]
     simp[h,hl,this]
   .rw[BT.Gx λe=>h2 e.symm];simp[h,h2]
def BT.KR:∀(ws:List Nat) (σ:BT),(σ.clear ws).length=σ.length
 |[],σ=>rfl
 |t::ws,σ=>by rw[BT.clear,BT.KR ws];simp
section
variable{C:Gw}{U0 U:Gh}{w0 w:World}{Z:Nat->Nat}{σ:BT}{h:Ai}{a:Act}{fid:FuncId}{run:IT->Ai->Option KE}
def Rx.rel{B s:Nat}{x y:ER}{v:Value}(hx:MC U Z B w s x v)(hf:Rx x y):MC U Z B w s y v:=by
 rcases hf with⟨u,hu,rfl⟩|⟨u,rfl,rfl⟩|⟨ver,cs,ow,GH,Pe,rfl,rfl,Yl⟩
 .exact OE hx hu
 .exact hx
 .obtain⟨j,i,g,us,e,f,d,c,b⟩:=hx;exact⟨j,i,g,us,e,f,d,c,λo ho=>b o (Yl o ho)⟩
def VL{σs:BT}{G:BT->IT}{R:KE}{vs:List Ab}:∀{l:List (Nat×Sh)} {i:Nat} {σa:BT},XR σs l=some (vs.drop i)->σa.length=σs.length->IT.step (Cf C) run (Ki vs l i σa G) h=some R->
  ∃b,IT.step (Cf C) run (G b) h=some R/\b.length=σa.length/\(∀s,s∉l.map (·.1)->b.at s=σa.at s)/\(∀s,s∈l.map (·.1)->Rx (σs.at s) (b.at s)/\
   ((∃GH Hz Pe,b.at s= .box GH Hz Pe/\cB (σa.at s)<GH)\/∀ver cs ow,σs.at s≠ .box ver cs ow))
 |[],i,σa,_,_,hr=>⟨σa,hr,rfl,λ_ _=>rfl,AB⟩
 |(s,sh)::l,i,σa,hv,hl,hr=>by
  have hd:∃v Iy,vs.drop i=v::Iy/\vs.drop (i+1)=Iy/\vs.getD i .nilIface=v/\XR σs l=some Iy/\
    (match(generalizing:=false) sh,σs.at s with| .val,x=>x.HT| .BU,.BU v=>some v| .box n ow,.box _ cs Pe=>if cs.length=n/\ow.all (Pe.contains ·) then some (.agg cs) else none|_,_=>none)=some v:=by
   unfold XR at hv;simp only at hv;split at hv
   .rename_i v Iy h1 h2;simp only[BO] at hv;refine⟨v,Iy,hv.symm,?_,?_,h2,h1⟩;.have:=B6 (List.drop 1) hv;simpa[Ez] using this.symm
    .have:=B6 (·[0]?) hv;simp only[Jy,CE,BB] at this;simp[List.getD,<-this]
   .cases hv
  obtain⟨v,Iy,r,aNI,gB,WU,TH⟩:=hd;have hlt:s<σa.length:=by rw[hl];refine BT.Qx λe=>?_;rw[e] at TH;cases sh<;>simp[ER.HT] at TH
  have go:∀(y:ER),Rx (σs.at s) y->((∃GH Hz Pe,y= .box GH Hz Pe/\cB (σa.at s)<GH)\/∀ver cs ow,σs.at s≠ .box ver cs ow)->IT.step (Cf C) run (Ki vs l (i+1) (σa.set s y) G) h=some R->
    ∃b,IT.step (Cf C) run (G b) h=some R/\b.length=σa.length/\(∀t,t∉((s,sh)::l).map (·.1)->b.at t=σa.at t)/\(∀t,t∈((s,sh)::l).map (·.1)->Rx (σs.at t) (b.at t)/\
     ((∃GH Hz Pe,b.at t= .box GH Hz Pe/\cB (σa.at t)<GH)\/∀ver cs ow,σs.at t≠ .box ver cs ow)):=by
   intro y hy c Ib;obtain⟨b,q,p,j,m⟩:=VL (l:=l) (i:=i+1) (σa:=σa.set s y) (by rw[aNI];exact WU) (by simpa using hl) Ib;refine⟨b,q,by simpa using p,λt ht=>?_,λt ht=>?_⟩;.simp only[AV,AF,P5] at ht;rw[j t ht.2,BT.Gx λe=>ht.1 e.symm]
   .by_cases hm:t∈l.map (·.1)
    .obtain⟨g,k⟩:=m t hm;refine⟨g,k.imp (λ⟨GH,Hz,Pe,f,d⟩=>⟨GH,Hz,Pe,f,?_⟩) id⟩;by_cases fX:s=t
     .subst fX;rw[BT.FT hlt] at d;rcases c with⟨z,B,A,rfl,h1⟩|hn
      .simp only[cB] at d;omega
      .rcases g with⟨u,_,e⟩|⟨u,_,e⟩|⟨ver,cs,ow,_,_,e,_⟩
       .rw[f] at e;cases e
       .rw[f] at e;cases e
       .exact absurd e (hn _ _ _)
     .rwa [BT.Gx fX] at d
    .have fX:t=s:=by simp only[AV,AF] at ht;exact ht.resolve_right hm
     subst fX;rw[j t hm,BT.FT hlt];exact⟨hy,c⟩
  cases sh with
  |val=>
   simp only[Ki,gB] at hr;have O_:(σs.at s).HT=some v:=by simpa using TH
   refine go (.val v) (.inl ⟨v,O_,rfl⟩) (.inr λver cs ow e=>?_) hr;rw[e] at O_;cases O_
  |BU=>
   simp only[Ki,gB] at hr;cases hx:σs.at s with
   |BU u=>rw[hx] at TH;cases TH;exact go (.BU v) (.inr (.inl ⟨v,hx,rfl⟩)) (.inr λver cs ow e=>by rw[hx] at e;cases e) hr
   |_=>rw[hx] at TH;cases TH
  |box n ow=>
   simp only[Ki,gB,IT.step] at hr;cases hx:σs.at s with
   |box ver cs Pe=>
    rw[hx] at TH;simp only at TH;split at TH
    .rename_i Iz;cases TH;split at hr;.rename_i hn;rw[UN hn] at hr;refine go (.box (cB (σa.at s)+1) cs ow) (.inr (.inr ⟨ver,cs,Pe,_,ow,hx,rfl,λo ho=>?_⟩)) (.inl ⟨_,_,_,rfl,Uw _⟩) hr;have:=Eg.1 Iz.2 o ho;simpa using this
     .cases hr
    .cases TH
   |_=>rw[hx] at TH;cases TH
def Df.aEg(hr:Df C U0 w0 U Z σ h a w){O:BT}(hl:O.length=σ.length)(hs:∀s,O.at s= .undef\/O.at s=σ.at s\/Rx (σ.at s) (O.at s)):Df C U0 w0 U Z O h a w:=by
 refine⟨hr.Ee,⟨by rw[hl];exact hr.fr.size,λs=>?_⟩,hr.D8,hr.defers,hr.HO⟩;have h0:=hr.fr.IZ s;rcases hs s with e|e|e
 .rw[e];trivial
 .rw[e];exact h0
 .exact e.rel h0
structure P_(σ0:BT)(ws:List Nat)(l:List (Nat×Sh))(σ':BT)(vs:List Ab):Prop where
 vec:XR σ' l=some vs
 len:σ'.length=σ0.length
 same:∀s,s∉l.map (·.1)->σ0.at s= .undef\/σ0.at s=σ'.at s
 box:∀s ver cs ow,σ0.at s= .box ver cs ow->∃GH Hz Pe,σ'.at s= .box GH Hz Pe
def oH{σ0 σ':BT}{l:List (Nat×Sh)}(hk:sQ σ0 σ' l=true){s:Nat}(hs:s∉l.map (·.1)):(∀ver cs ow,σ0.at s= .box ver cs ow->∃Hz Pe,σ'.at s= .box ver Hz Pe)/\(∀t o,σ0.at s= .FD t o->∃t' o',σ'.at s= .FD t' o'):=by
 have hc:(l.map (·.1)).contains s=false:=by
  cases hc:(l.map (·.1)).contains s with
  |false=>rfl
  |true=>exact absurd (by simpa using hc) hs
 have xl:s<σ0.length->(match σ0.at s with
   | .box ver _ _=>(l.map (·.1)).contains s||(match σ'.at s with| .box GH _ _=>GH==ver|_=>false)
   | .FD _ _=>(l.map (·.1)).contains s||(match σ'.at s with| .FD _ _=>true|_=>false)
   |_=>true)=true:=λhl=>by
  unfold sQ at hk;exact Eg.1 hk s (by simpa using hl)
 constructor
 .intro ver cs ow hx;have:=xl (BT.Qx (by rw[hx];simp));rw[hx] at this;simp only[hc,Kg] at this;split at this
  .rename_i GH Hz Pe hy;have e:GH=ver:=by simpa using this
   subst e;exact⟨Hz,Pe,hy⟩
  .cases this
 .intro t o hx;have:=xl (BT.Qx (by rw[hx];simp));rw[hx] at this;simp only[hc,Kg] at this;split at this;.rename_i t' o' hy;exact⟨t',o',hy⟩
  .cases this
def QH{σ0 b σ':BT}{ws:List Nat}{l:List (Nat×Sh)}{x:GD}{R:KE}(Ww:IT.step (Cf C) run (Dw σ0 l x σ') h=some R)(qb:HZ ws b σ')(hlen:b.length=σ0.length)
  (Z7:∀s,s∈ws->σ0.at s= .undef) (OC:∀s,s∉l.map (·.1)->σ0.at s= .undef\/σ0.at s=b.at s) (aNJ:∀s ver cs ow,σ0.at s= .box ver cs ow->∃GH Hz Pe,b.at s= .box GH Hz Pe):
  ∃vs,R=(x,vs,h)/\P_ σ0 ws l σ' vs:=by
 unfold Dw at Ww;split at Ww
 .rename_i hk;split at Ww
  .rename_i vs hv;cases Ww;refine⟨vs,rfl,hv,qb.1.trans hlen,λs hs=>?_,λs ver cs ow hb=>?_⟩
   .by_cases hw:s∈ws;.exact .inl (Z7 s hw)
    .rcases OC s hs with e|e
     .exact .inl e
     .right;have UC:=qb.2 s hw;obtain⟨i,g⟩:=oH hk hs;rw[e] at i g⊢;cases hx:b.at s with
      |box ver cs ow=>rw[hx] at UC;obtain⟨m,p,n,c,_,d⟩:=UC;obtain⟨k,f,j⟩:=i ver cs ow hx;rw[c] at j;cases j;obtain⟨rfl,rfl⟩:=d rfl;exact c.symm
      |FD t o=>
       rw[hx] at UC;rcases UC with c|c
       .exact c.symm
       .obtain⟨t',o',d⟩:=g t o hx;rw[c] at d;cases d
      |_=>rw[hx] at UC;exact(show σ'.at s=_ from UC).symm
   .have hw:s∉ws:=λhw=>by rw[Z7 s hw] at hb;cases hb
    obtain⟨m,p,n,c⟩:=aNJ s ver cs ow hb;have UC:=qb.2 s hw;rw[c] at UC;obtain⟨v2,k,f,d,_⟩:=UC;exact⟨v2,k,f,d⟩
  .cases Ww
 .cases Ww
def P_.next{σ0 σ':BT}{ws:List Nat}{l:List (Nat×Sh)}{vs:List Ab}(he:P_ σ0 ws l σ' vs){G:BT->IT}{R:KE}(hr:Df C U0 w0 U Z σ' h a w)(AR:IT.step (Cf C) run (Ki vs l 0 σ0 G) h=some R):
  ∃b,IT.step (Cf C) run (G b) h=some R/\Df C U0 w0 U Z b h a w/\b.length=σ0.length/\(∀s,s∉l.map (·.1)->b.at s=σ0.at s)/\(∀s ver cs ow,σ0.at s= .box ver cs ow->∃GH Hz Pe,b.at s= .box GH Hz Pe/\(s∈l.map (·.1)->ver<GH)):=by
 obtain⟨b,i,f,c,d⟩:=VL (σs:=σ') (by simpa using he.vec) he.len.symm AR;refine⟨b,i,hr.aEg (f.trans he.len.symm) λs=>?_,f,c,λs ver cs ow hb=>?_⟩
 .by_cases hm:s∈l.map (·.1);.exact .inr (.inr (d s hm).1)
  .rw[c s hm];rcases he.same s hm with e|e
   .exact .inl e
   .exact .inr (.inl e)
 .by_cases hm:s∈l.map (·.1)
  .obtain⟨_,q⟩:=d s hm;obtain⟨m,o,n,k⟩:=he.box s ver cs ow hb;rcases q with⟨GH,Hz,Pe,j,g⟩|q
   .exact⟨GH,Hz,Pe,j,λ_=>by rw[hb] at g;exact g⟩
   .exact absurd k (q _ _ _)
  .exact⟨ver,cs,ow,by rw[c s hm];exact hb,λh=>absurd h hm⟩
def QI{σ σ0 b:BT}{ws W:List Nat}{l:List (Nat×Sh)}(h0:σ0=σ.clear ws)(hv:yj l ws σ=true)(hl:b.length=σ0.length)(h1:∀s,s∉l.map (·.1)->b.at s=σ0.at s)
  (h2:∀s ver cs ow,σ0.at s= .box ver cs ow->∃GH Hz Pe,b.at s= .box GH Hz Pe/\(s∈l.map (·.1)->ver<GH)) (hW:∀s∈ws,s∈W):HZ W σ b:=by
 refine⟨by rw[hl,h0,BT.KR],λs hs=>?_⟩;have Ų:s∉ws:=λhm=>hs (hW s hm);have e0:σ0.at s=σ.at s:=by rw[h0,BT.Jf,Aa Ų]
 by_cases hm:s∈l.map (·.1)
 .obtain⟨p,hp,rfl⟩:=A5.1 hm;have:=Eg.1 hv p hp;simp only[Kb,aII] at this;rcases this with this|this
  .exact absurd this Ų
  .cases hx:σ.at p.1 with
   |box ver cs ow=>obtain⟨c,i,d,g,f⟩:=h2 p.1 ver cs ow (by rw[e0];exact hx);have:=f hm;exact⟨c,i,d,g,Ac,λe=>Ac⟩
   |_=>rw[hx] at this;cases this
 .rw[h1 s hm,e0];exact .refl _
def Ft.le{n m:Nat}(h:Ft C (IT.run (Cf C) n))(b:m<=n):Ft C (IT.run (Cf C) m):=⟨h.1,λf args h0 r h' AR=>h.2 f args h0 r h' (IT.IL b AR)⟩
def Q_(hm:C.P.follows .mixedOrders=true):∀(c:Code) (n:Nat),Ft C (IT.run (Cf C) n)->∀{K:GD->BT->IT} {R:KE} {σ:BT} {h:Ai} {a:Act} {w:World} {U:Gh} {Z:Nat->Nat} {Q:Exit->Act->World->Prop},
  IT.step (Cf C) (IT.run (Cf C) n) (GI C fid c σ K) h=some R->Df C U0 w0 U Z σ h a w->
  (∀x f d σ' h' a' w',IT.step (Cf C) (IT.run (Cf C) n) (K x σ') h'=some R->HZ (De c++Cp c) σ σ'->Df C U0 w0 f d σ' h' a' w'->Q (N_ x) a' w')->c.wp C.P Q a w:=by
 intro c;induction c with
 |skip=>intro n p K R σ h a w U Z Q AR hr g;exact wp_skip (g .normal U Z σ h a w AR (.refl _ _) hr)
 |region id ops draw=>
  intro n p K R σ h a w U Z Q AR hr g;simp only[GI] at AR;split at AR;.exact Yn hm p AR hr λf d σ' h' a' w' h1 h2 h3=>g .normal f d σ' h' a' w' h1 h2 h3
  .rename_i l hl;unfold fR at AR;simp only at AR;split at AR
   .rename_i hv;simp only[IT.step] at AR;split at AR
    .rename_i x vs h1 Yo;refine Yn hm p Yo hr λf d σ' h' a' w' z u q=>?_;obtain⟨Iy,e,he⟩:=QH (h:=h') z u (by rw[BT.KR]) (λs hs=>by rw[BT.Jf,Ae hs]) (λs _=>by rw[BT.Jf];split<;>simp) (λs ver cs ow hb=>by
      rw[BT.Jf] at hb;split at hb;.cases hb
      .exact⟨ver,cs,ow,hb⟩)
     cases e;obtain⟨k,E,D,J,I,G⟩:=he.next q AR;exact g .normal f d k h1 a' w' E (QI rfl hv J I G (λs hs=>hs)) D
    .cases AR
   .cases AR
 |seq x y B A=>
  intro n p K R σ h a w U Z Q AR hr g;simp only[GI] at AR;refine wp_seq (B n p AR hr λe f d σ' h' a' w' h1 h2 h3=>?_);have up:∀j,HZ (De x++Cp x) σ j->HZ (De (.seq x y)++Cp (.seq x y)) σ j:=λj ho=>ho.mono λs hs=>by simp only[De,Cp,Ao] at hs⊢;rcases hs with hs|hs<;>simp[hs]
  cases e with
  |normal=>refine A n p h1 h3 λX U2 Z2 j mS a2 Y z u q=>g X U2 Z2 j mS a2 Y z ((up _ h2).trans (u.mono λs hs=>?_)) q;simp only[De,Cp,Ao] at hs⊢;rcases hs with hs|hs<;>simp[hs]
  |exit i=>exact g (.exit i) f d σ' h' a' w' h1 (up _ h2) h3
  |ret=>exact g .ret f d σ' h' a' w' h1 (up _ h2) h3
 |cond c x y B A=>
  intro n p K R σ h a w U Z Q AR hr g;have M:∀{o j:BT},HZ (De x++Cp x) o j->HZ (De (.cond c x y)++Cp (.cond c x y)) o j:=λ{o j} ho=>ho.mono λs hs=>by cases c<;>simp only[De,Cp,Ao,AF] at hs⊢<;>rcases hs with hs|hs<;>simp[hs]
  have L:∀{o j:BT},HZ (De y++Cp y) o j->HZ (De (.cond c x y)++Cp (.cond c x y)) o j:=λ{o j} ho=>ho.mono λs hs=>by cases c<;>simp only[De,Cp,Ao,AF] at hs⊢<;>rcases hs with hs|hs<;>simp[hs]
  simp only[GI] at AR;split at AR;.rename_i hc;obtain⟨s,h1,_⟩:=GJ hr hc;exact wp_cond_true h1 (B n p AR hr λe f d σ' h' a' w' z u q=>g e f d σ' h' a' w' z (M u) q)
  .rename_i hc;obtain⟨s,h1,_⟩:=GJ hr hc;exact wp_cond_false h1 (A n p AR hr λe f d σ' h' a' w' z u q=>g e f d σ' h' a' w' z (L u) q)
  .rename_i s v hc;have S:σ.at s= .val v:=HD hc;have h0:=hr.fr.IZ s;rw[S] at h0;have F:∀{O:GD->BT->IT} {R':KE} {Q':Exit->Act->World->Prop},IT.step (Cf C) (IT.run (Cf C) n) (.A0 v (GI C fid x (σ.set s (.Qk true)) O) (GI C fid y (σ.set s (.Qk false)) O)) h=some R'->
     (∀e f d σ' h' a' w',IT.step (Cf C) (IT.run (Cf C) n) (O e σ') h'=some R'->HZ (De (.cond (.tmp s) x y)++Cp (.cond (.tmp s) x y)) σ σ'->Df C U0 w0 f d σ' h' a' w'->Q' (N_ e) a' w')->(Code.cond (.tmp s) x y).wp C.P Q' a w:=by
    intro O R' Q' Ym N;have qm:∀b:Bool,HZ (De (.cond (.tmp s) x y)++Cp (.cond (.tmp s) x y)) σ (σ.set s (.Qk b)):=λb=> .set (by simp[Cp]);simp only[IT.step] at Ym;split at Ym;.have hv:a.eval (.tmp s)= .bool true:=h0;exact wp_cond_true hv (B n p Ym (hr.nE h0) λe f d σ' h' a' w' z u q=>N e f d σ' h' a' w' z ((qm true).trans (M u)) q)
    .have hv:a.eval (.tmp s)= .bool false:=h0;exact wp_cond_false hv (A n p Ym (hr.nE h0) λe f d σ' h' a' w' z u q=>N e f d σ' h' a' w' z ((qm false).trans (L u)) q)
    .cases Ym
   split at AR;.exact F AR g
   .rename_i l hl;unfold fR at AR;simp only at AR;split at AR
    .rename_i hv;simp only[IT.step] at AR;split at AR
     .rename_i e vs h1 Yo;refine F Yo λX f d σ' h' a' w' z u q=>?_;obtain⟨Iy,eq,he⟩:=QH (h:=h') (ws:=s::(De x++De y++Cp x++Cp y)) z (u.mono λt ht=>by
        simp only[De,Cp,Ao,AF] at ht⊢;rcases ht with(ht|ht)|ht|ht|ht<;>simp[ht]) (by rw[BT.KR]) (λt ht=>by rw[BT.Jf,Ae ht]) (λt _=>by rw[BT.Jf];split<;>simp) (λt ver cs ow hb=>by
       rw[BT.Jf] at hb;split at hb;.cases hb
       .exact⟨ver,cs,ow,hb⟩)
      cases eq;obtain⟨k,E,D,J,I,G⟩:=he.next q AR;exact g e f d k h1 a' w' E (QI rfl hv J I G (λt ht=>by simp only[De,Cp,Ao,AF] at ht⊢;rcases ht with ht|((ht|ht)|ht)|ht<;>simp[ht])) D
     .cases AR
    .cases AR
  .cases AR
 |block id b ih=>
  intro n p K R σ h a w U Z Q AR hr g;simp only[GI] at AR;refine wp_block (ih n p AR hr λe f d σ' h' a' w' h1 h2 h3=>?_);cases e with
  |normal=>exact g .normal f d σ' h' a' w' h1 h2 h3
  |exit i=>
   simp only at h1;show if i=id then Q .normal a' w' else Q (.exit i) a' w'
   by_cases hi:i=id;.rw[Ae hi] at h1⊢;exact g .normal f d σ' h' a' w' h1 h2 h3
   .rw[Aa hi] at h1⊢;exact g (.exit i) f d σ' h' a' w' h1 h2 h3
  |ret=>exact g .ret f d σ' h' a' w' h1 h2 h3
 |loop b ih=>
  intro n p K R σ h a w U Z Q AR hr g;simp only[GI] at AR;generalize hl:C.aDP fid ((Hl b).getD 0)=l at AR;generalize aTG:(Hl b).getD 0=key at AR;generalize h0:σ.clear (De b++Cp b)=σ0 at AR;split at AR
  .rename_i hv;split at AR;.cases AR
   .rename_i init aJe;have aJf:σ0.length=σ.length:=by rw[<-h0,BT.KR]
    have Z7:∀s,s∈De b++Cp b->σ0.at s= .undef:=λs hs=>by rw[<-h0,BT.Jf,Ae hs]
    refine gI (λm a w=>∃U Z o h vs,Df C U0 w0 U Z o h a w/\P_ σ0 (De b++Cp b) l o vs/\m<=n+1/\
     IT.run (Cf C) m (.loop key vs (λvs=>Ki vs l 0 σ0 λk=>GI C fid b k λx σ'=>Dw σ0 l x σ') λx vs=>Ki vs l 0 σ0 λσ'=>aCD K x σ') h=some R) ?_ (n+1) a w
     ⟨U,Z,σ,h,init,hr,⟨aJe,aJf.symm,λs _=>by rw[<-h0,BT.Jf];split<;>simp,λs ver cs ow hb=>by
      rw[<-h0,BT.Jf] at hb;split at hb;.cases hb
      .exact⟨ver,cs,ow,hb⟩⟩,Ad _,AR⟩
    rintro m a1 w1 ⟨U1,Z1,o,h1,vs,KF,T,hmn,JQ⟩;cases m with
    |zero=>simp[IT.run] at JQ
    |succ m=>
     simp only[IT.run,IT.step] at JQ;have body:∀{x:GD} {Iy:List Ab} {h':Ai},IT.step (Cf C) (IT.run (Cf C) m) (Ki vs l 0 σ0 λk=>GI C fid b k λx σ'=>Dw σ0 l x σ') h1=some (x,Iy,h')->∀{Q':Exit->Act->World->Prop},
       (∀f d σ' a' w',Df C U0 w0 f d σ' h' a' w'->P_ σ0 (De b++Cp b) l σ' Iy->Q' (N_ x) a' w')->b.wp C.P Q' a1 w1:=by
      intro x Iy h' hb Q' V;obtain⟨k,E,D,J,I,G⟩:=T.next KF hb;refine ih m (p.le Ac) E D λy f d σ' h2 a' w' z u q=>?_;obtain⟨vs2,eq,he⟩:=QH z u J Z7 (λs hs=> .inr (I s hs).symm) λs ver cs ow hb=>by obtain⟨v1,c1,o1,e1,_⟩:=G s ver cs ow hb;exact⟨v1,c1,o1,e1⟩
      cases eq;exact V f d σ' a' w' q he
     split at JQ;.rename_i Iy h' hb;exact body hb λf d σ' a' w' Ib oI=>⟨m,Uw m,f,d,σ',h',Iy,Ib,oI,Ac,JQ⟩
     .rename_i x Iy h' hne hb;refine body hb λf d σ' a' w' Ib oI=>?_;have VK:=IT.Kt (λt h r=>IT.IL (fn:=Cf C) (Ac:m<=n)) _ _ _ JQ;obtain⟨k,E,D,J,I,G⟩:=oI.next Ib VK;have ho:=QI h0.symm hv J I G λs hs=>hs;cases x with
      |normal=>exact absurd rfl hne
      |exit i=>exact g _ f d k h' a' w' E ho D
      |ret=>exact g _ f d k h' a' w' E ho D
     .cases JQ
  .cases AR
 |exit id=>intro n p K R σ h a w U Z Q AR hr g;exact wp_exit (g (.exit id) U Z σ h a w AR (.refl _ _) hr)
 |ret=>intro n p K R σ h a w U Z Q AR hr g;exact wp_ret (g .ret U Z σ h a w AR (.refl _ _) hr)
 |label l=>intro n p K R σ h a w U Z Q AR hr g;exact wp_label (g .normal U Z σ h a w AR (.refl _ _) hr)
 |scope b ih=>
  intro n p K R σ h a w U Z Q AR hr g;simp only[GI] at AR;refine wp_scope_straight (ih n p AR hr λe f d σ' h' a' w' h1 h2 h3=>?_);cases e with
  |normal=>exact g .normal f d σ' h' a' w' h1 h2 h3
  |exit i=>exact g (.exit i) f d σ' h' a' w' h1 h2 h3
  |ret=>exact g .ret f d σ' h' a' w' h1 h2 h3
 |_=>intros n p K R σ h a w U Z Q AR hr g;cases AR
end
end Go.Am
end
section
namespace Go.Am
open Go
section
variable{C:Gw}{U0 U:Gh}{w0 w:World}{Z:Nat->Nat}{σ:BT}{h:Ai}{a:Act}{fid:FuncId}{run:IT->Ai->Option KE}
def Jg(tmps:Array Value):ResultVar->Sem Value
 | .tmp t=>pure (tmps.getD t undef)
 | .cell a t=>do loadVar t (<-asAddr (tmps.getD a undef))
def TI{P:Program}{t:TypeId}{b o:Nat}{v:Value}(h:(Instr.loadAt t (.pointer (some ⟨b,o,none⟩))).run P w= .ok v w):(loadVar t ⟨b,o,none⟩).run P w= .ok v w:=by simpa[Instr.loadAt,Instr.sureAddr] using h
def VM{K:List Ab->IT}{R:KE}:∀{rs:List ResultVar} {D8:List Ab},IT.step (Cf C) run (Hd C σ rs D8 K) h=some R->Df C U0 w0 U Z σ h a w->
  ∃vs us,(rs.mapM (Jg a.tmps)).run C.P w= .ok us w/\Bc U vs us/\IT.step (Cf C) run (K (D8.reverse++vs)) h=some R
 |[],D8,AR,hr=>⟨[],[],AB,rfl,by simpa[Hd] using AR⟩
 |f::rs,D8,AR,hr=>by
  have one:∀(v:Ab) (u:Value),(Jg a.tmps f).run C.P w= .ok u w->BQ U v u->IT.step (Cf C) run (Hd C σ rs (v::D8) K) h=some R->
    ∃vs us,((f::rs).mapM (Jg a.tmps)).run C.P w= .ok us w/\Bc U vs us/\IT.step (Cf C) run (K (D8.reverse++vs)) h=some R:=by
   intro v u h1 h2 h3;obtain⟨vs,us,y,x,q⟩:=VM h3 hr;refine⟨v::vs,u::us,?_,⟨u,us,rfl,h2,x⟩,by simpa using q⟩;simp[List.mapM_cons,h1,y]
  cases f with
  |tmp t=>
   simp only[Hd] at AR;split at AR;.rename_i v hv;exact one v _ (by simp[Jg]) (OE (hr.fr.IZ t) hv) AR
   .cases AR
  |cell p t=>
   have c:∀(b o:Nat) (v:Ab),a.tmps.getD p undef= .pointer (some ⟨b,o,none⟩)->(∃u,(Instr.loadAt t (.pointer (some ⟨b,o,none⟩))).run C.P w= .ok u w/\BQ U v u)->IT.step (Cf C) run (Hd C σ rs (v::D8) K) h=some R->
     ∃vs us,((ResultVar.cell p t::rs).mapM (Jg a.tmps)).run C.P w= .ok us w/\Bc U vs us/\IT.step (Cf C) run (K (D8.reverse++vs)) h=some R:=by
    intro b o v hp ⟨u,h1,h2⟩ h3;refine one v u ?_ h2 h3;simp only[Jg,hp,asAddr,Sem.run_bind,Sem.run_pure,Result.andThen_ok];exact TI h1
   simp only[Hd] at AR;split at AR
   .rename_i s off ver cs ow ht ha;split at AR;.rename_i hlt;obtain⟨hs,hx⟩:=Mb hr ha;obtain⟨u,i,g,_⟩:=LW hr ht hs (r:=cs.getD off .nilIface) (off:=off) (by simp[FN,List.getD,Av hlt]);exact c _ _ _ hx ⟨u,i,g⟩ AR
    .cases AR
   .rename_i n s off ver cs ow ht ha;split at AR;.rename_i E0;obtain⟨hs,hx⟩:=Mb hr ha;obtain⟨u,i,g,_⟩:=LW hr ht hs (r:= .agg ((cs.drop off).take n)) (off:=off) (by simp[FN,E0]);exact c _ _ _ hx ⟨u,i,g⟩ AR
    .cases AR
   .rename_i n p' ht ha;simp only[IT.step] at AR;split at AR
    .rename_i v hv;have y7:=SA hr ha;unfold Bp at hv;split at hv;.rename_i cs;obtain⟨b,k,nV,hm⟩:=y7;obtain⟨us,l,d⟩:=hm.values;exact c b k v nV (Je (w:=w) ht l (λj u hj=>(hr.Ee.I6 _ _ _ (d j u hj)).1) (λu hu=>by obtain⟨j,hj⟩:=CU hu;exact(hr.Ee.I6 _ _ _ (d j u hj)).2.1) hv) AR
     .rename_i id off;obtain⟨b,hb,nV⟩:=y7;split at hv
      .rename_i cs hcs;obtain⟨us,e,fr,l,pf,d,m⟩:=hr.Ee.cells id cs hcs b hb;refine c b off v nV (Je (w:=w) (b:=b) (o:=off) ht (d.drop off) (λj u hj=>?_) (λu hu=>m u (A6 hu)) (QB hv)) AR;rw[cell_of_row w _ _ us e fr l];rw[CE,CA] at hj;split at hj;.simpa using hj
       .cases hj
      .cases hv
     .cases hv
    .cases AR
   .cases AR
def Df.Ja(hr:Df C U0 w0 U Z σ h a w){p:Ab}{off:Nat}{u:Value}{h':Ai}(hp:BQ U p u)(hf:Lq h off p=some h'):∃A,Df C U0 w0 A Z σ h' a w:=by
 unfold Lq at hf;split at hf;.cases hf;exact⟨U,hr⟩
 .rename_i id s;generalize s+off=o at hf;obtain⟨b,hb,_⟩:=hp;split at hf
  .rename_i cs hcs;split at hf
   .rename_i v hv;obtain⟨us,e,fr,c,pf,r,D⟩:=hr.Ee.cells id cs hcs b hb;obtain⟨x,hx,g⟩:=r.get hv;cases hq:L6 h v with
    |none=>rw[hq] at hf;cases hf
    |some q=>
     obtain⟨h1,v'⟩:=q;rw[hq] at hf;simp only[Cx] at hf;split at hf
     .rename_i Hz aJg;cases hf;obtain⟨U1,E0,KF,j⟩:=hr.UF g hq;have QJ:=E0.mu _ _ hb;obtain⟨l,E,t,k,m,r2,n⟩:=KF.Ee.cells id Hz aJg b QJ;rw[c] at k;cases k;have qm:Bc U1 (Hz.set o v') (us.toList.take (Hz.set o v').length):=by
       rw[Ci];refine Bc.HC (by simp[r2.length]) λi y z hy hz=>?_;by_cases hi:o=i
       .subst hi;by_cases hlt:o<Hz.length
        .rw[AI hlt] at hy;cases hy;have f:x=z:=by rw[CQ hlt] at hz;have aNL:o<cs.length:=(Aj.1 hv).1;rw[CQ aNL] at hx;rw[hx] at hz;exact Ff hz
         rw[<-f];exact j
        .rw[En (by simpa using hlt)] at hy;cases hy
       .rw[Aq hi] at hy;obtain⟨B,aE,d⟩:=r2.get hy;rw[hz] at aE;cases aE;exact d
      obtain⟨cQ,UR⟩:=OB KF.Ee aJg QJ c us (Hz.set o v') rfl m qm (by rw[Ci];exact n);rw[setRow_self w b us e fr c] at cQ UR;exact⟨U1,KF.JO cQ UR⟩
     .cases hf
   .cases hf
  .cases hf
 .cases hf
def zI{t:IT}{R:KE}:∀{l:List (Nat×Nat)} {U:Gh} {h:Ai},IT.step (Cf C) run (yP C σ l t) h=some R->Df C U0 w0 U Z σ h a w->∃b h',Df C U0 w0 b Z σ h' a w/\IT.step (Cf C) run t h'=some R
 |[],U,h,AR,hr=>⟨U,h,hr,AR⟩
 |(s,off)::l,U,h,AR,hr=>by
  simp only[yP] at AR;split at AR
  .rename_i p hp;simp only[IT.step] at AR;split at AR;.rename_i h1 hf;obtain⟨U1,KF⟩:=hr.Ja (OE (hr.fr.IZ s) hp) hf;exact zI AR KF
   .cases AR
  .cases AR
def Yp{R:KE}:∀{vs D8:List Ab} {U:Gh} {h:Ai} {us xe:List Value},IT.step (Cf C) run (Qv vs D8 Vy) h=some R->Df C U0 w0 U Z σ h a w->Bc U vs us->Bc U D8.reverse xe->
  ∃d h' Iy,Df C U0 w0 d Z σ h' a w/\Bc d Iy (xe++us)/\IT.step (Cf C) run (Vy Iy) h'=some R
 |[],D8,U,h,us,xe,AR,hr,h1,h2=>by rw[show us=[] from h1,A8];exact⟨U,h,D8.reverse,hr,h2,AR⟩
 |v::vs,D8,U,h,us,xe,AR,hr,h1,h2=>by
  obtain⟨u,DS,rfl,hv,h1⟩:=h1;simp only[Qv,IT.step] at AR;split at AR
  .rename_i h3 v' hf;obtain⟨U1,E0,KF,c⟩:=hr.UF hv hf;have j:Bc U1 (v'::D8).reverse (xe++[u]):=by rw[EX];exact(Bc.mono E0 _ _ h2).append ⟨u,[],rfl,c,rfl⟩
   obtain⟨k,i,b,g,f,e⟩:=Yp AR KF (Bc.mono E0 _ _ h1) j;exact⟨k,i,b,g,by rwa [A7] at f,e⟩
  .cases AR
def zJ{R:KE}{vs:List Ab}{us:List Value}{U:Gh}{h:Ai}(AR:IT.step (Cf C) run (Vy vs) h=some R)(hv:Bc U vs us):
  ∃r,R=(.ret,[r],h)/\BQ U r (if c:us.toArray.size=1 then us.toArray[0] else .tuple us.toArray):=by
 unfold Vy at AR;split at AR;.rename_i v;obtain⟨u,DS,rfl,b,hnil⟩:=hv;rw[show DS=[] from hnil];simp only[IT.step] at AR;cases AR;exact⟨v,rfl,by simpa using b⟩
 .rename_i hne;simp only[IT.step] at AR;cases AR;have hlen:us.length≠1:=λe=>by have:=hv.length;rw[e] at this;obtain⟨v,hv⟩:=aH8.1 this.symm;exact hne v hv
  refine⟨_,rfl,?_⟩;rw[dif_neg (by simpa using hlen)];exact⟨us.toArray,rfl,by simpa using hv⟩
def VN{fn:Func}{tmps:Array Value}{us:List Value}(h:(fn.results.toList.mapM (Jg tmps)).run C.P w= .ok us w):(results fn tmps).run C.P w= .ok (if b:us.toArray.size=1 then us.toArray[0] else .tuple us.toArray) w:=by
 have e:fn.results.mapM (Jg tmps)=(do let l<-fn.results.toList.mapM (Jg tmps);pure l.toArray:Sem (Array Value)):=by rw[Array.mapM_eq_mapM_toList];simp
 have c:results fn tmps=(do let vs<-fn.results.mapM (Jg tmps);pure (if b:vs.size=1 then vs[0] else .tuple vs):Sem Value):=by unfold results;congr 2
 rw[c,e];simp only[Sem.run_bind,h,Result.andThen_ok,Sem.run_pure]
def aAv{fn:Func}{R:KE}(AR:IT.step (Cf C) run (nD C fid fn σ) h=some R)(hr:Df C U0 w0 U Z σ h a w):
  ∃r h' v f,R=(.ret,[r],h')/\(results fn a.tmps).run C.P w= .ok v w/\It f h' w/\Nb U0 w0 f w/\BQ f r v/\(C.KK fid=true->∃s c,J1 f w0.heap.size w s c v r):=by
 unfold nD at AR;split at AR;.cases AR
 .rename_i F8;obtain⟨U1,h1,KF,JQ⟩:=zI AR hr;by_cases ho:C.KK fid=true
  .have g:∃t x,fn.results.toList=[.tmp t]/\σ.at t= .BU x:=by
    have:Rs σ fn.results.toList=true:=by
     cases hq:Rs σ fn.results.toList with
     |true=>rfl
     |false=>exact absurd (by simp[ho,hq]) F8
    unfold Rs at this;split at this
    .rename_i t Ld;split at this;.rename_i x hx;exact⟨t,x,Ld,hx⟩
     .cases this
    .cases this
   obtain⟨t,x,d,hx⟩:=g;have h0:=KF.fr.IZ t;rw[hx] at h0;have aAw:=VN (C:=C) (w:=w) (fn:=fn) (tmps:=a.tmps) (us:=[a.tmps.getD t undef]) (by rw[d];simp[Jg]);rw[d] at JQ;simp only[Hd,hx,ER.HT,EX,Uv,Bq] at JQ;have aJh:L6 h1 x=some (h1,x):=by rcases h0.2 with(rfl|⟨_,rfl⟩)|⟨_,_,_,_,_,_,_,rfl,_⟩<;>rfl
   have hR:R=(.ret,[x],h1):=by
    split at JQ;.simp only[Qv,IT.step,aJh,EX,Uv,Bq,Vy] at JQ;cases JQ;rfl
    .simp only[IT.step,Vy] at JQ;cases JQ;rfl
   exact⟨x,h1,_,U1,hR,by simpa using aAw,KF.Ee,KF.D8,h0.1,λ_=>⟨t,none,h0.2⟩⟩
  .obtain⟨vs,us,n,k,VK⟩:=VM JQ KF;simp only[Uv,Bq] at VK;have aAw:=VN (C:=C) n;split at VK;.obtain⟨o,h2,l,j,i,m⟩:=Yp VK KF k (xe:=[]) rfl;rw[Bq] at i;obtain⟨r,hR,b⟩:=zJ m i;exact⟨r,h2,_,o,hR,aAw,j.Ee,j.D8,b,λe=>absurd e ho⟩
   .obtain⟨r,hR,b⟩:=zJ VK k;exact⟨r,h1,_,U1,hR,aAw,KF.Ee,KF.D8,b,λe=>absurd e ho⟩
def Df.start{U:Gh}{h:Ai}{w:World}(hi:It U h w)(hg:∀g cs,C.HO g=some cs->C8 U cs g 0){args:List Ab}{cargs:Array Value}(ha:Bc U args cargs.toList)(n:Nat)(Z:Nat->Nat):
  Df C U w U Z (args.map .val++List.replicate (n-args.length) .undef) h {tmps:=cargs++Array.replicate (n-cargs.size) undef,defers:=[]} w:=by
 have hlen:cargs.size=args.length:=by have:=ha.length;simpa using this
 refine⟨hi,⟨by simp[hlen],λs=>?_⟩,Nb.refl U w,rfl,hg⟩;by_cases hs:s<args.length
 .have h1:BT.at (args.map .val++List.replicate (n-args.length) .undef) s= .val args[s]:=by simp[BT.at,List.getD,Al,hs]
  obtain⟨u,hu,hr⟩:=ha.get (Av hs);have h2:(cargs++Array.replicate (n-cargs.size) undef).getD s undef=u:=by
   rw[HI,Array.getElem?_append_left Ac];have:cargs[s]?=some u:=by simpa using hu
   rw[this];rfl
  rw[h1,h2];exact hr
 .have h1:BT.at (args.map .val++List.replicate (n-args.length) .undef) s= .undef:=by have hm:(args.map ER.val).length=args.length:=AB;simp only[BT.at,List.getD];rw[Bu Ac,List.getElem?_replicate];split<;>rfl
  rw[h1];trivial
def gK(C:Gw):Prop:=
 (∀f,C.Mw f=true->zo C f)/\∀(f:FuncId) (p:List Ab->IT),C.aDQ f=some p->∀n,Ft C (IT.run (Cf C) n)->∀(args:List Ab) (h:Ai) (r:Ab) (h':Ai),IT.step (Cf C) (IT.run (Cf C) n) (p args) h=some (.ret,[r],h')->
  (∃fn c,C.P.funcs[Fl f]?=some fn/\(fn.name== "runtime.NumGoroutine")=false/\fn.body=some c)/\
  ∀(U:Gh) (w:World) (cargs:Array Value),It U h w->(∀g cs,C.HO g=some cs->C8 U cs g 0)->Bc U args cargs.toList->
   Calls C.P (Fl f) cargs w λe w'=>match e with
    | .returned v=>∃b,It b h' w'/\Nb U w b w'/\BQ b r v/\(C.KK f=true->∃s c,J1 b w.heap.size w' s c v r)
    |_=>False
def oJ(hm:C.P.follows .mixedOrders=true)(d:∀g cs,C.HO g=some cs->cs.all Ab.NI=true)(ų:gK C):∀n,Ft C (IT.run (Cf C) n)
 |0=>⟨⟨d,ų.1⟩,λf args h r h' AR=>by simp[IT.run] at AR⟩
 |n+1=>⟨⟨d,ų.1⟩,λf args h r h' AR=>by
  have ih:=oJ hm d ų n;simp only[IT.run] at AR;unfold Cf at AR;split at AR;.rename_i p hp;exact ų.2 f p hp n ih args h r h' AR
  unfold aIP at AR;split at AR
  .rename_i fn hf;split at AR;.cases AR
   .rename_i hname;unfold yk at AR;split at AR;.cases AR
    .rename_i c hb;refine⟨⟨fn,c,hf,by simpa using hname,hb⟩,λU w cargs hi hg ha=>calls_of_wp hf hb ?_⟩;refine Q_ (C:=C) (fid:=f) hm c n ih AR (Df.start hi hg ha fn.ntmps (λ_=>0)) λx y u σ' h1 a' w' j _ k=>?_;have If:IT.step (Cf C) (IT.run (Cf C) n) (nD C f fn σ') h1=some (.ret,[r],h')->a'.defers=[]/\∃v,(results fn a'.tmps).run C.P w'= .ok v w'/\∃b,It b h' w'/\Nb U w b w'/\BQ b r v/\(C.KK f=true->∃s c,J1 b w.heap.size w' s c v r):=λaNO=>by obtain⟨r',h2,v,b,e,t,q,o,m,l⟩:=aAv aNO k;cases e;exact⟨k.defers,v,t,b,q,o,m,l⟩
     cases x with
     |normal=>exact If j
     |ret=>exact If j
     |exit i=>cases j
  .cases AR⟩
end
def Ev.calls{C:Gw}(hm:C.P.follows .mixedOrders=true)(c:∀g cs,C.HO g=some cs->cs.all Ab.NI=true)(ų:gK C){f:FuncId}{args:List Ab}{h:Ai}{Q:Ab->Ai->Prop}(Ql:Ev C f args h Q){U:Gh}{w:World}{cargs:Array Value}(hi:It U h w)(hg:∀g cs,C.HO g=some cs->C8 U cs g 0)(ha:Bc U args cargs.toList):
  Calls C.P (Fl f) cargs w λe w'=>match e with
   | .returned v=>∃r h' b,Q r h'/\It b h' w'/\Nb U w b w'/\BQ b r v
   |_=>False:=by
 obtain⟨n,x,vs,h',AR,rfl,r,rfl,hQ⟩:=Ql;refine(((oJ hm c ų n).2 f args h r h' AR).2 U w cargs hi hg ha).mono λe w' he=>?_;cases e with
 |returned v=>obtain⟨b,j,i,d,_⟩:=he;exact⟨r,h',b,hQ,j,i,d⟩
 |_=>exact he
end Go.Am
end
section
namespace Go.Am
open Go
inductive Ty where
 |bool
 |int (k:IntKind)
 |str
 |sl (e:Ty)
 |st (fs:List Ty)
 deriving Inhabited
mutual
def Ty.size:Ty->Nat
 | .bool| .int _| .str| .sl _=>1
 | .st fs=>Ty.N0 fs
def Ty.N0:List Ty->Nat
 |[]=>0
 |t::ts=>Ty.size t+Ty.N0 ts
end
mutual
def TJ(P:Program):Ty->TypeId->Bool
 | .bool,t=>match P.underlying t with|some .bool=>true|_=>false
 | .int k,t=>match P.underlying t with|some (.int k')=>decide (k'=k)|_=>false
 | .str,t=>match P.underlying t with|some .string=>true|_=>false
 | .sl e,t=>match P.underlying t with
  |some (.slice b)=>P.cellsOf b==Ty.size e&&decide (0<Ty.size e)&&TJ P e b
  |_=>false
 | .st fs,t=>match P.underlying t with
  |some (.struct fields)=>P.cellsOf t==Ty.N0 fs&&QK P fs fields.toList 0
  |_=>false
def QK(P:Program):List Ty->List Field->Nat->Bool
 |[],[],_=>true
 |ty::tys,f::fs,off=>f.offset==off&&P.cellsOf f.type==Ty.size ty&&TJ P ty f.type&&QK P tys fs (off+Ty.size ty)
 |_,_,_=>false
end
mutual
def R_:Ty->List Ab->Prop
 | .bool,l=>∃b,l=[.bool b]
 | .int k,l=>∃n,l=[.int k n]/\(Lit.int k n).wf=true
 | .str,l=>∃s:Ah,l=[.str s]/\s.length<=maxLen
 | .sl e,l=>l=[.slnil]\/∃Ay:List (List Ab),l=[.sl (Ty.size e) Ay]/\Ay.length<=maxLen/\∀r∈Ay,R_ e r
 | .st fs,l=>aEi fs l
def aEi:List Ty->List Ab->Prop
 |[],l=>l=[]
 |ty::tys,l=>∃a b,l=a++b/\R_ ty a/\aEi tys b
end
def Ty.aEj:Ty->Bool
 | .st _=>true
 |_=>false
def S_(ty:Ty)(a:Ab):Prop:=if ty.aEj then∃cs,a= .agg cs/\R_ ty cs else R_ ty [a]
def WZ:List Ty->List Ab->Prop
 |[],l=>l=[]
 |ty::tys,l=>∃a b,l=a::b/\S_ ty a/\WZ tys b
def GK(W:World):Gh:={I6:=λb o=>(W.cell? ⟨b,o,none⟩).filter (·.oneCell'),mu:=λ_=>none,BU:=λ_=>none,sz:=λ_=>none}
def T_(W:World):It (GK W) [] W:=by refine⟨λb o v h=>?_,λid x h=>by simp at h,λid cs h=>by simp at h,λid es h=>by simp at h,λid b h=>(by cases h),λb x h=>(by cases h),λb n h=>(by cases h)⟩;simp only[GK,RW] at h;exact⟨h.1,h.2,.inl rfl⟩
def UT{W:World}{b o:Nat}{v:Value}(h:W.cell? ⟨b,o,none⟩=some v)(h1:v.oneCell'=true):(GK W).I6 b o=some v:=by simp[GK,h,h1,Option.filter]
def VO{V:Type}{p:Nat->V->Prop}:∀(n:Nat),(∀i,i<n->∃x,p i x)->∃l:List V,l.length=n/\∀i x,l[i]?=some x->p i x
 |0,_=>⟨[],rfl,AB⟩
 |n+1,h=>by
  obtain⟨l,hl,hp⟩:=VO n λi hi=>h i Ac;obtain⟨x,hx⟩:=h n Ac;refine⟨l++[x],by simp[hl],λi y hy=>?_⟩;rw[aMa] at hy;split at hy;.exact hp i y hy
  .have:i-l.length=0:=by
    rcases Gr (i-l.length) with h0|h0
    .exact h0
    .rw[En EE] at hy;cases hy
   rw[this] at hy;simp at hy;subst hy;have:i=n:=Ac;rw[this];exact hx
section
variable{H:Type}{enc:TypeId×Value->H}{P:Program}{W:World}
def Sd{a:Addr}{n:Nat}{cs:List Value}(h:W.cells? 0 a n=some cs)(hn:0<n):a.spot=none:=by
 obtain⟨_,hl,hc⟩:=World.cells?_some h;have h0:=hc 0 hn;have hlt:0<cs.length:=Ac;rw[Av hlt] at h0;unfold World.cell? at h0;have ha:a.add 0=a:=by simp[Addr.add]
 rw[ha] at h0;split at h0
 .split at h0;.cases h0
  .rename_i hs;simpa using hs
 .cases h0
mutual
def gL:∀(ty:Ty) {t:TypeId} {fuel:Nat} {cs:List Value} {x:DataW H×List MemPlace},TJ P ty t=true->DataW.trod enc P W 0 (λ_=>true) true fuel t cs=some x->
  ∃as,R_ ty as/\Bc (GK W) as cs/\(∀u∈cs,u.oneCell'=true)/\as.length=Ty.size ty
 | .bool,t,fuel,cs,x,EV,h=>by
  unfold TJ at EV;split at EV;.rename_i ht;obtain⟨b,rfl,_⟩:=DataW.trod_bool ht h;exact⟨[.bool b],⟨b,rfl⟩,⟨_,[],rfl,rfl,rfl⟩,by simp[Value.oneCell'],rfl⟩
  .cases EV
 | .int k,t,fuel,cs,x,EV,h=>by
  unfold TJ at EV;split at EV
  .rename_i k' ht;have hk:k'=k:=by simpa using EV
   subst hk;obtain⟨n,rfl,_,hw⟩:=DataW.trod_int ht h;exact⟨[.int k' n],⟨n,rfl,hw⟩,⟨_,[],rfl,rfl,rfl⟩,by simp[Value.oneCell'],rfl⟩
  .cases EV
 | .str,t,fuel,cs,x,EV,h=>by
  unfold TJ at EV;split at EV
  .rename_i ht;obtain⟨s,rfl,_,hs⟩:=DataW.trod_string ht h;refine⟨[.str s.data.toList],⟨_,rfl,by
    have e:s.data.toList.length=s.size:=by rw[Cq];rfl
    rw[e];exact hs⟩,⟨_,[],rfl,?_,rfl⟩,by simp[Value.oneCell'],rfl⟩
   show Value.string s= .string ⟨⟨s.data.toList⟩⟩;congr 1
  .cases EV
 | .sl e,t,fuel,cs,x,EV,h=>by
  unfold TJ at EV;split at EV
  .rename_i A ht;simp only[Bg,Ŭ,CF] at EV;obtain⟨⟨hce,hpos⟩,aNP⟩:=EV;rcases DataW.trod_slice ht h with⟨rfl,_⟩|⟨a,len,cap,elems,rest,n,_,rfl,_,_,hl,hm,hlen,c,hsp,_⟩
   .exact⟨[.slnil],.inl rfl,⟨_,[],rfl,rfl,rfl⟩,by simp[Value.oneCell'],rfl⟩
   .have spot:0<cap->a.spot=none:=λhc=>by
     have ha:a.add 0=a:=by simp[Addr.add]
     rcases Gr len with h0|h0
     .obtain⟨KF,Ng⟩:=hsp rfl;have:=Ng 0 Ac;rw[Av (Ac:0<rest.length)] at this;have z:(len+0)*P.cellsOf A=0:=by rw[h0];simp
      rw[z,ha] at this;obtain⟨vs,hv,_⟩:=Ux.1 this;exact Sd hv Ac
     .have:=c 0 h0;rw[Av (Ac:0<elems.length)] at this;rw[NB,ha] at this;obtain⟨vs,hv,_⟩:=Ux.1 this;exact Sd hv Ac
    obtain⟨Ay,tL,nZ⟩:=VO (p:=λi (r:List Ab)=>R_ e r/\r.length=Ty.size e/\C8 (GK W) r a.block (a.off+i*Ty.size e)) len λi hi=>by
     have:=c i hi;rw[Av (Ac:i<elems.length)] at this;obtain⟨vs,hv,hd⟩:=Ux.1 this;obtain⟨r,m,g,d,l⟩:=gL e aNP hd;refine⟨r,m,l,C8.HC λj y hj=>?_⟩;obtain⟨u,hu,q⟩:=g.get hj;obtain⟨_,hvl,v⟩:=World.cells?_some hv;have sH:j<P.cellsOf A:=by have:=(Aj.1 hu).1;omega
     have hc:=v j sH;rw[hu] at hc;have sZ:a=⟨a.block,a.off,none⟩:=by have:=spot Ac;cases a;simp_all
     have Nf:(a.add (i*P.cellsOf A)).add j=⟨a.block,a.off+i*Ty.size e+j,none⟩:=by rw[hce];generalize a.block=b at*;generalize a.off=o at*;subst sZ;rw[Addr.add_lit,Addr.add_lit]
     rw[Nf] at hc;exact⟨u,UT hc (d u (CJ hu)),q⟩
    refine⟨[.sl (Ty.size e) Ay],.inr ⟨Ay,rfl,Ac,λr hr=>?_⟩,⟨_,[],rfl,⟨a,cap,by rw[tL],Ac,?_,Fj.HC λi r hr=>?_⟩,rfl⟩,by simp[Value.oneCell'],rfl⟩;.obtain⟨i,hi⟩:=CU hr;exact(nZ i r hi).1
    .rcases Gr cap with h0|h0
     .exact .inr h0
     .exact .inl (spot h0)
    .exact⟨(nZ i r hr).2.1,(nZ i r hr).2.2⟩
  .cases EV
 | .st fs,t,fuel,cs,x,EV,h=>by
  unfold TJ at EV;split at EV
  .rename_i fields ht;simp only[Bg,Ŭ] at EV;obtain⟨hct,hf⟩:=EV;obtain⟨xs,n,_,_,hcl,B,Wk⟩:=DataW.trod_struct ht h;obtain⟨as,m,g,d,l⟩:=VP fs (fields:=fields.toList) (off:=0) (cs:=cs) (n:=n) hf (λi f hi=>by
    have:=Wk i f (by simpa using hi);have hlt:i<fields.size:=by have:=(Aj.1 hi).1;simpa using this
    rw[Av (Ac:i<xs.length)] at this;exact⟨_,this⟩) (by rw[hcl,hct];omega)
   have D:(cs.drop 0).take (Ty.N0 fs)=cs:=by rw[K8];exact Bf (by rw[hcl,hct];exact Ad _)
   rw[D] at g d;exact⟨as,m,g,d,l⟩
  .cases EV
def VP:∀(tys:List Ty) {fields:List Field} {off:Nat} {cs:List Value} {n:Nat},QK P tys fields off=true->
  (∀(i:Nat) (f:Field),fields[i]?=some f->∃y,DataW.trod enc P W 0 (λ_=>true) true n f.type ((cs.drop f.offset).take (P.cellsOf f.type))=some y)->off+Ty.N0 tys<=cs.length->
  ∃as,aEi tys as/\Bc (GK W) as ((cs.drop off).take (Ty.N0 tys))/\(∀u∈(cs.drop off).take (Ty.N0 tys),u.oneCell'=true)/\as.length=Ty.N0 tys
 |[],fields,off,cs,n,EV,h,hl=>by refine⟨[],rfl,?_,?_,rfl⟩<;>simp[Ty.N0,Bc]
 |ty::tys,fields,off,cs,n,EV,h,hl=>by
  cases fields with
  |nil=>simp[QK] at EV
  |cons f fs=>
   simp only[QK,Bg,Ŭ] at EV;obtain⟨⟨⟨ho,hc⟩,cG⟩,C_⟩:=EV;obtain⟨y,hy⟩:=h 0 f rfl;rw[ho,hc] at hy;obtain⟨as,m,l,k,j⟩:=gL ty cG hy;simp only[Ty.N0] at hl;obtain⟨bs,e,d,c,b⟩:=VP tys C_ (λi g hi=>h (i+1) g (by simpa using hi)) Ac;have o:(cs.drop off).take (Ty.N0 (ty::tys))=(cs.drop off).take (Ty.size ty)++(cs.drop (off+Ty.size ty)).take (Ty.N0 tys):=by simp only[Ty.N0];rw[aCt,Ez]
   rw[o];refine⟨as++bs,⟨as,bs,rfl,m,e⟩,l.append d,λu hu=>?_,by simp[j,b,Ty.N0]⟩;rcases Ao.1 hu with hu|hu
   .exact k u hu
   .exact c u hu
end
def gM{ty:Ty}{t:TypeId}{v:Value}{base:Nat}(EV:TJ P ty t=true)(hv:Value.okWide P W .any base t v):if ty.aEj then∃cs,v= .agg cs else v.cells=#[v]:=by
 cases ty with
 |st fs=>
  unfold TJ at EV;split at EV;.rename_i fields ht;unfold Value.okWide at hv;rw[ht] at hv;obtain⟨cs,e,_⟩:=hv;exact⟨cs,e⟩
  .cases EV
 |_=>
  unfold TJ at EV;split at EV;.rename_i ht;unfold Value.okWide at hv;rw[ht] at hv;simp only[Cell.okWide,ht,Cell.ok] at hv;cases v<;>first|rfl|exact hv.elim
  .cases EV
def cW:∀{tys:List Ty} {ts:List TypeId} {vs:List Value} {ds:List (DataW H)} {ps:List MemPlace} {base:Nat},DataW.TrodAll enc P W 0 (λ_=>true) true ts vs ds ps->tys.length=ts.length->(∀(i:Nat) (ty:Ty) (t:TypeId),tys[i]?=some ty->ts[i]?=some t->TJ P ty t=true)->
  (∀(i:Nat) (t:TypeId) (v:Value),ts[i]?=some t->vs[i]?=some v->Value.okWide P W .any base t v)->∃as,WZ tys as/\Bc (GK W) as vs
 |[],[],[],[],_,_,_,_,_,_=>⟨[],rfl,rfl⟩
 |ty::tys,t::ts,v::vs,d::ds,ps,base,⟨p,q,⟨fuel,h1⟩,h2,_⟩,hl,EV,RT=>by
  have cG:=EV 0 ty t rfl rfl;obtain⟨cells,f,b,k,l⟩:=gL ty cG h1;obtain⟨bs,j,g⟩:=cW h2 (by simpa using hl) (λi ty t h h'=>EV (i+1) ty t (by simpa using h) (by simpa using h')) (λi t v h h'=>RT (i+1) t v (by simpa using h) (by simpa using h'));have hc:=gM cG (RT 0 t v rfl rfl);have:∃a,S_ ty a/\BQ (GK W) a v:=by
   by_cases JZ:ty.aEj=true;.rw[Ae JZ] at hc;obtain⟨us,rfl⟩:=hc;exact⟨.agg cells,(by unfold S_;rw[Ae JZ];exact⟨cells,rfl,f⟩),us,rfl,by simpa[Value.cells] using b,by simpa[Value.cells] using k⟩
   .rw[Aa JZ] at hc;rw[hc] at b;obtain⟨u,us,e,hu,hnil⟩:∃c Hz,cells=c::Hz/\BQ (GK W) c v/\Hz=[]:=by
     cases cells with
     |nil=>cases b
     |cons c Hz=>obtain⟨u,DS,e,h1,h2⟩:=b;simp at e;obtain⟨rfl,rfl⟩:=e;exact⟨c,Hz,rfl,h1,by cases Hz with|nil=>rfl|cons _ _=>obtain⟨_,_,e,_⟩:=h2;cases e⟩
    subst hnil;subst e;exact⟨u,(by unfold S_;rw[Aa JZ];exact f),hu⟩
  obtain⟨a,ha,hr⟩:=this;exact⟨a::bs,⟨a,bs,rfl,ha,j⟩,⟨v,vs,rfl,hr,g⟩⟩
 |[],_::_,_,_,_,_,_,hl,_,_=>by simp at hl
 |_::_,[],_,_,_,_,_,hl,_,_=>by simp at hl
 |[],[],_::_,_,_,_,h,_,_,_=>by cases h
 |[],[],[],_::_,_,_,h,_,_,_=>by cases h
 |_::_,_::_,[],_,_,_,h,_,_,_=>by cases h
 |_::_,_::_,_::_,[],_,_,h,_,_,_=>by cases h
def Yq{W':World}{may:MemPlace->Prop}(h1:W'.os=W.os)(h2:W'.output=W.output)(hb:∀i,i<W.heap.size->W'.heap[i]?=W.heap[i]?):W.keptBut W' may:=by
 refine⟨h1,h2,λi hi=>?_⟩;rw[hb i hi];split;.rename_i c t fr c' t' pd d b;rw[d] at b;cases b;exact⟨rfl,rfl,rfl,λ_ _=>rfl⟩
 .rename_i d b;rw[d] at b;cases b;exact .inr ⟨rfl,rfl⟩
 .rfl
def Se(hl:laidOutB P=true){W':World}(hb:RowKit.Below W.heap.size W W'):∀{ts:List TypeId} {vs:List Value} {ds:List (DataW H)} {ps:List MemPlace},(∀t∈ts,P.readableRec t=true/\t<P.types.size)->
  DataW.TrodAll enc P W 0 (λ_=>true) true ts vs ds ps->(∀x∈ps,x.block<W.heap.size)->DataW.TrodAll enc P W' 0 (λb=>decide (b<W.heap.size)) true ts vs ds ps
 |[],[],[],ps,_,h,_=>h
 |t::ts,v::vs,d::ds,ps,fX,⟨p,q,h1,h2,e⟩,hlt=>by subst e;have ht:=fX t AB;exact⟨p,q,RowKit.Below.trod hl ht.1 ht.2 h1 hb λx hx=>hlt x (B4 _ hx),Se hl hb (λt' h'=>fX t' (by simp[h'])) h2 λx hx=>hlt x (BJ _ hx),rfl⟩
 |[],[],_::_,_,_,h,_=>by cases h
 |[],_::_,_,_,_,h,_=>by cases h
 |_::_,[],_,_,_,h,_=>by cases h
 |_::_,_::_,[],_,_,h,_=>by cases h
end
def gN{C:Gw}(hm:C.P.follows .mixedOrders=true)(o:∀g cs,C.HO g=some cs->cs.all Ab.NI=true)(ų:gK C)(hl:laidOutB C.P=true){f:FuncId}{fn:Func}{rt:TypeId}(l:f<=99999)(k:fn.resultTypes=#[rt])(m:C.P.underlying rt=some .bool){tys:List Ty}(hlen:tys.length=fn.params.size)
  (aNQ:∀(i:Nat) (ty:Ty) (t:TypeId),tys[i]?=some ty->fn.params[i]?=some t->TJ C.P ty t=true) (aJi:∀t∈fn.params.toList,C.P.readableRec t=true/\t<C.P.types.size)
  (Ql:∀as,WZ tys as->Ev C f as [] λr _=>r= .bool true) {s:ChangeSpec} (c:s.vars=[])
  {H:Type} (y9:∀ds:List (DataW H),ds.length=fn.params.size->s.fn H ds={results:=[.lit (.bool true)],args:=ds})
  {enc:TypeId×Value->H} {W:World} {base:Nat} {args:Array Value} {ds gs:List (DataW H)} {before:List MemPlace} (hg:∀g cs,C.HO g=some cs->C8 (GK W) cs g 0)
  (RT:∀(j:Nat) (t:TypeId) (v:Value),fn.params[j]?=some t->args[j]?=some v->Value.okWide C.P W .any base t v) (hW:DataW.Whole enc C.P fn.params.toList s.vars false W args.toList ds gs before):
  Calls C.P f args W λe W'=>∃v,e= .returned v/\s.post enc C.P fn false true false false W args v W':=by
 have u:=hW;have hlt:=hW.lt;obtain⟨p,q,z,y,rfl,hfz,tH⟩:=hW;rw[c] at y;have n:gs=[]/\q=[]:=by
  cases gs with
  |nil=>exact⟨rfl,y⟩
  |cons _ _=>cases y
 obtain⟨rfl,rfl⟩:=n;obtain⟨as,U_,UR⟩:=cW z (by simpa using hlen) (λi ty t h h'=>aNQ i ty t h (by simpa using h')) (λi t v h h'=>RT i t v (by simpa using h) (by simpa using h'));have tV:ds.length=fn.params.size:=by
  have key:∀{ts:List TypeId} {vs:List Value} {ds:List (DataW H)} {ps:List MemPlace},DataW.TrodAll enc C.P W 0 (λ_=>true) true ts vs ds ps->ds.length=ts.length:=by
   intro ts;induction ts with
   |nil=>intro vs ds ps h;cases vs<;>cases ds<;>first|rfl|cases h
   |cons t ts ih=>
    intro vs ds ps h;cases vs with
    |nil=>cases h
    |cons v vs=>
     cases ds with
     |nil=>cases h
     |cons d ds=>obtain⟨_,_,_,h2,_⟩:=h;simp[ih h2]
  simpa using key z
 have WX:=(Ql as U_).calls hm o ų (T_ W) hg UR;rw[show Fl f=f from Ae l] at WX;refine WX.mono λe W' he=>?_;cases e with
 |returned v=>
  obtain⟨r,h',A,rfl,hi,KQ,hv⟩:=he;have hvb:v= .bool true:=hv;subst hvb;have hold:∀i,i<W.heap.size->W'.heap[i]?=W.heap[i]?:=λi z_=>(KQ.Pm i z_ λid h0=>by cases h0).1;have b:RowKit.Below W.heap.size W W':=⟨KQ.os,KQ.tape,KQ.output,KQ.size,hold⟩;refine⟨_,rfl,ds,[],p++[],[],p,[],u,?_,?_,?_,Yq KQ.os KQ.output hold,λh0=>by cases h0⟩;.rw[A8,y9 ds tV,k];exact⟨[],[],RowKit.shut_bool m true,rfl,rfl⟩
  .rw[A8,y9 ds tV];exact Se hl b aJi z λx hx=>hlt x (by simpa using hx)
  .rw[A8,y9 ds tV,c];rfl
 |_=>exact he.elim
end Go.Am
end
