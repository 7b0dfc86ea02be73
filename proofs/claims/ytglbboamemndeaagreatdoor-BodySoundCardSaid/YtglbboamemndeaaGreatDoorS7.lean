/- Lemmas -/
import Derived.Scope
import Derived.Test.YtglbboamemndeaaGreatDoorS6
import Derived.Carry
import Derived.ReadAgain
set_option linter.all false
section
namespace Go.Am
open Go
def Þ(x y:Ec):Prop:=
 match x with
 | .box ver cs ow=>∃FU GB NN,y= .box FU GB NN/\ver<=FU/\(FU=ver->GB=cs/\NN=ow)
 | .EY t o=>y= .EY t o\/y= .undef
 |x=>y=x
def Þ.refl(x:Ec):Þ x x:=by
 cases x with
 |box ver cs ow=>exact⟨ver,cs,ow,rfl,Ab _,λ_=>⟨rfl,rfl⟩⟩
 |EY t o=>exact .inl rfl
 |_=>rfl
def Þ.trans{x y z:Ec}(h:Þ x y)(k:Þ y z):Þ x z:=by
 cases x with
 |box ver cs ow=>obtain⟨b,m,l,rfl,h1,h2⟩:=h;obtain⟨v2,j,c,rfl,f,d⟩:=k;refine⟨v2,j,c,rfl,Bn h1 f,λe=>?_⟩;have i:b=ver:=Ac;have g:v2=b:=Ac;obtain⟨rfl,rfl⟩:=d g;exact h2 i
 |EY t o=>
  rcases h with rfl|rfl
  .exact k
  .exact .inr k
 |_=>rw[show y=_ from h] at k;exact k
def FL(W:List Nat)(σ O:BF):Prop:=O.length=σ.length/\∀s,s∉W->Þ (σ.at s) (O.at s)
def FL.refl(W:List Nat)(σ:BF):FL W σ σ:=⟨rfl,λ_ _=> .refl _⟩
def FL.trans{W:List Nat}{σ O J:BF}(h:FL W σ O)(k:FL W O J):FL W σ J:=⟨k.1.trans h.1,λs hs=>(h.2 s hs).trans (k.2 s hs)⟩
def FL.mono{W W':List Nat}{σ O:BF}(h:FL W σ O)(hw:∀s∈W,s∈W'):FL W' σ O:=⟨h.1,λs hs=>h.2 s λhm=>hs (hw s hm)⟩
def FL.set{W:List Nat}{σ:BF}{s:Nat}{x:Ec}(hs:s∈W):FL W σ (σ.set s x):=
 ⟨Ax,λt ht=>by rw[BF.FJ λe=>ht (by rw[<-e];exact hs)];exact .refl _⟩
def FL.put{W:List Nat}{σ:BF}{d:Option Nat}{x:Ec}(hs:∀s∈d.toList,s∈W):FL W σ (σ.put d x):=by
 cases d with
 |none=>exact .refl _ _
 |some d=>exact .set (hs d Ax)
section
variable{C:Fx}{fid:FuncId}{ops:List Oper}{run:IT->Ai->Option Ju}{σ σ':BF}{h h':Ai}{W:List Nat}
def FL.drop(σ:BF)(ds:List Nat):FL W σ (σ.drop ds):=by
 refine⟨BF.length_drop σ ds,λs _=>?_⟩;rw[BF.RP];cases hx:σ.at s with
 |EY t o=>
  simp only
  split;.exact .inr rfl
  .exact .inl rfl
 |_=>exact .refl _
def qQ{r:Eu}{ds:List Nat}(hd:r.Nd C run (σ.drop ds) h σ' h')(hw:∀s∈r.wf,s∈W):FL W σ σ':=by obtain⟨ws,rfl,h1,_⟩:=ZA hd;refine(FL.drop σ ds).trans ⟨BF.Jm ws _,λs hs=>?_⟩;rw[BF.Gn ws _ s λp hp e=>hs (hw s (by rw[<-e];exact h1 p hp))];exact .refl _
def P3{x:Operand}{d:Nat}{take:Bool}{r:Eu}(h:Kl C σ x d take=some r):∀s∈r.wf,s=d\/(take=true/\x= .tmp s):=by
 unfold Kl at h;split at h;.cases h;simp[Eu.wf]
 .cases h;simp[Eu.wf]
 .split at h
  .rename_i ht;cases h;intro s hs;simp only[Eu.wf,BW,Aq] at hs;rcases hs with hs|hs
   .revert hs;generalize b:RC _ _=c;intro hs;unfold RC at b;split at b;.subst b;simp at hs;exact .inr ⟨ht,by rw[hs]⟩
    .subst b;simp at hs
   .exact .inl (by simpa using hs)
  .cases hc:H6 _ with
   |none=>rw[hc] at h;cases h
   |some sl=>rw[hc] at h;cases h;simp[Eu.wf]
 .cases hc:H6 _ with
  |none=>rw[hc] at h;cases h
  |some sl=>rw[hc] at h;cases h;simp[Eu.wf]
 .cases h
def RW{x:Operand}{p:Nat×Aa}(h:C3 σ x=some p):x= .tmp p.1:=by
 cases x with
 |tmp t=>
  simp only[C3] at h;cases hx:σ.at t with
  |BI v=>rw[hx] at h;cases h;rfl
  |_=>rw[hx] at h;cases h
 |_=>cases h
def lV{t:TypeId}{v:Aa}{d:Nat}{r:Eu}(h:TY C fid t v d=some r):r.wf=[d]:=by
 unfold TY at h;split at h;.cases h
 .split at h;.cases h
  .split at h<;>(cases h;rfl)
def MT:∀{xs:List Operand} {vs:List Aa} {fz:List (Nat×List Aa)},FQ C σ xs=some (vs,fz)->∀p∈fz,p.1∈JD xs
 |[],vs,fz,hc=>by cases hc;simp
 |x::xs,vs,fz,hc=>by
  unfold FQ at hc;split at hc;.cases hc
  .rename_i HB c b;have ih:=MT b;have up:∀p∈c,p.1∈JD (x::xs):=λp hp=>by obtain⟨y,hy,he⟩:=B8.1 (ih p hp);exact B8.2 ⟨y,Yu _ hy,he⟩
   split at hc
   .rename_i s ver cs ow hs;split at hc;.cases hc
    .cases hc;intro p hp;rcases AF.1 hp with rfl|hp
     .simp[JD]
     .exact up p hp
   .rename_i sl _ hs;cases hv:sl.GW with
    |none=>rw[hv] at hc;cases hc
    |some u=>rw[hv] at hc;cases hc;exact up
   .cases hc
def wH{o:Oper}{r:Eu}(hc:FT C fid ops σ o=some r)(hd:r.Nd C run (σ.drop r.news) h σ' h'):FL (Ee ops o) σ σ':=by
 have RV:∀s∈o.dst.toList,s∈Ee ops o:=λs hs=>Cs _ hs
 have hwf:(∀s∈r.wf,s∈Ee ops o)->FL (Ee ops o) σ σ':=qQ hd
 have Yw:r.wf=o.dst.toList->FL (Ee ops o) σ σ':=λe=>hwf (by rw[e];exact RV)
 have Ua:∀{m x},Tc m o.dst x=some r->FL (Ee ops o) σ σ':=λ{m x} he=>by
  obtain⟨_,_,rfl⟩:=Ha he
  exact Yw rfl
 have Hm:∀{p x},Tb p o.dst x=some r->FL (Ee ops o) σ σ':=λ{p x} he=>by
  obtain⟨args,_,rfl⟩:=DG he
  exact Yw (by simp[Eu.wf])
 unfold FT at hc
 split at hc
 .rename_i x ho
  split at hc
  .rename_i d FI
   refine hwf λs hs=>?_
   rcases P3 hc s hs with rfl|⟨ht,rfl⟩
   .exact RV s (by rw[FI];simp)
   .refine BG _ ?_
    simp[ho,FI,ht]
  .cases hc
 .rename_i x ho
  split at hc
  .rename_i d FI
   refine hwf λs hs=>?_
   rcases P3 hc s hs with rfl|⟨ht,rfl⟩
   .exact RV s (by rw[FI];simp)
   .refine BG _ ?_
    simp[ho]
  .cases hc
 .rename_i c x y ho
  split at hc
  .rename_i d _ FI
   refine hwf λs hs=>?_
   rcases P3 hc s hs with rfl|⟨ht,rfl⟩
   .exact RV s (by rw[FI];simp)
   .cases ht
  .rename_i d _ FI
   refine hwf λs hs=>?_
   rcases P3 hc s hs with rfl|⟨ht,rfl⟩
   .exact RV s (by rw[FI];simp)
   .cases ht
  .exact Hm hc
 .split at hc
  .rename_i d z FI hz
   split at hc
   .split at hc
    .cases hc;exact Yw (by rw[FI];rfl)
    .cases hc
   .exact Yw (by rw[lV hc,FI];rfl)
  .cases hc
 .split at hc
  .rename_i d v FI hz
   exact Yw (by rw[lV hc,FI];rfl)
  .cases hc
 .split at hc
  .split at hc
   .exact Hm hc
   .cases hc
  .cases hc
 .split at hc
  .split at hc
   .split at hc
    .split at hc
     .cases hc;exact Yw (by simp[Eu.wf])
     .cases ha:Bq C σ _ with
      |none=>rw[ha] at hc;cases hc
      |some args=>rw[ha] at hc;cases hc;exact Yw (by simp[Eu.wf])
    .cases hc
   .cases hc
  .cases hc
 .split at hc
  .rename_i d FI
   unfold Ld at hc
   split at hc
   .cases hc;exact Yw (by rw[FI];rfl)
   .rename_i s off ver cs ow ht ha
    split at hc
    .simp only at hc
     split at hc
     .cases hc
      rw[NV Ax] at hd
      obtain⟨rfl,rfl⟩:=hd
      have hs:σ.at s= .box ver cs ow:=by
       unfold FO at ha
       split at ha
       .rename_i hs;cases ha;exact GF hs
       .split at ha
        .rename_i hb;cases ha;exact hb
        .cases ha
       .exact absurd ha (by cases hv:Ec.GW _<;>simp)
       .cases ha
      refine⟨by simp[BF.drop,BF.D4],λt b=>?_⟩
      have f:t≠d:=λe=>b (RV t (by rw[FI,e];simp))
      have wv:s<σ.length:=BF.O7 (by rw[hs];simp)
      show Þ (σ.at t) (BF.at ((σ.set s _).set d _) t)
      rw[BF.FJ (λe=>f e.symm)]
      by_cases aX:s=t
      .subst aX
       rw[BF.Fa wv,hs]
       exact⟨_,_,_,rfl,Fj _,λe=>absurd e Ac⟩
      .rw[BF.FJ aX];exact .refl _
     .cases hc;exact Yw (by rw[FI];rfl)
    .cases hc
   .split at hc
    .cases hc;exact Yw (by rw[FI];rfl)
    .cases hc
   .cases hc
  .cases hc
 .rename_i t x y ho
  split at hc
  .rename_i FI
   unfold I1 at hc
   split at hc
   .cases hc;exact hwf (by simp[Eu.wf])
   .rename_i m g s off ver cs ow v K8 o9 ha hv
    split at hc
    .cases hc
     obtain⟨_,rfl,rfl⟩:=hd
     have hs:σ.at s= .box ver cs ow:=by
      unfold FO at ha
      split at ha
      .rename_i hs;cases ha;exact GF hs
      .split at ha
       .rename_i hb;cases ha;exact hb
       .cases ha
      .exact absurd ha (by cases hv:Ec.GW _<;>simp)
      .cases ha
     have YI:∀(D:Option (Nat×Aa)),(∀p,D=some p->p.1∈Ee ops o/\p.1≠s)->∀X:List Aa×List Nat,FL (Ee ops o) σ ((σ.Dr D).set s (.box (ver+1) X.1 X.2)):=by
      intro D j X
      refine⟨by cases D<;>simp[BF.Dr],λt b=>?_⟩
      have hlen:s<(σ.Dr D).length:=by
       have:s<σ.length:=BF.O7 (by rw[hs];simp)
       cases D<;>simpa[BF.Dr] using this
      by_cases aX:s=t
      .subst aX
       rw[BF.Fa hlen,hs]
       exact⟨_,_,_,rfl,Fj _,λe=>absurd e Ac⟩
      .rw[BF.FJ aX]
       cases D with
       |none=>exact .refl _
       |some p=>
        obtain⟨i,k⟩:=j p rfl
        simp only[BF.Dr]
        rw[BF.FJ (λe=>b (by rw[<-e];exact i))]
        exact .refl _
     refine YI _ (λp hp=>?_) (_,_)
     split at hp
     .have hy:=RW hp
      subst hy
      refine⟨BG _ (by simp[ho]),λe=>?_⟩
      simp only[C3] at hp
      rw[e,hs] at hp
      cases hp
     .cases hp
    .cases hc
   .cases hc
  .cases hc
 .split at hc
  .rename_i FI _ _
   cases hc;exact Yw (by rw[FI];rfl)
  .rename_i FI _ _
   cases hc;exact Yw (by rw[FI];rfl)
  .exact Hm hc
 .split at hc
  .exact Hm hc
  .cases hc
 .exact Hm hc
 .split at hc
  .cases hv:EK C σ _ with
   |none=>rw[hv] at hc;cases hc
   |some v=>rw[hv] at hc;cases hc;exact Yw rfl
  .split at hc
   .cases hv:EK C σ _ with
    |none=>rw[hv] at hc;cases hc
    |some v=>rw[hv] at hc;cases hc;exact Yw rfl
   .exact Hm hc
  .exact Hm hc
  .cases hc
 .rename_i fn first captured ho
  split at hc
  .rename_i d as bs fz FI ha hb
   cases hc
   refine hwf λs hs=>?_
   simp only[Eu.wf,AF] at hs
   rcases hs with rfl|hs
   .exact RV s (by rw[FI];simp)
   .obtain⟨p,hp,rfl⟩:=A4.1 hs
    refine BG _ ?_
    simp only[ho]
    exact MT hb p hp
  .cases hc
 .cases hc;exact Yw rfl
 .split at hc
  .split at hc
   .cases hc;exact Yw rfl
   .cases hc
  .cases hc
 .split at hc
  .split at hc
   .cases hc;exact hwf (by simp[Eu.wf])
   .cases hc;exact hwf (by simp[Eu.wf])
   .cases hc
  .cases hc
 .split at hc
  .split at hc
   .cases hc;exact hwf (by simp[Eu.wf])
   .cases hc;exact hwf (by simp[Eu.wf])
   .cases hc
  .cases hc
 .split at hc
  .split at hc
   .cases hc;exact Yw rfl
   .cases hc;exact Yw rfl
   .cases hc
  .cases hc
 .split at hc
  .split at hc
   .exact Ua hc
   .cases hc
  .cases hc
 .split at hc
  .cases hc
  .exact Ua hc
  .cases hc
 .split at hc
  .split at hc<;>first|exact Ua hc|cases hc
  .cases hc
 .split at hc
  .rename_i FI
   exact Ua (by rw[FI];exact hc)
  .cases hc
 .split at hc
  .exact Hm hc
  .split at hc
   .split at hc
    .exact Ua hc
    .exact Hm hc
   .cases hc
  .cases hc
 .split at hc
  .rename_i off g d hf FI
   split at hc
   .cases hc;exact Yw (by rw[FI];rfl)
   .cases hc;exact Yw (by rw[FI];rfl)
   .exact Hm (by rw[FI];exact hc)
  .cases hc
 .split at hc
  .exact Hm hc
  .cases hc
 .split at hc
  .split at hc
   .exact Hm hc
   .cases hc
  .split at hc
   .split at hc
    .cases hc
    .exact Hm hc
   .cases hc
  .cases hc
 .split at hc
  .exact Hm hc
  .split at hc
   .exact Hm hc
   .cases hc
  .cases hc
 .exact Hm hc
 .rename_i c ho
  unfold QZ at hc
  split at hc
  .split at hc
   .split at hc
    .exact Hm hc
    .exact Hm hc
    .cases hc
   .cases hc
  .rename_i hcl
   split at hc
   .rename_i t t' s x h0 h1 Ey
    have YI:∀p,C3 σ s=some p->p.1∈Ee ops o:=λp hp=>by
     have:=RW hp
     subst this
     refine BG _ ?_
     simp only[ho,hcl,Ey]
     simp[JD]
    split at hc
    all_goals first
     |(cases hc;done)
     | (split at hc
        . split at hc
          . split at hc
            . split at hc
              . split at hc
                . cases hc
                  refine hwf fun q hq => ?_
                  simp only [Eu.wf, Aq] at hq
                  rcases hq with hq | hq
                  . exact RV q hq
                  . cases qR : C3 σ s with
                    | none => rw [qR] at hq; simp at hq
                    | some p => rw [qR] at hq; simp at hq; rw [hq]; exact YI p qR
                . split at hc
                  . cases hc
                    refine hwf fun q hq => ?_
                    simp only [Eu.wf, Aq] at hq
                    rcases hq with hq | hq
                    . exact RV q hq
                    . cases qR : C3 σ s with
                      | none => rw [qR] at hq; simp at hq
                      | some p => rw [qR] at hq; simp at hq; rw [hq]; exact YI p qR
                  . cases hc
                    refine hwf fun q hq => ?_
                    simp only [Eu.wf, Aq] at hq
                    rcases hq with hq | hq
                    . exact RV q hq
                    . cases qR : C3 σ s with
                      | none => rw [qR] at hq; simp at hq
                      | some p => rw [qR] at hq; simp at hq; rw [hq]; exact YI p qR
              . split at hc
                . cases hc
                  refine hwf fun q hq => RV q (by simpa [Eu.wf] using hq)
                . cases hc
            . cases hc
          . cases hc
        . cases hc)
   .cases hc
  .split at hc
   .split at hc
    all_goals first
     |(cases hc;done)
     | (split at hc
        . exact Ua hc
        . cases hc)
   .cases hc
  .split at hc
   .split at hc
    .split at hc
     .exact Ua hc
     .cases hc
    .cases hc
   .cases hc
  .split at hc
   .exact Hm hc
   .cases hc
  .split at hc
   .exact Hm hc
   .cases hc
  .split at hc
   .split at hc
    .split at hc
     .exact Ua hc
     .cases hc
    .cases hc
   split at hc
   .cases ha:Bq C σ c.args.toList with
    |none=>rw[ha] at hc;cases hc
    |some args=>
     rw[ha] at hc
     simp only[BJ,Bx] at hc
     split at hc<;>(cases hc;exact Yw rfl)
   .cases hc
  .split at hc
   .cases hc;exact Yw rfl
   .cases hc
  .cases hc
 .cases hc
end
end Go.Am
end
section
namespace Go.Am
open Go
def lq:DV->Exit
 | .normal=> .normal
 | .exit i=> .exit i
 | .ret=> .ret
def N6:∀{l m:List Nat},l.Nodup->(∀x∈l,x∈m)->l.length<=m.length
 |[],_,_,_=>Bc _
 |x::l,m,hn,hs=>by have hx:=hs x Ax;have h1:=N6 (l:=l) (m:=m.erase x) (BV.1 hn).2 λy hy=>(List.mem_erase_of_ne λe=>(BV.1 hn).1 (by rw[<-e];exact hy)).2 (hs y (by simp[hy]));rw[List.length_erase_of_mem hx] at h1;have:0<m.length:=List.length_pos_of_mem hx;simp;omega
def bI{P:Program}{c:Code}{Q:Exit->Act->World->Prop}(T:Nat->Act->World->Prop)(round:∀n a w,T n a w->c.wp P (Exit.then (λa' w'=>∃m,m<n/\T m a' w') Q) a w)(n:Nat)(a:Act)(w:World)(h0:T n a w):(Code.loop c).wp P Q a w:=by
 intro b k cs;have key:∀n a w,T n a w->∃e a' w',Q e a' w'/\Arrives P (lone (b.at a (.code c:: .inLoop c::k)) cs w) b k cs e a' w':=by
  intro n;induction n using Nat.strongRecOn with
  |_ n ih=>
   intro a w i;obtain⟨e,a1,w1,hq,xn⟩:=round n a w i b (.inLoop c::k) cs;by_cases he:e= .normal;.subst he;obtain⟨m,hm,d⟩:=hq;obtain⟨j,a2,f,g,r2⟩:=ih m hm a1 w1 d;exact⟨j,a2,f,g,.of_steps (Go.Steps.trans xn (.one step_inLoop)) r2⟩
   .exact⟨e,a1,w1,by cases e<;>first|exact hq|exact absurd rfl he,.pass (x:= .inLoop c) rfl (λ_ _=> .inl he) xn⟩
 obtain⟨e,a',w',hq,xn⟩:=key n a w h0;exact⟨e,a',w',hq,.of_steps (.one step_loop) xn⟩
section
variable{C:Fx}{U0 U:Gh}{w0 w:World}{Z:Nat->Nat}{σ:BF}{h:Ai}{a:Act}{fid:FuncId}{run:IT->Ai->Option Ju}
def bJ{ops:List Oper}{o:Oper}{K:BF->IT}{R:Ju}(hr:IT.step (BZ C) run (Td C fid ops σ o K) h=some R):
  ∃d,(d=σ\/∃s b,s∈Ff ops o/\σ.at s= .val (.bool b)/\d=σ.set s (.OQ b))/\
   ((Ip ops d o= .Na true/\IT.step (BZ C) run (ij C fid ops d o K) h=some R)\/(Ip ops d o= .Na false/\IT.step (BZ C) run (K (d.put o.dst .skip)) h=some R)):=by
 unfold Td at hr;split at hr;.rename_i hg;exact⟨σ,.inl rfl,.inl ⟨hg,hr⟩⟩
 .rename_i hg;exact⟨σ,.inl rfl,.inr ⟨hg,hr⟩⟩
 .rename_i s v want hg;have Ĳ:s∈Ff ops o/\σ.at s= .val v/\∀b,Ip ops (σ.set s (.OQ b)) o= .Na (b==want):=by
   unfold Ip at hg⊢;unfold Ff;cases ho:o.guard with
   |none=>rw[ho] at hg;cases hg
   |some g=>
    obtain⟨j,want'⟩:=g;rw[ho] at hg;simp only at hg⊢;cases hd:(ops[j]?).bind (·.dst) with
    |none=>rw[hd] at hg;cases hg
    |some s'=>
     rw[hd] at hg;simp only at hg⊢;cases hx:σ.at s' with
     |val v'=>rw[hx] at hg;cases hg;refine⟨Ax,hx,λb=>?_⟩;rw[BF.Fa (BF.O7 (by rw[hx];simp))]
     |OQ c=>rw[hx] at hg;cases hg
     |skip=>rw[hx] at hg;cases hg
     |_=>rw[hx] at hg;cases hg
  obtain⟨g1,g2,g3⟩:=Ĳ;simp only[IT.step] at hr;split at hr
  .refine⟨σ.set s (.OQ true),.inr ⟨s,true,g1,g2,rfl⟩,?_⟩;rw[g3];cases want with
   |true=>exact .inl ⟨rfl,hr⟩
   |false=>exact .inr ⟨rfl,hr⟩
  .refine⟨σ.set s (.OQ false),.inr ⟨s,false,g1,g2,rfl⟩,?_⟩;rw[g3];cases want with
   |true=>exact .inr ⟨rfl,hr⟩
   |false=>exact .inl ⟨rfl,hr⟩
  .cases hr
 .cases hr
def ao(a:Act){ops:List Oper}{o:Oper}:(∀p∈RE C σ o,∃ver ow,σ.at p.1= .box ver p.2 ow)/\((RE C σ o).map (·.1)).Nodup/\∀p∈RE C σ o,p.1∈Ee ops o:=by
 have no:∀l:List (Nat×List Aa),l=[]->(∀p∈l,∃ver ow,σ.at p.1= .box ver p.2 ow)/\(l.map (·.1)).Nodup/\∀p∈l,p.1∈Ee ops o:=by rintro l rfl;exact⟨(λp hp=>nomatch hp),Mf,λp hp=>nomatch hp⟩
 cases ho:o.op with
 |call c=>
  cases hc:c.callee with
  |value g=>
   cases g with
   |func f=>
    cases hf:Te f with
    |true=>
     cases hx:FQ C σ c.args.toList with
     |some q=>
      obtain⟨vs,fz⟩:=q;have e:RE C σ o=fz:=by unfold RE;simp only[ho,hc,hf,hx,BE]
      rw[e];obtain⟨h1,h2,_⟩:=MS (a:=a) hx;refine⟨h1,h2,λp hp=>BG _ ?_⟩;simp only[ho,hc,hf,BE];exact MT hx p hp
     |none=>exact no _ (by unfold RE;simp only[ho,hc,hf,hx,BE])
    |false=>exact no _ (by unfold RE;simp[ho,hc,hf])
   |_=>exact no _ (by unfold RE;simp only[ho,hc])
  |_=>exact no _ (by unfold RE;simp only[ho,hc])
 |_=>exact no _ (by unfold RE;simp only[ho])
def FL.D4{W:List Nat}:∀{l:List (Nat×Ec)} {σ:BF},(∀p∈l,p.1∈W)->FL W σ (σ.D4 l)
 |[],σ,_=> .refl _ _
 |(s,x)::l,σ,h=>(FL.set (h (s,x) Ax)).trans (FL.D4 λp hp=>h p (by simp[hp]))
def ls{ops:List Oper}{o:Oper}{W:List Nat}(hr:CW C U0 w0 U Z σ h a w)(hw:∀s∈Ee ops o,s∈W):∃b,CW C U0 w0 b Z (ĝ C σ o) h a w/\FL W σ (ĝ C σ o):=by
 obtain⟨h1,h2,c⟩:=ao (C:=C) (σ:=σ) a (ops:=ops) (o:=o);obtain⟨b,_,Hn,_⟩:=(hr.drop ((RE C σ o).map (·.1))).Tj (fz:=RE C σ o) (λp hp=>by obtain⟨ver,ow,hs⟩:=h1 p hp;exact⟨ver,ow,by rw[BF.RP,hs]⟩) h2
 refine⟨b,Hn,(FL.drop σ _).trans (FL.D4 λp hp=>?_)⟩;obtain⟨q,hq,rfl⟩:=A4.1 hp;exact hw _ (c q hq)
def wI(m:EV C run){ops:Array Oper}{Q:Exit->Act->World->Prop}{W:List Nat}{K:BF->IT}{R:Ju}:∀(rest:List Oper) (k:Nat) (U:Gh) (Z:Nat->Nat) (σ:BF) (h:Ai) (a:Act) (w:World),
  ops.toList.drop k=rest->(∀o∈rest,(∀s∈Ee ops.toList o,s∈W)/\∀s∈Ff ops.toList o,s∈W)->IT.step (BZ C) run (vM C fid ops.toList rest σ K) h=some R->CW C U0 w0 U Z σ h a w->
  (∀g f σ' h' a' w',IT.step (BZ C) run (K σ') h'=some R->FL W σ σ'->CW C U0 w0 g f σ' h' a' w'->Q .normal a' w')->wpOps C.P ops Q (List.range' k rest.length) a w
 |[],k,U,Z,σ,h,a,w,_,_,AH,hr,hQ=>by simp only[Bk,List.range'_zero,wpOps];exact hQ U Z σ h a w AH (.refl _ _) hr
 |o::rest,k,U,Z,σ,h,a,w,hk,hW,AH,hr,hQ=>by
  have ho:ops[k]?=some o:=by
   have:ops.toList[k]?=some o:=by have h0:=Cm (·[0]?) hk;simpa[Cn] using h0
   simpa using this
  have l:ops.toList.drop (k+1)=rest:=by have h0:=Cm (List.drop 1) hk;simpa[ED] using h0
  obtain⟨qS,k_⟩:=hW o Ax;simp only[AG,List.range'_succ,wpOps,ho];obtain⟨U1,e,c⟩:=ls hr qS;obtain⟨i,j,IB⟩:=bJ AH;have Jv:CW C U0 w0 U1 Z i h a w/\FL W σ i:=by
   rcases j with rfl|⟨s,b,g1,g2,rfl⟩
   .exact⟨e,c⟩
   .have h0:=e.fr.HT s;rw[g2] at h0;exact⟨e.kS h0,c.trans (.set (k_ s g1))⟩
  obtain⟨Jv,aCa⟩:=Jv;have next:∀g f σ' h' a' w',IT.step (BZ C) run (vM C fid ops.toList rest σ' K) h'=some R->FL W σ σ'->CW C U0 w0 g f σ' h' a' w'->wpOps C.P ops Q (List.range' (k+1) rest.length) a' w':=λg f σ' h' a' w' WH zT Hn=>wI m rest (k+1) g f σ' h' a' w' l (λo ho=>hW o (by simp[ho])) WH Hn λq p d h2 a2 n Lu aGS aCb=>hQ q p d h2 a2 n Lu (zT.trans aGS) aCb
  rcases IB with⟨hg,IC⟩|⟨hg,IC⟩
  .rw[Ag (Lx Jv hg)];unfold ij at IC;split at IC;.rename_i r hc;obtain⟨d,h2,hd,Ub⟩:=Zl IC;exact .inl (kz m hc hd Jv λg f a' w' Hn=>next g f d h2 a' w' Ub (aCa.trans ((wH hc hd).mono qS)) Hn)
   .cases IC
  .rw[Af (by rw[Lx Jv hg];simp)];exact next U1 Z _ h _ w IC (aCa.trans (.put λs hs=>qS s (Cs _ hs))) (Jv.put λ_ _=>rfl)
def qT{W:List Nat}{d:Option Nat}{σ σ':BF}(h:Mu d σ σ')(hd:∀s∈d.toList,s∈W):FL W σ σ':=by
 unfold Mu at h;cases d with
 |none=>simp only at h;rw[h];exact .refl _ _
 |some d=>
  simp only at h;split at h;.obtain⟨b,_,rfl⟩:=h;exact .set (hd d Ax)
  .rw[h];exact .refl _ _
def qU{ops:List Oper}{an:List Nat}{W:List Nat}(hW:∀o∈ops,∀s∈Ee ops o,s∈W){fl:List Kg}{L:List St}{σ σf:BF}{h hf:Ai}(hs:Steps C fid ops run an fl L σ h σf hf):FL W σ σf:=by
 induction hs with
 |nil=>exact .refl _ _
 |cons h1 _ _ ih=>
  refine FL.trans ?_ ih;obtain⟨o,ho,⟨_,_,_,rfl,rfl⟩|⟨r,b,hg,hc,_,hd,_,ha⟩⟩:=h1;.exact .put λs hs=>hW o (Cr ho) s (Cs _ hs)
  .refine((wH hc hd).mono λs hs=>hW o (Cr ho) s hs).trans (qT ha λs hs=>?_);split at hs;.exact hW o (Cr ho) s (Cs _ hs)
   .simp at hs
def WI(hm:C.P.follows .mixedOrders=true)(f:EV C run){id:Nat}{ops:Array Oper}{draw:Bool}{Q:Exit->Act->World->Prop}{K:BF->IT}{R:Ju}(AH:IT.step (BZ C) run (RH C fid ops.toList draw σ K) h=some R)(hr:CW C U0 w0 U Z σ h a w)
  (hQ:∀d c σ' h' a' w',IT.step (BZ C) run (K σ') h'=some R->FL (ops.toList.flatMap (Ee ops.toList)++ops.toList.flatMap (Ff ops.toList)) σ σ'->CW C U0 w0 d c σ' h' a' w'->Q .normal a' w'):(Code.region id ops draw).wp C.P Q a w:=by
 unfold RH at AH;cases draw with
 |false=>refine wp_region ?_;have:=wI (W:=ops.toList.flatMap (Ee ops.toList)++ops.toList.flatMap (Ff ops.toList)) f ops.toList 0 U Z σ h a w rfl (λo ho=>⟨λs hs=>Cs _ (vD.2 ⟨o,ho,hs⟩),λs hs=>BG _ (vD.2 ⟨o,ho,hs⟩)⟩) AH hr hQ;simpa[aFv] using this
 |true=>
  simp only[BE] at AH;split at AH
  .rename_i FI;obtain⟨L,σf,hf,h1,h2,l⟩:=Q9 AH;refine wp_region_any hm ?_;have ĳ:=h2;unfold Wa at ĳ;simp only[SY,BR,A7] at ĳ;have aCc:wG (V8 ops.toList) L:=by have:=ZC ĳ.1;rw[aLs] at this;exact this
   have hlt:=h1.lt;have aS:∀i,i<ops.size->i∈L.map (·.idx):=λi hi=>by have:=DK.1 ĳ.2 i (by simpa using hi);simpa using this
   have b:(L.map (·.idx)).Nodup:=by rw[List.Nodup,aLs];exact aCc.imp λh=>h.1
   have hlen:L.length=ops.size:=by
    have k:(L.map (·.idx)).length<=(List.range ops.size).length:=N6 b (λi hi=>by obtain⟨s,hs,rfl⟩:=A4.1 hi;simpa using hlt s hs)
    have g:(List.range ops.size).length<=(L.map (·.idx)).length:=N6 List.nodup_range λi hi=>aS i (by simpa using hi);simp at k g;omega
   have zT:=qU (W:=ops.toList.flatMap (Ee ops.toList)++ops.toList.flatMap (Ff ops.toList)) (λo ho s hs=>Cs _ (vD.2 ⟨o,ho,hs⟩)) h1;refine ak f FI (λd c a' w' Hn=>hQ d c σf hf a' w' l zT Hn) ops.size L _ U Z σ h a w.drew hlen h1 aCc ⟨Ax,λi hi=>⟨λ_=>aS i hi,λ_=>by simp[Array.getD,hi]⟩,λj hj e _=>?_⟩ hr.drew;exfalso;rcases Bl j ops.size with hlt|GS
   .simp[Array.getD,hlt] at hj
   .simp[Array.getD,Nat.not_lt.2 GS] at hj
  .cases AH
end
end Go.Am
end
section
namespace Go.Am
open Go
def P4(x y:Ec):Prop:=
 (∃u,x.GW=some u/\y= .val u)\/(∃v,x= .BI v/\y= .BI v)\/∃ver cs ow FU NN,x= .box ver cs ow/\y= .box FU cs NN/\∀o∈NN,o∈ow
def BF.H8:∀(ws:List Nat) (σ:BF) (s:Nat),(σ.clear ws).at s=if s∈ws then .undef else σ.at s
 |[],σ,s=>by simp[BF.clear]
 |t::ws,σ,s=>by
  rw[BF.clear,BF.H8 ws];by_cases h:s∈ws;.simp[h]
  .by_cases h2:s=t
   .subst h2;rw[BF.WB];by_cases hl:s<σ.length;.simp[hl]
    .have:σ.at s= .undef:=by simp[BF.at,List.getD,hl]
     simp[h,hl,this]
   .rw[BF.FJ λe=>h2 e.symm];simp[h,h2]
def BF.JJ:∀(ws:List Nat) (σ:BF),(σ.clear ws).length=σ.length
 |[],σ=>rfl
 |t::ws,σ=>by rw[BF.clear,BF.JJ ws];simp
section
variable{C:Fx}{U0 U:Gh}{w0 w:World}{Z:Nat->Nat}{σ:BF}{h:Ai}{a:Act}{fid:FuncId}{run:IT->Ai->Option Ju}
def P4.rel{B s:Nat}{x y:Ec}{v:Value}(hx:Lf U Z B w s x v)(hf:P4 x y):Lf U Z B w s y v:=by
 rcases hf with⟨u,hu,rfl⟩|⟨u,rfl,rfl⟩|⟨ver,cs,ow,FU,NN,rfl,rfl,WG⟩
 .exact Nf hx hu
 .exact hx
 .obtain⟨j,i,g,us,e,f,d,c,b⟩:=hx;exact⟨j,i,g,us,e,f,d,c,λo ho=>b o (WG o ho)⟩
def Uc{σs:BF}{G:BF->IT}{R:Ju}{vs:List Aa}:∀{l:List (Nat×Sh)} {i:Nat} {σa:BF},Wb σs l=some (vs.drop i)->σa.length=σs.length->IT.step (BZ C) run (I7 vs l i σa G) h=some R->
  ∃b,IT.step (BZ C) run (G b) h=some R/\b.length=σa.length/\(∀s,s∉l.map (·.1)->b.at s=σa.at s)/\(∀s,s∈l.map (·.1)->P4 (σs.at s) (b.at s)/\
   ((∃FU GB NN,b.at s= .box FU GB NN/\Zi (σa.at s)<FU)\/∀ver cs ow,σs.at s≠ .box ver cs ow))
 |[],i,σa,_,_,hr=>⟨σa,hr,rfl,λ_ _=>rfl,Ax⟩
 |(s,c)::l,i,σa,hv,hl,hr=>by
  have hd:∃v HB,vs.drop i=v::HB/\vs.drop (i+1)=HB/\vs.getD i .nilIface=v/\Wb σs l=some HB/\
    (match(generalizing:=false) c,σs.at s with| .val,x=>x.GW| .BI,.BI v=>some v| .box n ow,.box _ cs NN=>if cs.length=n/\ow.all (NN.contains ·) then some (.agg cs) else none|_,_=>none)=some v:=by
   unfold Wb at hv;simp only at hv;split at hv
   .rename_i v HB h1 h2;simp only[Bx] at hv;refine⟨v,HB,hv.symm,?_,?_,h2,h1⟩;.have:=Cm (List.drop 1) hv;simpa[ED] using this.symm
    .have:=Cm (·[0]?) hv;simp only[Ij,Cn,Bp] at this;simp[List.getD,<-this]
   .cases hv
  obtain⟨v,HB,z,aGT,bB,Rv,RX⟩:=hd;have hlt:s<σa.length:=by rw[hl];refine BF.O7 λe=>?_;rw[e] at RX;cases c<;>simp[Ec.GW] at RX
  have go:∀(y:Ec),P4 (σs.at s) y->((∃FU GB NN,y= .box FU GB NN/\Zi (σa.at s)<FU)\/∀ver cs ow,σs.at s≠ .box ver cs ow)->IT.step (BZ C) run (I7 vs l (i+1) (σa.set s y) G) h=some R->
    ∃b,IT.step (BZ C) run (G b) h=some R/\b.length=σa.length/\(∀t,t∉((s,c)::l).map (·.1)->b.at t=σa.at t)/\(∀t,t∈((s,c)::l).map (·.1)->P4 (σs.at t) (b.at t)/\
     ((∃FU GB NN,b.at t= .box FU GB NN/\Zi (σa.at t)<FU)\/∀ver cs ow,σs.at t≠ .box ver cs ow)):=by
   intro y hy d Hn;obtain⟨b,r,q,k,p⟩:=Uc (l:=l) (i:=i+1) (σa:=σa.set s y) (by rw[aGT];exact Rv) (by simpa using hl) Hn;refine⟨b,r,by simpa using q,λt ht=>?_,λt ht=>?_⟩;.simp only[A9,AF,PR] at ht;rw[k t ht.2,BF.FJ λe=>ht.1 e.symm]
   .by_cases hm:t∈l.map (·.1)
    .obtain⟨j,m⟩:=p t hm;refine⟨j,m.imp (λ⟨FU,GB,NN,g,f⟩=>⟨FU,GB,NN,g,?_⟩) id⟩;by_cases aX:s=t
     .subst aX;rw[BF.Fa hlt] at f;rcases d with⟨A,D,B,rfl,h1⟩|hn
      .simp only[Zi] at f;omega
      .rcases j with⟨u,_,e⟩|⟨u,_,e⟩|⟨ver,cs,ow,_,_,e,_⟩
       .rw[g] at e;cases e
       .rw[g] at e;cases e
       .exact absurd e (hn _ _ _)
     .rwa [BF.FJ aX] at f
    .have aX:t=s:=by simp only[A9,AF] at ht;exact ht.resolve_right hm
     subst aX;rw[k t hm,BF.Fa hlt];exact⟨hy,d⟩
  cases c with
  |val=>
   simp only[I7,bB] at hr;have ly:(σs.at s).GW=some v:=by simpa using RX
   refine go (.val v) (.inl ⟨v,ly,rfl⟩) (.inr λver cs ow e=>?_) hr;rw[e] at ly;cases ly
  |BI=>
   simp only[I7,bB] at hr;cases hx:σs.at s with
   |BI u=>rw[hx] at RX;cases RX;exact go (.BI v) (.inr (.inl ⟨v,hx,rfl⟩)) (.inr λver cs ow e=>by rw[hx] at e;cases e) hr
   |_=>rw[hx] at RX;cases RX
  |box n ow=>
   simp only[I7,bB,IT.step] at hr;cases hx:σs.at s with
   |box ver cs NN=>
    rw[hx] at RX;simp only at RX;split at RX
    .rename_i HC;cases RX;split at hr;.rename_i hn;rw[Th hn] at hr;refine go (.box (Zi (σa.at s)+1) cs ow) (.inr (.inr ⟨ver,cs,NN,_,ow,hx,rfl,λo ho=>?_⟩)) (.inl ⟨_,_,_,rfl,SZ _⟩) hr;have:=DK.1 HC.2 o ho;simpa using this
     .cases hr
    .cases RX
   |_=>rw[hx] at RX;cases RX
def CW.Ĵ(hr:CW C U0 w0 U Z σ h a w){O:BF}(hl:O.length=σ.length)(hs:∀s,O.at s= .undef\/O.at s=σ.at s\/P4 (σ.at s) (O.at s)):CW C U0 w0 U Z O h a w:=by
 refine⟨hr.DL,⟨by rw[hl];exact hr.fr.size,λs=>?_⟩,hr.DE,hr.defers,hr.GN⟩;have h0:=hr.fr.HT s;rcases hs s with e|e|e
 .rw[e];trivial
 .rw[e];exact h0
 .exact e.rel h0
structure lz(σ0:BF)(ws:List Nat)(l:List (Nat×Sh))(σ':BF)(vs:List Aa):Prop where
 vec:Wb σ' l=some vs
 len:σ'.length=σ0.length
 same:∀s,s∉l.map (·.1)->σ0.at s= .undef\/σ0.at s=σ'.at s
 box:∀s ver cs ow,σ0.at s= .box ver cs ow->∃FU GB NN,σ'.at s= .box FU GB NN
def lW{σ0 σ':BF}{l:List (Nat×Sh)}(hk:pO σ0 σ' l=true){s:Nat}(hs:s∉l.map (·.1)):(∀ver cs ow,σ0.at s= .box ver cs ow->∃GB NN,σ'.at s= .box ver GB NN)/\(∀t o,σ0.at s= .EY t o->∃t' o',σ'.at s= .EY t' o'):=by
 have hc:(l.map (·.1)).contains s=false:=by
  cases hc:(l.map (·.1)).contains s with
  |false=>rfl
  |true=>exact absurd (by simpa using hc) hs
 have gd:s<σ0.length->(match σ0.at s with
   | .box ver _ _=>(l.map (·.1)).contains s||(match σ'.at s with| .box FU _ _=>FU==ver|_=>false)
   | .EY _ _=>(l.map (·.1)).contains s||(match σ'.at s with| .EY _ _=>true|_=>false)
   |_=>true)=true:=λhl=>by
  unfold pO at hk;exact DK.1 hk s (by simpa using hl)
 constructor
 .intro ver cs ow hx;have:=gd (BF.O7 (by rw[hx];simp));rw[hx] at this;simp only[hc,I5] at this;split at this
  .rename_i FU GB NN hy;have e:FU=ver:=by simpa using this
   subst e;exact⟨GB,NN,hy⟩
  .cases this
 .intro t o hx;have:=gd (BF.O7 (by rw[hx];simp));rw[hx] at this;simp only[hc,I5] at this;split at this;.rename_i t' o' hy;exact⟨t',o',hy⟩
  .cases this
def Pj{σ0 b σ':BF}{ws:List Nat}{l:List (Nat×Sh)}{x:DV}{R:Ju}(UP:IT.step (BZ C) run (Ds σ0 l x σ') h=some R)(zT:FL ws b σ')(hlen:b.length=σ0.length)
  (kF:∀s,s∈ws->σ0.at s= .undef) (Nc:∀s,s∉l.map (·.1)->σ0.at s= .undef\/σ0.at s=b.at s) (aGU:∀s ver cs ow,σ0.at s= .box ver cs ow->∃FU GB NN,b.at s= .box FU GB NN):
  ∃vs,R=(x,vs,h)/\lz σ0 ws l σ' vs:=by
 unfold Ds at UP;split at UP
 .rename_i hk;split at UP
  .rename_i vs hv;cases UP;refine⟨vs,rfl,hv,zT.1.trans hlen,λs hs=>?_,λs ver cs ow hb=>?_⟩
   .by_cases hw:s∈ws;.exact .inl (kF s hw)
    .rcases Nc s hs with e|e
     .exact .inl e
     .right;have WJ:=zT.2 s hw;obtain⟨i,g⟩:=lW hk hs;rw[e] at i g⊢;cases hx:b.at s with
      |box ver cs ow=>rw[hx] at WJ;obtain⟨m,p,n,c,_,d⟩:=WJ;obtain⟨k,f,j⟩:=i ver cs ow hx;rw[c] at j;cases j;obtain⟨rfl,rfl⟩:=d rfl;exact c.symm
      |EY t o=>
       rw[hx] at WJ;rcases WJ with c|c
       .exact c.symm
       .obtain⟨t',o',d⟩:=g t o hx;rw[c] at d;cases d
      |_=>rw[hx] at WJ;exact(show σ'.at s=_ from WJ).symm
   .have hw:s∉ws:=λhw=>by rw[kF s hw] at hb;cases hb
    obtain⟨m,p,n,c⟩:=aGU s ver cs ow hb;have WJ:=zT.2 s hw;rw[c] at WJ;obtain⟨v2,k,f,d,_⟩:=WJ;exact⟨v2,k,f,d⟩
  .cases UP
 .cases UP
def lz.next{σ0 σ':BF}{ws:List Nat}{l:List (Nat×Sh)}{vs:List Aa}(he:lz σ0 ws l σ' vs){G:BF->IT}{R:Ju}(hr:CW C U0 w0 U Z σ' h a w)(AH:IT.step (BZ C) run (I7 vs l 0 σ0 G) h=some R):
  ∃b,IT.step (BZ C) run (G b) h=some R/\CW C U0 w0 U Z b h a w/\b.length=σ0.length/\(∀s,s∉l.map (·.1)->b.at s=σ0.at s)/\(∀s ver cs ow,σ0.at s= .box ver cs ow->∃FU GB NN,b.at s= .box FU GB NN/\(s∈l.map (·.1)->ver<FU)):=by
 obtain⟨b,i,f,c,d⟩:=Uc (σs:=σ') (by simpa using he.vec) he.len.symm AH;refine⟨b,i,hr.Ĵ (f.trans he.len.symm) λs=>?_,f,c,λs ver cs ow hb=>?_⟩
 .by_cases hm:s∈l.map (·.1);.exact .inr (.inr (d s hm).1)
  .rw[c s hm];rcases he.same s hm with e|e
   .exact .inl e
   .exact .inr (.inl e)
 .by_cases hm:s∈l.map (·.1)
  .obtain⟨_,q⟩:=d s hm;obtain⟨m,o,n,k⟩:=he.box s ver cs ow hb;rcases q with⟨FU,GB,NN,j,g⟩|q
   .exact⟨FU,GB,NN,j,λ_=>by rw[hb] at g;exact g⟩
   .exact absurd k (q _ _ _)
  .exact⟨ver,cs,ow,by rw[c s hm];exact hb,λh=>absurd h hm⟩
def Pk{σ σ0 b:BF}{ws W:List Nat}{l:List (Nat×Sh)}(h0:σ0=σ.clear ws)(hv:ir l ws σ=true)(hl:b.length=σ0.length)(h1:∀s,s∉l.map (·.1)->b.at s=σ0.at s)
  (h2:∀s ver cs ow,σ0.at s= .box ver cs ow->∃FU GB NN,b.at s= .box FU GB NN/\(s∈l.map (·.1)->ver<FU)) (hW:∀s∈ws,s∈W):FL W σ b:=by
 refine⟨by rw[hl,h0,BF.JJ],λs hs=>?_⟩;have vy:s∉ws:=λhm=>hs (hW s hm);have e0:σ0.at s=σ.at s:=by rw[h0,BF.H8,Af vy]
 by_cases hm:s∈l.map (·.1)
 .obtain⟨p,hp,rfl⟩:=A4.1 hm;have:=DK.1 hv p hp;simp only[OA,aBH] at this;rcases this with this|this
  .exact absurd this vy
  .cases hx:σ.at p.1 with
   |box ver cs ow=>obtain⟨c,i,d,g,f⟩:=h2 p.1 ver cs ow (by rw[e0];exact hx);have:=f hm;exact⟨c,i,d,g,Ac,λe=>Ac⟩
   |_=>rw[hx] at this;cases this
 .rw[h1 s hm,e0];exact .refl _
def EV.le{n m:Nat}(h:EV C (IT.run (BZ C) n))(ß:m<=n):EV C (IT.run (BZ C) m):=⟨h.1,λf args h0 r h' AH=>h.2 f args h0 r h' (IT.HM ß AH)⟩
def l_(hm:C.P.follows .mixedOrders=true):∀(c:Code) (n:Nat),EV C (IT.run (BZ C) n)->∀{K:DV->BF->IT} {R:Ju} {σ:BF} {h:Ai} {a:Act} {w:World} {U:Gh} {Z:Nat->Nat} {Q:Exit->Act->World->Prop},
  IT.step (BZ C) (IT.run (BZ C) n) (FV C fid c σ K) h=some R->CW C U0 w0 U Z σ h a w->
  (∀x f d σ' h' a' w',IT.step (BZ C) (IT.run (BZ C) n) (K x σ') h'=some R->FL (CY c++B3 c) σ σ'->CW C U0 w0 f d σ' h' a' w'->Q (lq x) a' w')->c.wp C.P Q a w:=by
 intro c;induction c with
 |skip=>intro n p K R σ h a w U Z Q AH hr g;exact wp_skip (g .normal U Z σ h a w AH (.refl _ _) hr)
 |region id ops draw=>
  intro n p K R σ h a w U Z Q AH hr g;simp only[FV] at AH;split at AH;.exact WI hm p AH hr λf d σ' h' a' w' h1 h2 A=>g .normal f d σ' h' a' w' h1 h2 A
  .rename_i l hl;unfold aR at AH;simp only at AH;split at AH
   .rename_i hv;simp only[IT.step] at AH;split at AH
    .rename_i x vs h1 WK;refine WI hm p WK hr λf d σ' h' a' w' z u q=>?_;obtain⟨HB,e,he⟩:=Pj (h:=h') z u (by rw[BF.JJ]) (λs hs=>by rw[BF.H8,Ag hs]) (λs _=>by rw[BF.H8];split<;>simp) (λs ver cs ow hb=>by
      rw[BF.H8] at hb;split at hb;.cases hb
      .exact⟨ver,cs,ow,hb⟩)
     cases e;obtain⟨k,F,E,L,J,I⟩:=he.next q AH;exact g .normal f d k h1 a' w' F (Pk rfl hv L J I (λs hs=>hs)) E
    .cases AH
   .cases AH
 |seq x y D B=>
  intro n p K R σ h a w U Z Q AH hr g;simp only[FV] at AH;refine wp_seq (D n p AH hr λe f d σ' h' a' w' h1 h2 A=>?_);have up:∀j,FL (CY x++B3 x) σ j->FL (CY (.seq x y)++B3 (.seq x y)) σ j:=λj ho=>ho.mono λs hs=>by simp only[CY,B3,Aq] at hs⊢;rcases hs with hs|hs<;>simp[hs]
  cases e with
  |normal=>refine B n p h1 A λX U2 Z2 j kH a2 Y z u q=>g X U2 Z2 j kH a2 Y z ((up _ h2).trans (u.mono λs hs=>?_)) q;simp only[CY,B3,Aq] at hs⊢;rcases hs with hs|hs<;>simp[hs]
  |exit i=>exact g (.exit i) f d σ' h' a' w' h1 (up _ h2) A
  |ret=>exact g .ret f d σ' h' a' w' h1 (up _ h2) A
 |cond c x y D B=>
  intro n p K R σ h a w U Z Q AH hr g;have N:∀{o j:BF},FL (CY x++B3 x) o j->FL (CY (.cond c x y)++B3 (.cond c x y)) o j:=λ{o j} ho=>ho.mono λs hs=>by cases c<;>simp only[CY,B3,Aq,AF] at hs⊢<;>rcases hs with hs|hs<;>simp[hs]
  have M:∀{o j:BF},FL (CY y++B3 y) o j->FL (CY (.cond c x y)++B3 (.cond c x y)) o j:=λ{o j} ho=>ho.mono λs hs=>by cases c<;>simp only[CY,B3,Aq,AF] at hs⊢<;>rcases hs with hs|hs<;>simp[hs]
  simp only[FV] at AH;split at AH;.rename_i hc;obtain⟨s,h1,_⟩:=FW hr hc;exact wp_cond_true h1 (D n p AH hr λe f d σ' h' a' w' z u q=>g e f d σ' h' a' w' z (N u) q)
  .rename_i hc;obtain⟨s,h1,_⟩:=FW hr hc;exact wp_cond_false h1 (B n p AH hr λe f d σ' h' a' w' z u q=>g e f d σ' h' a' w' z (M u) q)
  .rename_i s v hc;have Ò:σ.at s= .val v:=GF hc;have h0:=hr.fr.HT s;rw[Ò] at h0;have G:∀{S:DV->BF->IT} {R':Ju} {Q':Exit->Act->World->Prop},IT.step (BZ C) (IT.run (BZ C) n) (.FH v (FV C fid x (σ.set s (.OQ true)) S) (FV C fid y (σ.set s (.OQ false)) S)) h=some R'->
     (∀e f d σ' h' a' w',IT.step (BZ C) (IT.run (BZ C) n) (S e σ') h'=some R'->FL (CY (.cond (.tmp s) x y)++B3 (.cond (.tmp s) x y)) σ σ'->CW C U0 w0 f d σ' h' a' w'->Q' (lq e) a' w')->(Code.cond (.tmp s) x y).wp C.P Q' a w:=by
    intro S R' Q' WH O;have af:∀b:Bool,FL (CY (.cond (.tmp s) x y)++B3 (.cond (.tmp s) x y)) σ (σ.set s (.OQ b)):=λb=> .set (by simp[B3]);simp only[IT.step] at WH;split at WH;.have hv:a.eval (.tmp s)= .bool true:=h0;exact wp_cond_true hv (D n p WH (hr.kS h0) λe f d σ' h' a' w' z u q=>O e f d σ' h' a' w' z ((af true).trans (N u)) q)
    .have hv:a.eval (.tmp s)= .bool false:=h0;exact wp_cond_false hv (B n p WH (hr.kS h0) λe f d σ' h' a' w' z u q=>O e f d σ' h' a' w' z ((af false).trans (M u)) q)
    .cases WH
   split at AH;.exact G AH g
   .rename_i l hl;unfold aR at AH;simp only at AH;split at AH
    .rename_i hv;simp only[IT.step] at AH;split at AH
     .rename_i e vs h1 WK;refine G WK λX f d σ' h' a' w' z u q=>?_;obtain⟨HB,eq,he⟩:=Pj (h:=h') (ws:=s::(CY x++CY y++B3 x++B3 y)) z (u.mono λt ht=>by
        simp only[CY,B3,Aq,AF] at ht⊢;rcases ht with(ht|ht)|ht|ht|ht<;>simp[ht]) (by rw[BF.JJ]) (λt ht=>by rw[BF.H8,Ag ht]) (λt _=>by rw[BF.H8];split<;>simp) (λt ver cs ow hb=>by
       rw[BF.H8] at hb;split at hb;.cases hb
       .exact⟨ver,cs,ow,hb⟩)
      cases eq;obtain⟨k,F,E,L,J,I⟩:=he.next q AH;exact g e f d k h1 a' w' F (Pk rfl hv L J I (λt ht=>by simp only[CY,B3,Aq,AF] at ht⊢;rcases ht with ht|((ht|ht)|ht)|ht<;>simp[ht])) E
     .cases AH
    .cases AH
  .cases AH
 |block id b ih=>
  intro n p K R σ h a w U Z Q AH hr g;simp only[FV] at AH;refine wp_block (ih n p AH hr λe f d σ' h' a' w' h1 h2 A=>?_);cases e with
  |normal=>exact g .normal f d σ' h' a' w' h1 h2 A
  |exit i=>
   simp only at h1;show if i=id then Q .normal a' w' else Q (.exit i) a' w'
   by_cases hi:i=id;.rw[Ag hi] at h1⊢;exact g .normal f d σ' h' a' w' h1 h2 A
   .rw[Af hi] at h1⊢;exact g (.exit i) f d σ' h' a' w' h1 h2 A
  |ret=>exact g .ret f d σ' h' a' w' h1 h2 A
 |loop b ih=>
  intro n p K R σ h a w U Z Q AH hr g;simp only[FV] at AH;generalize hl:C.ę fid ((Gl b).getD 0)=l at AH;generalize aL2:(Gl b).getD 0=key at AH;generalize h0:σ.clear (CY b++B3 b)=σ0 at AH;split at AH
  .rename_i hv;split at AH;.cases AH
   .rename_i init aCd;have aCe:σ0.length=σ.length:=by rw[<-h0,BF.JJ]
    have kF:∀s,s∈CY b++B3 b->σ0.at s= .undef:=λs hs=>by rw[<-h0,BF.H8,Ag hs]
    refine bI (λm a w=>∃U Z o h vs,CW C U0 w0 U Z o h a w/\lz σ0 (CY b++B3 b) l o vs/\m<=n+1/\
     IT.run (BZ C) m (.loop key vs (λvs=>I7 vs l 0 σ0 λk=>FV C fid b k λx σ'=>Ds σ0 l x σ') λx vs=>I7 vs l 0 σ0 λσ'=>Í K x σ') h=some R) ?_ (n+1) a w
     ⟨U,Z,σ,h,init,hr,⟨aCd,aCe.symm,λs _=>by rw[<-h0,BF.H8];split<;>simp,λs ver cs ow hb=>by
      rw[<-h0,BF.H8] at hb;split at hb;.cases hb
      .exact⟨ver,cs,ow,hb⟩⟩,Ab _,AH⟩
    rintro m a1 w1 ⟨U1,Z1,o,h1,vs,Jv,T,ß,IC⟩;cases m with
    |zero=>simp[IT.run] at IC
    |succ m=>
     simp only[IT.run,IT.step] at IC;have body:∀{x:DV} {HB:List Aa} {h':Ai},IT.step (BZ C) (IT.run (BZ C) m) (I7 vs l 0 σ0 λk=>FV C fid b k λx σ'=>Ds σ0 l x σ') h1=some (x,HB,h')->∀{Q':Exit->Act->World->Prop},
       (∀f d σ' a' w',CW C U0 w0 f d σ' h' a' w'->lz σ0 (CY b++B3 b) l σ' HB->Q' (lq x) a' w')->b.wp C.P Q' a1 w1:=by
      intro x HB h' hb Q' V;obtain⟨k,F,E,L,J,I⟩:=T.next Jv hb;refine ih m (p.le Ac) F E λy f d σ' h2 a' w' z u q=>?_;obtain⟨vs2,eq,he⟩:=Pj z u L kF (λs hs=> .inr (J s hs).symm) λs ver cs ow hb=>by obtain⟨v1,c1,o1,e1,_⟩:=I s ver cs ow hb;exact⟨v1,c1,o1,e1⟩
      cases eq;exact V f d σ' a' w' q he
     split at IC;.rename_i HB h' hb;exact body hb λf d σ' a' w' Hn lX=>⟨m,SZ m,f,d,σ',h',HB,Hn,lX,Ac,IC⟩
     .rename_i x HB h' hne hb;refine body hb λf d σ' a' w' Hn lX=>?_;have Ub:=IT.Jh (λt h r=>IT.HM (fn:=BZ C) (Ac:m<=n)) _ _ _ IC;obtain⟨k,F,E,L,J,I⟩:=lX.next Hn Ub;have ho:=Pk h0.symm hv L J I λs hs=>hs;cases x with
      |normal=>exact absurd rfl hne
      |exit i=>exact g _ f d k h' a' w' F ho E
      |ret=>exact g _ f d k h' a' w' F ho E
     .cases IC
  .cases AH
 |exit id=>intro n p K R σ h a w U Z Q AH hr g;exact wp_exit (g (.exit id) U Z σ h a w AH (.refl _ _) hr)
 |ret=>intro n p K R σ h a w U Z Q AH hr g;exact wp_ret (g .ret U Z σ h a w AH (.refl _ _) hr)
 |label l=>intro n p K R σ h a w U Z Q AH hr g;exact wp_label (g .normal U Z σ h a w AH (.refl _ _) hr)
 |scope b ih=>
  intro n p K R σ h a w U Z Q AH hr g;simp only[FV] at AH;refine wp_scope_straight (ih n p AH hr λe f d σ' h' a' w' h1 h2 A=>?_);cases e with
  |normal=>exact g .normal f d σ' h' a' w' h1 h2 A
  |exit i=>exact g (.exit i) f d σ' h' a' w' h1 h2 A
  |ret=>exact g .ret f d σ' h' a' w' h1 h2 A
 |_=>intros n p K R σ h a w U Z Q AH hr g;cases AH
end
end Go.Am
end
section
namespace Go.Am
open Go
section
variable{C:Fx}{U0 U:Gh}{w0 w:World}{Z:Nat->Nat}{σ:BF}{h:Ai}{a:Act}{fid:FuncId}{run:IT->Ai->Option Ju}
def H9(tmps:Array Value):ResultVar->Sem Value
 | .tmp t=>pure (tmps.getD t undef)
 | .cell a t=>do loadVar t (<-asAddr (tmps.getD a undef))
def RY{P:Program}{t:TypeId}{b o:Nat}{v:Value}(h:(Instr.loadAt t (.pointer (some ⟨b,o,none⟩))).run P w= .ok v w):(loadVar t ⟨b,o,none⟩).run P w= .ok v w:=by simpa[Instr.loadAt,Instr.sureAddr] using h
def Ud{K:List Aa->IT}{R:Ju}:∀{rs:List ResultVar} {DE:List Aa},IT.step (BZ C) run (Gb C σ rs DE K) h=some R->CW C U0 w0 U Z σ h a w->
  ∃vs us,(rs.mapM (H9 a.tmps)).run C.P w= .ok us w/\AX U vs us/\IT.step (BZ C) run (K (DE.reverse++vs)) h=some R
 |[],DE,AH,hr=>⟨[],[],Ax,rfl,by simpa[Gb] using AH⟩
 |d::rs,DE,AH,hr=>by
  have one:∀(v:Aa) (u:Value),(H9 a.tmps d).run C.P w= .ok u w->BH U v u->IT.step (BZ C) run (Gb C σ rs (v::DE) K) h=some R->
    ∃vs us,((d::rs).mapM (H9 a.tmps)).run C.P w= .ok us w/\AX U vs us/\IT.step (BZ C) run (K (DE.reverse++vs)) h=some R:=by
   intro v u h1 h2 l;obtain⟨vs,us,y,x,q⟩:=Ud l hr;refine⟨v::vs,u::us,?_,⟨u,us,rfl,h2,x⟩,by simpa using q⟩;simp[List.mapM_cons,h1,y]
  cases d with
  |tmp t=>
   simp only[Gb] at AH;split at AH;.rename_i v hv;exact one v _ (by simp[H9]) (Nf (hr.fr.HT t) hv) AH
   .cases AH
  |cell p t=>
   have ĵ:∀(b o:Nat) (v:Aa),a.tmps.getD p undef= .pointer (some ⟨b,o,none⟩)->(∃u,(Instr.loadAt t (.pointer (some ⟨b,o,none⟩))).run C.P w= .ok u w/\BH U v u)->IT.step (BZ C) run (Gb C σ rs (v::DE) K) h=some R->
     ∃vs us,((ResultVar.cell p t::rs).mapM (H9 a.tmps)).run C.P w= .ok us w/\AX U vs us/\IT.step (BZ C) run (K (DE.reverse++vs)) h=some R:=by
    intro b o v hp ⟨u,h1,h2⟩ l;refine one v u ?_ h2 l;simp only[H9,hp,asAddr,Sem.run_bind,Sem.run_pure,Result.andThen_ok];exact RY h1
   simp only[Gb] at AH;split at AH
   .rename_i s off ver cs ow ht ha;split at AH;.rename_i hlt;obtain⟨hs,hx⟩:=KQ hr ha;obtain⟨u,g,f,_⟩:=KB hr ht hs (r:=cs.getD off .nilIface) (off:=off) (by simp[E8,List.getD,Au hlt]);exact ĵ _ _ _ hx ⟨u,g,f⟩ AH
    .cases AH
   .rename_i n s off ver cs ow ht ha;split at AH;.rename_i Es;obtain⟨hs,hx⟩:=KQ hr ha;obtain⟨u,g,f,_⟩:=KB hr ht hs (r:= .agg ((cs.drop off).take n)) (off:=off) (by simp[E8,Es]);exact ĵ _ _ _ hx ⟨u,g,f⟩ AH
    .cases AH
   .rename_i n p' ht ha;simp only[IT.step] at AH;split at AH
    .rename_i v hv;have wB:=Q6 hr ha;unfold Bd at hv;split at hv;.rename_i cs;obtain⟨b,k,lJ,hm⟩:=wB;obtain⟨us,i,c⟩:=hm.values;exact ĵ b k v lJ (H7 (w:=w) ht i (λj u hj=>(hr.DL.HW _ _ _ (c j u hj)).1) (λu hu=>by obtain⟨j,hj⟩:=CF hu;exact(hr.DL.HW _ _ _ (c j u hj)).2.1) hv) AH
     .rename_i id off;obtain⟨b,hb,lJ⟩:=wB;split at hv
      .rename_i cs hcs;obtain⟨us,e,fr,i,pf,c,m⟩:=hr.DL.cells id cs hcs b hb;refine ĵ b off v lJ (H7 (w:=w) (b:=b) (o:=off) ht (c.drop off) (λj u hj=>?_) (λu hu=>m u (Bu hu)) (Pc hv)) AH;rw[cell_of_row w _ _ us e fr i];rw[Cn,Cg] at hj;split at hj;.simpa using hj
       .cases hj
      .cases hv
     .cases hv
    .cases AH
   .cases AH
def CW.O2(hr:CW C U0 w0 U Z σ h a w){p:Aa}{off:Nat}{u:Value}{h':Ai}(hp:BH U p u)(hf:Kk h off p=some h'):∃s,CW C U0 w0 s Z σ h' a w:=by
 unfold Kk at hf;split at hf;.cases hf;exact⟨U,hr⟩
 .rename_i id n;generalize n+off=o at hf;obtain⟨b,hb,_⟩:=hp;split at hf
  .rename_i cs hcs;split at hf
   .rename_i v hv;obtain⟨us,e,fr,c,pf,m,A⟩:=hr.DL.cells id cs hcs b hb;obtain⟨x,hx,ĥ⟩:=m.get hv;cases hq:KK h v with
    |none=>rw[hq] at hf;cases hf
    |some q=>
     obtain⟨h1,v'⟩:=q;rw[hq] at hf;simp only[Cd] at hf;split at hf
     .rename_i GB aCf;cases hf;obtain⟨U1,Es,Jv,w_⟩:=hr.UD ĥ hq;have S6:=Es.mu _ _ hb;obtain⟨j,B,r,g,k,r2,l⟩:=Jv.DL.cells id GB aCf b S6;rw[c] at g;cases g;have af:AX U1 (GB.set o v') (us.toList.take (GB.set o v').length):=by
       rw[BY];refine AX.GD (by simp[r2.length]) λi y z hy hz=>?_;by_cases hi:o=i
       .subst hi;by_cases hlt:o<GB.length
        .rw[AD hlt] at hy;cases hy;have f:x=z:=by rw[CN hlt] at hz;have aGW:o<cs.length:=(Al.1 hv).1;rw[CN aGW] at hx;rw[hx] at hz;exact D3 hz
         rw[<-f];exact w_
        .rw[DQ (by simpa using hlt)] at hy;cases hy
       .rw[Ap hi] at hy;obtain⟨t,YC,d⟩:=r2.get hy;rw[hz] at YC;cases YC;exact d
      obtain⟨kG,Tn⟩:=Nb Jv.DL aCf S6 c us (GB.set o v') rfl k af (by rw[BY];exact l);rw[setRow_self w b us e fr c] at kG Tn;exact⟨U1,Jv.IA kG Tn⟩
     .cases hf
   .cases hf
  .cases hf
 .cases hf
def wJ{t:IT}{R:Ju}:∀{l:List (Nat×Nat)} {U:Gh} {h:Ai},IT.step (BZ C) run (vP C σ l t) h=some R->CW C U0 w0 U Z σ h a w->∃b h',CW C U0 w0 b Z σ h' a w/\IT.step (BZ C) run t h'=some R
 |[],U,h,AH,hr=>⟨U,h,hr,AH⟩
 |(s,off)::l,U,h,AH,hr=>by
  simp only[vP] at AH;split at AH
  .rename_i p hp;simp only[IT.step] at AH;split at AH;.rename_i h1 hf;obtain⟨U1,Jv⟩:=hr.O2 (Nf (hr.fr.HT s) hp) hf;exact wJ AH Jv
   .cases AH
  .cases AH
def WL{R:Ju}:∀{vs DE:List Aa} {U:Gh} {h:Ai} {us fu:List Value},IT.step (BZ C) run (O5 vs DE T0) h=some R->CW C U0 w0 U Z σ h a w->AX U vs us->AX U DE.reverse fu->
  ∃c h' HB,CW C U0 w0 c Z σ h' a w/\AX c HB (fu++us)/\IT.step (BZ C) run (T0 HB) h'=some R
 |[],DE,U,h,us,fu,AH,hr,h1,h2=>by rw[show us=[] from h1,Bs];exact⟨U,h,DE.reverse,hr,h2,AH⟩
 |v::vs,DE,U,h,us,fu,AH,hr,h1,h2=>by
  obtain⟨u,Dq,rfl,hv,h1⟩:=h1;simp only[O5,IT.step] at AH;split at AH
  .rename_i k v' hf;obtain⟨U1,Es,Jv,w_⟩:=hr.UD hv hf;have i:AX U1 (v'::DE).reverse (fu++[u]):=by rw[HH];exact(AX.mono Es _ _ h2).append ⟨u,[],rfl,w_,rfl⟩
   obtain⟨j,g,b,f,e,d⟩:=WL AH Jv (AX.mono Es _ _ h1) i;exact⟨j,g,b,f,by rwa [AT] at e,d⟩
  .cases AH
def wK{R:Ju}{vs:List Aa}{us:List Value}{U:Gh}{h:Ai}(AH:IT.step (BZ C) run (T0 vs) h=some R)(hv:AX U vs us):
  ∃r,R=(.ret,[r],h)/\BH U r (if c:us.toArray.size=1 then us.toArray[0] else .tuple us.toArray):=by
 unfold T0 at AH;split at AH;.rename_i v;obtain⟨u,Dq,rfl,b,hnil⟩:=hv;rw[show Dq=[] from hnil];simp only[IT.step] at AH;cases AH;exact⟨v,rfl,by simpa using b⟩
 .rename_i hne;simp only[IT.step] at AH;cases AH;have hlen:us.length≠1:=λe=>by have:=hv.length;rw[e] at this;obtain⟨v,hv⟩:=aA6.1 this.symm;exact hne v hv
  refine⟨_,rfl,?_⟩;rw[dif_neg (by simpa using hlen)];exact⟨us.toArray,rfl,by simpa using hv⟩
def Ue{fn:Func}{tmps:Array Value}{us:List Value}(h:(fn.results.toList.mapM (H9 tmps)).run C.P w= .ok us w):(results fn tmps).run C.P w= .ok (if b:us.toArray.size=1 then us.toArray[0] else .tuple us.toArray) w:=by
 have e:fn.results.mapM (H9 tmps)=(do let l<-fn.results.toList.mapM (H9 tmps);pure l.toArray:Sem (Array Value)):=by rw[Array.mapM_eq_mapM_toList];simp
 have c:results fn tmps=(do let vs<-fn.results.mapM (H9 tmps);pure (if b:vs.size=1 then vs[0] else .tuple vs):Sem Value):=by unfold results;congr 2
 rw[c,e];simp only[Sem.run_bind,h,Result.andThen_ok,Sem.run_pure]
def xo{fn:Func}{R:Ju}(AH:IT.step (BZ C) run (kR C fid fn σ) h=some R)(hr:CW C U0 w0 U Z σ h a w):
  ∃r h' v f,R=(.ret,[r],h')/\(results fn a.tmps).run C.P w= .ok v w/\Hw f h' w/\LR U0 w0 f w/\BH f r v/\(C.JA fid=true->∃s c,IP f w0.heap.size w s c v r):=by
 unfold kR at AH;split at AH;.cases AH
 .rename_i Fl;obtain⟨U1,h1,Jv,IC⟩:=wJ AH hr;by_cases ho:C.JA fid=true
  .have g:∃t x,fn.results.toList=[.tmp t]/\σ.at t= .BI x:=by
    have:PZ σ fn.results.toList=true:=by
     cases hq:PZ σ fn.results.toList with
     |true=>rfl
     |false=>exact absurd (by simp[ho,hq]) Fl
    unfold PZ at this;split at this
    .rename_i t Kb;split at this;.rename_i x hx;exact⟨t,x,Kb,hx⟩
     .cases this
    .cases this
   obtain⟨t,x,d,hx⟩:=g;have h0:=Jv.fr.HT t;rw[hx] at h0;have xq:=Ue (C:=C) (w:=w) (fn:=fn) (tmps:=a.tmps) (us:=[a.tmps.getD t undef]) (by rw[d];simp[H9]);rw[d] at IC;simp only[Gb,hx,Ec.GW,HH,SY,BR] at IC;have aCg:KK h1 x=some (h1,x):=by rcases h0.2 with(rfl|⟨_,rfl⟩)|⟨_,_,_,_,_,_,_,rfl,_⟩<;>rfl
   have hR:R=(.ret,[x],h1):=by
    split at IC;.simp only[O5,IT.step,aCg,HH,SY,BR,T0] at IC;cases IC;rfl
    .simp only[IT.step,T0] at IC;cases IC;rfl
   exact⟨x,h1,_,U1,hR,by simpa using xq,Jv.DL,Jv.DE,h0.1,λ_=>⟨t,none,h0.2⟩⟩
  .obtain⟨vs,us,n,k,Ub⟩:=Ud IC Jv;simp only[SY,BR] at Ub;have xq:=Ue (C:=C) n;split at Ub;.obtain⟨o,h2,l,j,i,m⟩:=WL Ub Jv k (fu:=[]) rfl;rw[BR] at i;obtain⟨r,hR,b⟩:=wK m i;exact⟨r,h2,_,o,hR,xq,j.DL,j.DE,b,λe=>absurd e ho⟩
   .obtain⟨r,hR,b⟩:=wK Ub k;exact⟨r,h1,_,U1,hR,xq,Jv.DL,Jv.DE,b,λe=>absurd e ho⟩
def CW.start{U:Gh}{h:Ai}{w:World}(hi:Hw U h w)(hg:∀g cs,C.GN g=some cs->CQ U cs g 0){args:List Aa}{cargs:Array Value}(ha:AX U args cargs.toList)(n:Nat)(Z:Nat->Nat):
  CW C U w U Z (args.map .val++List.replicate (n-args.length) .undef) h {tmps:=cargs++Array.replicate (n-cargs.size) undef,defers:=[]} w:=by
 have hlen:cargs.size=args.length:=by have:=ha.length;simpa using this
 refine⟨hi,⟨by simp[hlen],λs=>?_⟩,LR.refl U w,rfl,hg⟩;by_cases hs:s<args.length
 .have h1:BF.at (args.map .val++List.replicate (n-args.length) .undef) s= .val args[s]:=by simp[BF.at,List.getD,An,hs]
  obtain⟨u,hu,hr⟩:=ha.get (Au hs);have h2:(cargs++Array.replicate (n-cargs.size) undef).getD s undef=u:=by
   rw[GJ,Array.getElem?_append_left Ac];have:cargs[s]?=some u:=by simpa using hu
   rw[this];rfl
  rw[h1,h2];exact hr
 .have h1:BF.at (args.map .val++List.replicate (n-args.length) .undef) s= .undef:=by have hm:(args.map Ec.val).length=args.length:=Ax;simp only[BF.at,List.getD];rw[Bw Ac,List.getElem?_replicate];split<;>rfl
  rw[h1];trivial
def bK(C:Fx):Prop:=
 (∀f,C.MN f=true->jy C f)/\∀(f:FuncId) (p:List Aa->IT),C.Ě f=some p->∀n,EV C (IT.run (BZ C) n)->∀(args:List Aa) (h:Ai) (r:Aa) (h':Ai),IT.step (BZ C) (IT.run (BZ C) n) (p args) h=some (.ret,[r],h')->
  (∃fn c,C.P.funcs[EO f]?=some fn/\(fn.name== "runtime.NumGoroutine")=false/\fn.body=some c)/\
  ∀(U:Gh) (w:World) (cargs:Array Value),Hw U h w->(∀g cs,C.GN g=some cs->CQ U cs g 0)->AX U args cargs.toList->
   Calls C.P (EO f) cargs w λe w'=>match e with
    | .returned v=>∃b,Hw b h' w'/\LR U w b w'/\BH b r v/\(C.JA f=true->∃s c,IP b w.heap.size w' s c v r)
    |_=>False
def lY(hm:C.P.follows .mixedOrders=true)(xr:∀g cs,C.GN g=some cs->cs.all Aa.Mk=true)(à:bK C):∀n,EV C (IT.run (BZ C) n)
 |0=>⟨⟨xr,à.1⟩,λf args h r h' AH=>by simp[IT.run] at AH⟩
 |n+1=>⟨⟨xr,à.1⟩,λf args h r h' AH=>by
  have ih:=lY hm xr à n;simp only[IT.run] at AH;unfold BZ at AH;split at AH;.rename_i p hp;exact à.2 f p hp n ih args h r h' AH
  unfold aBO at AH;split at AH
  .rename_i fn hf;split at AH;.cases AH
   .rename_i hname;unfold iu at AH;split at AH;.cases AH
    .rename_i c hb;refine⟨⟨fn,c,hf,by simpa using hname,hb⟩,λU w cargs hi hg ha=>calls_of_wp hf hb ?_⟩;refine l_ (C:=C) (fid:=f) hm c n ih AH (CW.start hi hg ha fn.ntmps (λ_=>0)) λx u t σ' h1 a' w' d _ j=>?_;have IE:IT.step (BZ C) (IT.run (BZ C) n) (kR C f fn σ') h1=some (.ret,[r],h')->a'.defers=[]/\∃v,(results fn a'.tmps).run C.P w'= .ok v w'/\∃b,Hw b h' w'/\LR U w b w'/\BH b r v/\(C.JA f=true->∃s c,IP b w.heap.size w' s c v r):=λaGY=>by obtain⟨r',h2,v,b,e,q,o,m,l,k⟩:=xo aGY j;cases e;exact⟨j.defers,v,q,b,o,m,l,k⟩
     cases x with
     |normal=>exact IE d
     |ret=>exact IE d
     |exit i=>cases d
  .cases AH⟩
end
def Ev.calls{C:Fx}(hm:C.P.follows .mixedOrders=true)(xr:∀g cs,C.GN g=some cs->cs.all Aa.Mk=true)(à:bK C){f:FuncId}{args:List Aa}{h:Ai}{Q:Aa->Ai->Prop}(OT:Ev C f args h Q){U:Gh}{w:World}{cargs:Array Value}(hi:Hw U h w)(hg:∀g cs,C.GN g=some cs->CQ U cs g 0)(ha:AX U args cargs.toList):
  Calls C.P (EO f) cargs w λe w'=>match e with
   | .returned v=>∃r h' b,Q r h'/\Hw b h' w'/\LR U w b w'/\BH b r v
   |_=>False:=by
 obtain⟨n,x,vs,h',AH,rfl,r,rfl,hQ⟩:=OT;refine(((lY hm xr à n).2 f args h r h' AH).2 U w cargs hi hg ha).mono λe w' he=>?_;cases e with
 |returned v=>obtain⟨b,i,d,c,_⟩:=he;exact⟨r,h',b,hQ,i,d,c⟩
 |_=>exact he
end Go.Am
end
section
namespace Go.Am
open Go
inductive Ty where
 |bool
 |int (k:IntKind)
 |str
 |sl (e:Ty)
 |st (fs:List Ty)
 deriving Inhabited
mutual
def Ty.size:Ty->Nat
 | .bool| .int _| .str| .sl _=>1
 | .st fs=>Ty.Mv fs
def Ty.Mv:List Ty->Nat
 |[]=>0
 |t::ts=>Ty.size t+Ty.Mv ts
end
mutual
def Qq(P:Program):Ty->TypeId->Bool
 | .bool,t=>match P.underlying t with|some .bool=>true|_=>false
 | .int k,t=>match P.underlying t with|some (.int k')=>decide (k'=k)|_=>false
 | .str,t=>match P.underlying t with|some .string=>true|_=>false
 | .sl e,t=>match P.underlying t with
  |some (.slice b)=>P.cellsOf b==Ty.size e&&decide (0<Ty.size e)&&Qq P e b
  |_=>false
 | .st fs,t=>match P.underlying t with
  |some (.struct fields)=>P.cellsOf t==Ty.Mv fs&&Pl P fs fields.toList 0
  |_=>false
def Pl(P:Program):List Ty->List Field->Nat->Bool
 |[],[],_=>true
 |ty::tys,f::fs,off=>f.offset==off&&P.cellsOf f.type==Ty.size ty&&Qq P ty f.type&&Pl P tys fs (off+Ty.size ty)
 |_,_,_=>false
end
mutual
def YM:Ty->List Aa->Prop
 | .bool,l=>∃b,l=[.bool b]
 | .int k,l=>∃n,l=[.int k n]/\(Lit.int k n).wf=true
 | .str,l=>∃s:Aj,l=[.str s]/\s.length<=maxLen
 | .sl e,l=>l=[.slnil]\/∃Av:List (List Aa),l=[.sl (Ty.size e) Av]/\Av.length<=maxLen/\∀r∈Av,YM e r
 | .st fs,l=>aq fs l
def aq:List Ty->List Aa->Prop
 |[],l=>l=[]
 |ty::tys,l=>∃a b,l=a++b/\YM ty a/\aq tys b
end
def Ty.Ķ:Ty->Bool
 | .st _=>true
 |_=>false
def qV(ty:Ty)(a:Aa):Prop:=if ty.Ķ then∃cs,a= .agg cs/\YM ty cs else YM ty [a]
def Ve:List Ty->List Aa->Prop
 |[],l=>l=[]
 |ty::tys,l=>∃a b,l=a::b/\qV ty a/\Ve tys b
def FX(W:World):Gh:={HW:=λb o=>(W.cell? ⟨b,o,none⟩).filter (·.oneCell'),mu:=λ_=>none,BI:=λ_=>none,sz:=λ_=>none}
def ma(W:World):Hw (FX W) [] W:=by refine⟨λb o v h=>?_,λid x h=>by simp at h,λid cs h=>by simp at h,λid es h=>by simp at h,λid b h=>(by cases h),λb x h=>(by cases h),λb n h=>(by cases h)⟩;simp only[FX,Qx] at h;exact⟨h.1,h.2,.inl rfl⟩
def Tp{W:World}{b o:Nat}{v:Value}(h:W.cell? ⟨b,o,none⟩=some v)(h1:v.oneCell'=true):(FX W).HW b o=some v:=by simp[FX,h,h1,Option.filter]
def Uf{V:Type}{p:Nat->V->Prop}:∀(n:Nat),(∀i,i<n->∃x,p i x)->∃l:List V,l.length=n/\∀i x,l[i]?=some x->p i x
 |0,_=>⟨[],rfl,Ax⟩
 |n+1,h=>by
  obtain⟨l,hl,hp⟩:=Uf n λi hi=>h i Ac;obtain⟨x,hx⟩:=h n Ac;refine⟨l++[x],by simp[hl],λi y hy=>?_⟩;rw[aFu] at hy;split at hy;.exact hp i y hy
  .have:i-l.length=0:=by
    rcases Lo (i-l.length) with h0|h0
    .exact h0
    .rw[DQ Ek] at hy;cases hy
   rw[this] at hy;simp at hy;subst hy;have:i=n:=Ac;rw[this];exact hx
section
variable{H:Type}{enc:TypeId×Value->H}{P:Program}{W:World}
def QI{a:Addr}{n:Nat}{cs:List Value}(h:W.cells? 0 a n=some cs)(hn:0<n):a.spot=none:=by
 obtain⟨_,hl,hc⟩:=World.cells?_some h;have h0:=hc 0 hn;have hlt:0<cs.length:=Ac;rw[Au hlt] at h0;unfold World.cell? at h0;have ha:a.add 0=a:=by simp[Addr.add]
 rw[ha] at h0;split at h0
 .split at h0;.cases h0
  .rename_i hs;simpa using hs
 .cases h0
mutual
def bL:∀(ty:Ty) {t:TypeId} {fuel:Nat} {cs:List Value} {x:DataW H×List MemPlace},Qq P ty t=true->DataW.trod enc P W 0 (λ_=>true) true fuel t cs=some x->
  ∃as,YM ty as/\AX (FX W) as cs/\(∀u∈cs,u.oneCell'=true)/\as.length=Ty.size ty
 | .bool,t,fuel,cs,x,Lr,h=>by
  unfold Qq at Lr;split at Lr;.rename_i ht;obtain⟨b,rfl,_⟩:=DataW.trod_bool ht h;exact⟨[.bool b],⟨b,rfl⟩,⟨_,[],rfl,rfl,rfl⟩,by simp[Value.oneCell'],rfl⟩
  .cases Lr
 | .int k,t,fuel,cs,x,Lr,h=>by
  unfold Qq at Lr;split at Lr
  .rename_i k' ht;have hk:k'=k:=by simpa using Lr
   subst hk;obtain⟨n,rfl,_,hw⟩:=DataW.trod_int ht h;exact⟨[.int k' n],⟨n,rfl,hw⟩,⟨_,[],rfl,rfl,rfl⟩,by simp[Value.oneCell'],rfl⟩
  .cases Lr
 | .str,t,fuel,cs,x,Lr,h=>by
  unfold Qq at Lr;split at Lr
  .rename_i ht;obtain⟨s,rfl,_,hs⟩:=DataW.trod_string ht h;refine⟨[.str s.data.toList],⟨_,rfl,by
    have e:s.data.toList.length=s.size:=by rw[B5];rfl
    rw[e];exact hs⟩,⟨_,[],rfl,?_,rfl⟩,by simp[Value.oneCell'],rfl⟩
   show Value.string s= .string ⟨⟨s.data.toList⟩⟩;congr 1
  .cases Lr
 | .sl e,t,fuel,cs,x,Lr,h=>by
  unfold Qq at Lr;split at Lr
  .rename_i z ht;simp only[A7,vn,Co] at Lr;obtain⟨⟨hce,hpos⟩,aGZ⟩:=Lr;rcases DataW.trod_slice ht h with⟨rfl,_⟩|⟨a,len,cap,elems,rest,n,_,rfl,_,_,hl,hm,hlen,c,hsp,_⟩
   .exact⟨[.slnil],.inl rfl,⟨_,[],rfl,rfl,rfl⟩,by simp[Value.oneCell'],rfl⟩
   .have spot:0<cap->a.spot=none:=λhc=>by
     have ha:a.add 0=a:=by simp[Addr.add]
     rcases Lo len with h0|h0
     .obtain⟨Jv,Lu⟩:=hsp rfl;have:=Lu 0 Ac;rw[Au (Ac:0<rest.length)] at this;have á:(len+0)*P.cellsOf z=0:=by rw[h0];simp
      rw[á,ha] at this;obtain⟨vs,hv,_⟩:=S0.1 this;exact QI hv Ac
     .have:=c 0 h0;rw[Au (Ac:0<elems.length)] at this;rw[Me,ha] at this;obtain⟨vs,hv,_⟩:=S0.1 this;exact QI hv Ac
    obtain⟨Av,qH,lN⟩:=Uf (p:=λi (r:List Aa)=>YM e r/\r.length=Ty.size e/\CQ (FX W) r a.block (a.off+i*Ty.size e)) len λi hi=>by
     have:=c i hi;rw[Au (Ac:i<elems.length)] at this;obtain⟨vs,hv,hd⟩:=S0.1 this;obtain⟨r,m,g,d,l⟩:=bL e aGZ hd;refine⟨r,m,l,CQ.GD λj y hj=>?_⟩;obtain⟨u,hu,q⟩:=g.get hj;obtain⟨_,hvl,v⟩:=World.cells?_some hv;have pD:j<P.cellsOf z:=by have:=(Al.1 hu).1;omega
     have hc:=v j pD;rw[hu] at hc;have pY:a=⟨a.block,a.off,none⟩:=by have:=spot Ac;cases a;simp_all
     have Ng:(a.add (i*P.cellsOf z)).add j=⟨a.block,a.off+i*Ty.size e+j,none⟩:=by rw[hce];generalize a.block=b at*;generalize a.off=o at*;subst pY;rw[Addr.add_lit,Addr.add_lit]
     rw[Ng] at hc;exact⟨u,Tp hc (d u (Cr hu)),q⟩
    refine⟨[.sl (Ty.size e) Av],.inr ⟨Av,rfl,Ac,λr hr=>?_⟩,⟨_,[],rfl,⟨a,cap,by rw[qH],Ac,?_,EL.GD λi r hr=>?_⟩,rfl⟩,by simp[Value.oneCell'],rfl⟩;.obtain⟨i,hi⟩:=CF hr;exact(lN i r hi).1
    .rcases Lo cap with h0|h0
     .exact .inr h0
     .exact .inl (spot h0)
    .exact⟨(lN i r hr).2.1,(lN i r hr).2.2⟩
  .cases Lr
 | .st fs,t,fuel,cs,x,Lr,h=>by
  unfold Qq at Lr;split at Lr
  .rename_i fields ht;simp only[A7,vn] at Lr;obtain⟨hct,hf⟩:=Lr;obtain⟨xs,n,_,_,hcl,A,aS⟩:=DataW.trod_struct ht h;obtain⟨as,m,g,d,l⟩:=Ug fs (fields:=fields.toList) (off:=0) (cs:=cs) (n:=n) hf (λi f hi=>by
    have:=aS i f (by simpa using hi);have hlt:i<fields.size:=by have:=(Al.1 hi).1;simpa using this
    rw[Au (Ac:i<xs.length)] at this;exact⟨_,this⟩) (by rw[hcl,hct];omega)
   have B:(cs.drop 0).take (Ty.Mv fs)=cs:=by rw[F0];exact A8 (by rw[hcl,hct];exact Ab _)
   rw[B] at g d;exact⟨as,m,g,d,l⟩
  .cases Lr
def Ug:∀(tys:List Ty) {fields:List Field} {off:Nat} {cs:List Value} {n:Nat},Pl P tys fields off=true->
  (∀(i:Nat) (f:Field),fields[i]?=some f->∃y,DataW.trod enc P W 0 (λ_=>true) true n f.type ((cs.drop f.offset).take (P.cellsOf f.type))=some y)->off+Ty.Mv tys<=cs.length->
  ∃as,aq tys as/\AX (FX W) as ((cs.drop off).take (Ty.Mv tys))/\(∀u∈(cs.drop off).take (Ty.Mv tys),u.oneCell'=true)/\as.length=Ty.Mv tys
 |[],fields,off,cs,n,Lr,h,hl=>by refine⟨[],rfl,?_,?_,rfl⟩<;>simp[Ty.Mv,AX]
 |ty::tys,fields,off,cs,n,Lr,h,hl=>by
  cases fields with
  |nil=>simp[Pl] at Lr
  |cons f fs=>
   simp only[Pl,A7,vn] at Lr;obtain⟨⟨⟨ho,hc⟩,Zn⟩,kq⟩:=Lr;obtain⟨y,hy⟩:=h 0 f rfl;rw[ho,hc] at hy;obtain⟨as,m,l,k,j⟩:=bL ty Zn hy;simp only[Ty.Mv] at hl;obtain⟨bs,e,d,c,b⟩:=Ug tys kq (λi g hi=>h (i+1) g (by simpa using hi)) Ac;have o:(cs.drop off).take (Ty.Mv (ty::tys))=(cs.drop off).take (Ty.size ty)++(cs.drop (off+Ty.size ty)).take (Ty.Mv tys):=by simp only[Ty.Mv];rw[Æ,ED]
   rw[o];refine⟨as++bs,⟨as,bs,rfl,m,e⟩,l.append d,λu hu=>?_,by simp[j,b,Ty.Mv]⟩;rcases Aq.1 hu with hu|hu
   .exact k u hu
   .exact c u hu
end
def bM{ty:Ty}{t:TypeId}{v:Value}{base:Nat}(Lr:Qq P ty t=true)(hv:Value.okWide P W .any base t v):if ty.Ķ then∃cs,v= .agg cs else v.cells=#[v]:=by
 cases ty with
 |st fs=>
  unfold Qq at Lr;split at Lr;.rename_i fields ht;unfold Value.okWide at hv;rw[ht] at hv;obtain⟨cs,e,_⟩:=hv;exact⟨cs,e⟩
  .cases Lr
 |_=>
  unfold Qq at Lr;split at Lr;.rename_i ht;unfold Value.okWide at hv;rw[ht] at hv;simp only[Cell.okWide,ht,Cell.ok] at hv;cases v<;>first|rfl|exact hv.elim
  .cases Lr
def ZD:∀{tys:List Ty} {ts:List TypeId} {vs:List Value} {ds:List (DataW H)} {ps:List MemPlace} {base:Nat},DataW.TrodAll enc P W 0 (λ_=>true) true ts vs ds ps->tys.length=ts.length->(∀(i:Nat) (ty:Ty) (t:TypeId),tys[i]?=some ty->ts[i]?=some t->Qq P ty t=true)->
  (∀(i:Nat) (t:TypeId) (v:Value),ts[i]?=some t->vs[i]?=some v->Value.okWide P W .any base t v)->∃as,Ve tys as/\AX (FX W) as vs
 |[],[],[],[],_,_,_,_,_,_=>⟨[],rfl,rfl⟩
 |ty::tys,t::ts,v::vs,d::ds,ps,base,⟨p,q,⟨fuel,h1⟩,h2,_⟩,hl,Lr,Qr=>by
  have Zn:=Lr 0 ty t rfl rfl;obtain⟨cells,f,b,k,l⟩:=bL ty Zn h1;obtain⟨bs,j,g⟩:=ZD h2 (by simpa using hl) (λi ty t h h'=>Lr (i+1) ty t (by simpa using h) (by simpa using h')) (λi t v h h'=>Qr (i+1) t v (by simpa using h) (by simpa using h'));have hc:=bM Zn (Qr 0 t v rfl rfl);have:∃a,qV ty a/\BH (FX W) a v:=by
   by_cases IM:ty.Ķ=true;.rw[Ag IM] at hc;obtain⟨us,rfl⟩:=hc;exact⟨.agg cells,(by unfold qV;rw[Ag IM];exact⟨cells,rfl,f⟩),us,rfl,by simpa[Value.cells] using b,by simpa[Value.cells] using k⟩
   .rw[Af IM] at hc;rw[hc] at b;obtain⟨u,us,e,hu,hnil⟩:∃c GB,cells=c::GB/\BH (FX W) c v/\GB=[]:=by
     cases cells with
     |nil=>cases b
     |cons c GB=>obtain⟨u,Dq,e,h1,h2⟩:=b;simp at e;obtain⟨rfl,rfl⟩:=e;exact⟨c,GB,rfl,h1,by cases GB with|nil=>rfl|cons _ _=>obtain⟨_,_,e,_⟩:=h2;cases e⟩
    subst hnil;subst e;exact⟨u,(by unfold qV;rw[Af IM];exact f),hu⟩
  obtain⟨a,ha,hr⟩:=this;exact⟨a::bs,⟨a,bs,rfl,ha,j⟩,⟨v,vs,rfl,hr,g⟩⟩
 |[],_::_,_,_,_,_,_,hl,_,_=>by simp at hl
 |_::_,[],_,_,_,_,_,hl,_,_=>by simp at hl
 |[],[],_::_,_,_,_,h,_,_,_=>by cases h
 |[],[],[],_::_,_,_,h,_,_,_=>by cases h
 |_::_,_::_,[],_,_,_,h,_,_,_=>by cases h
 |_::_,_::_,_::_,[],_,_,h,_,_,_=>by cases h
def WM{W':World}{may:MemPlace->Prop}(h1:W'.os=W.os)(h2:W'.output=W.output)(hb:∀i,i<W.heap.size->W'.heap[i]?=W.heap[i]?):W.keptBut W' may:=by
 refine⟨h1,h2,λi hi=>?_⟩;rw[hb i hi];split;.rename_i c t fr c' t' zG d b;rw[d] at b;cases b;exact⟨rfl,rfl,rfl,λ_ _=>rfl⟩
 .rename_i d b;rw[d] at b;cases b;exact .inr ⟨rfl,rfl⟩
 .rfl
def QJ(hl:laidOutB P=true){W':World}(hb:RowKit.Below W.heap.size W W'):∀{ts:List TypeId} {vs:List Value} {ds:List (DataW H)} {ps:List MemPlace},(∀t∈ts,P.readableRec t=true/\t<P.types.size)->
  DataW.TrodAll enc P W 0 (λ_=>true) true ts vs ds ps->(∀x∈ps,x.block<W.heap.size)->DataW.TrodAll enc P W' 0 (λb=>decide (b<W.heap.size)) true ts vs ds ps
 |[],[],[],ps,_,h,_=>h
 |t::ts,v::vs,d::ds,ps,aX,⟨p,q,h1,h2,e⟩,hlt=>by subst e;have ht:=aX t Ax;exact⟨p,q,RowKit.Below.trod hl ht.1 ht.2 h1 hb λx hx=>hlt x (Cs _ hx),QJ hl hb (λt' h'=>aX t' (by simp[h'])) h2 λx hx=>hlt x (BG _ hx),rfl⟩
 |[],[],_::_,_,_,h,_=>by cases h
 |[],_::_,_,_,_,h,_=>by cases h
 |_::_,[],_,_,_,h,_=>by cases h
 |_::_,_::_,[],_,_,h,_=>by cases h
end
def bN{C:Fx}(hm:C.P.follows .mixedOrders=true)(xr:∀g cs,C.GN g=some cs->cs.all Aa.Mk=true)(à:bK C)(hl:laidOutB C.P=true){f:FuncId}{fn:Func}{rt:TypeId}(k:f<=99999)(c:fn.resultTypes=#[rt])(l:C.P.underlying rt=some .bool){tys:List Ty}(hlen:tys.length=fn.params.size)
  (aG0:∀(i:Nat) (ty:Ty) (t:TypeId),tys[i]?=some ty->fn.params[i]?=some t->Qq C.P ty t=true) (aCh:∀t∈fn.params.toList,C.P.readableRec t=true/\t<C.P.types.size)
  (OT:∀as,Ve tys as->Ev C f as [] λr _=>r= .bool true) {s:ChangeSpec} (Ò:s.vars=[])
  {H:Type} (xg:∀ds:List (DataW H),ds.length=fn.params.size->s.fn H ds={results:=[.lit (.bool true)],args:=ds})
  {enc:TypeId×Value->H} {W:World} {base:Nat} {args:Array Value} {ds gs:List (DataW H)} {before:List MemPlace} (hg:∀g cs,C.GN g=some cs->CQ (FX W) cs g 0)
  (Qr:∀(j:Nat) (t:TypeId) (v:Value),fn.params[j]?=some t->args[j]?=some v->Value.okWide C.P W .any base t v) (hW:DataW.Whole enc C.P fn.params.toList s.vars false W args.toList ds gs before):
  Calls C.P f args W λe W'=>∃v,e= .returned v/\s.post enc C.P fn false true false false W args v W':=by
 have m:=hW;have hlt:=hW.lt;obtain⟨p,q,o,n,rfl,hfz,u⟩:=hW;rw[Ò] at n;have Ĳ:gs=[]/\q=[]:=by
  cases gs with
  |nil=>exact⟨rfl,n⟩
  |cons _ _=>cases n
 obtain⟨rfl,rfl⟩:=Ĳ;obtain⟨as,mb,Tn⟩:=ZD o (by simpa using hlen) (λi ty t h h'=>aG0 i ty t h (by simpa using h')) (λi t v h h'=>Qr i t v (by simpa using h) (by simpa using h'));have qR:ds.length=fn.params.size:=by
  have key:∀{ts:List TypeId} {vs:List Value} {ds:List (DataW H)} {ps:List MemPlace},DataW.TrodAll enc C.P W 0 (λ_=>true) true ts vs ds ps->ds.length=ts.length:=by
   intro ts;induction ts with
   |nil=>intro vs ds ps h;cases vs<;>cases ds<;>first|rfl|cases h
   |cons t ts ih=>
    intro vs ds ps h;cases vs with
    |nil=>cases h
    |cons v vs=>
     cases ds with
     |nil=>cases h
     |cons d ds=>obtain⟨_,_,_,h2,_⟩:=h;simp[ih h2]
  simpa using key o
 have Vc:=(OT as mb).calls hm xr à (ma W) hg Tn;rw[show EO f=f from Ag k] at Vc;refine Vc.mono λe W' he=>?_;cases e with
 |returned v=>
  obtain⟨r,h',y,rfl,hi,JI,hv⟩:=he;have hvb:v= .bool true:=hv;subst hvb;have hold:∀i,i<W.heap.size->W'.heap[i]?=W.heap[i]?:=λi kh=>(JI.NS i kh λid h0=>by cases h0).1;have b:RowKit.Below W.heap.size W W':=⟨JI.os,JI.tape,JI.output,JI.size,hold⟩;refine⟨_,rfl,ds,[],p++[],[],p,[],m,?_,?_,?_,WM JI.os JI.output hold,λh0=>by cases h0⟩;.rw[Bs,xg ds qR,c];exact⟨[],[],RowKit.shut_bool l true,rfl,rfl⟩
  .rw[Bs,xg ds qR];exact QJ hl b aCh o λx hx=>hlt x (by simpa using hx)
  .rw[Bs,xg ds qR,Ò];rfl
 |_=>exact he.elim
end Go.Am
end
