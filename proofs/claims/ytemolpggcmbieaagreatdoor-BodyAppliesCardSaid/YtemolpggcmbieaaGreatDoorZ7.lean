/- Lemmas -/
import Derived.Scope
import Derived.Test.YtemolpggcmbieaaGreatDoorZ6
import Derived.Carry
import Derived.ReadAgain
set_option linter.all false
section
namespace Go.Am
open Go
def Ě(x y:D3):Prop:=
 match x with
 | .box ver cs ow=>∃FX Gx Nz,y= .box FX Gx Nz/\ver<=FX/\(FX=ver->Gx=cs/\Nz=ow)
 | .EW t o=>y= .EW t o\/y= .undef
 |x=>y=x
def Ě.refl(x:D3):Ě x x:=by
 cases x with
 |box ver cs ow=>exact⟨ver,cs,ow,rfl,Ab _,λ_=>⟨rfl,rfl⟩⟩
 |EW t o=>exact .inl rfl
 |_=>rfl
def Ě.trans{x y z:D3}(h:Ě x y)(k:Ě y z):Ě x z:=by
 cases x with
 |box ver cs ow=>obtain⟨b,m,l,rfl,h1,h2⟩:=h;obtain⟨v2,j,c,rfl,f,d⟩:=k;refine⟨v2,j,c,rfl,Bp h1 f,λe=>?_⟩;have i:b=ver:=Ac;have g:v2=b:=Ac;obtain⟨rfl,rfl⟩:=d g;exact h2 i
 |EW t o=>
  rcases h with rfl|rfl
  .exact k
  .exact .inr k
 |_=>rw[show y=_ from h] at k;exact k
def FN(W:List Nat)(σ O:BJ):Prop:=O.length=σ.length/\∀s,s∉W->Ě (σ.at s) (O.at s)
def FN.refl(W:List Nat)(σ:BJ):FN W σ σ:=⟨rfl,λ_ _=> .refl _⟩
def FN.trans{W:List Nat}{σ O J:BJ}(h:FN W σ O)(k:FN W O J):FN W σ J:=⟨k.1.trans h.1,λs hs=>(h.2 s hs).trans (k.2 s hs)⟩
def FN.mono{W W':List Nat}{σ O:BJ}(h:FN W σ O)(hw:∀s∈W,s∈W'):FN W' σ O:=⟨h.1,λs hs=>h.2 s λhm=>hs (hw s hm)⟩
def FN.set{W:List Nat}{σ:BJ}{s:Nat}{x:D3}(hs:s∈W):FN W σ (σ.set s x):=
 ⟨Ax,λt ht=>by rw[BJ.FM λe=>ht (by rw[<-e];exact hs)];exact .refl _⟩
def FN.put{W:List Nat}{σ:BJ}{d:Option Nat}{x:D3}(hs:∀s∈d.toList,s∈W):FN W σ (σ.put d x):=by
 cases d with
 |none=>exact .refl _ _
 |some d=>exact .set (hs d Ax)
section
variable{C:FB}{fid:FuncId}{ops:List Oper}{run:IT->Ah->Option Jy}{σ σ':BJ}{h h':Ah}{W:List Nat}
def FN.drop(σ:BJ)(ds:List Nat):FN W σ (σ.drop ds):=by
 refine⟨BJ.length_drop σ ds,λs _=>?_⟩;rw[BJ.RO];cases hx:σ.at s with
 |EW t o=>
  simp only
  split;.exact .inr rfl
  .exact .inl rfl
 |_=>exact .refl _
def mS{r:Em}{ds:List Nat}(hd:r.M3 C run (σ.drop ds) h σ' h')(hw:∀s∈r.wf,s∈W):FN W σ σ':=by obtain⟨ws,rfl,h1,_⟩:=Zb hd;refine(FN.drop σ ds).trans ⟨BJ.Jr ws _,λs hs=>?_⟩;rw[BJ.Gp ws _ s λp hp e=>hs (hw s (by rw[<-e];exact h1 p hp))];exact .refl _
def P0{x:Operand}{d:Nat}{take:Bool}{r:Em}(h:Ki C σ x d take=some r):∀s∈r.wf,s=d\/(take=true/\x= .tmp s):=by
 unfold Ki at h;split at h;.cases h;simp[Em.wf]
 .cases h;simp[Em.wf]
 .split at h
  .rename_i ht;cases h;intro s hs;simp only[Em.wf,BP,Aq] at hs;rcases hs with hs|hs
   .revert hs;generalize b:RB _ _=c;intro hs;unfold RB at b;split at b;.subst b;simp at hs;exact .inr ⟨ht,by rw[hs]⟩
    .subst b;simp at hs
   .exact .inl (by simpa using hs)
  .cases hc:H9 _ with
   |none=>rw[hc] at h;cases h
   |some sl=>rw[hc] at h;cases h;simp[Em.wf]
 .cases hc:H9 _ with
  |none=>rw[hc] at h;cases h
  |some sl=>rw[hc] at h;cases h;simp[Em.wf]
 .cases h
def RV{x:Operand}{p:Nat×Aa}(h:C3 σ x=some p):x= .tmp p.1:=by
 cases x with
 |tmp t=>
  simp only[C3] at h;cases hx:σ.at t with
  |BM v=>rw[hx] at h;cases h;rfl
  |_=>rw[hx] at h;cases h
 |_=>cases h
def gO{t:TypeId}{v:Aa}{d:Nat}{r:Em}(h:TZ C fid t v d=some r):r.wf=[d]:=by
 unfold TZ at h;split at h;.cases h
 .split at h;.cases h
  .split at h<;>(cases h;rfl)
def MM:∀{xs:List Operand} {vs:List Aa} {fz:List (Nat×List Aa)},FV C σ xs=some (vs,fz)->∀p∈fz,p.1∈JF xs
 |[],vs,fz,hc=>by cases hc;simp
 |x::xs,vs,fz,hc=>by
  unfold FV at hc;split at hc;.cases hc
  .rename_i Hv c b;have ih:=MM b;have up:∀p∈c,p.1∈JF (x::xs):=λp hp=>by obtain⟨y,hy,he⟩:=Ce.1 (ih p hp);exact Ce.2 ⟨y,X6 _ hy,he⟩
   split at hc
   .rename_i s ver cs ow hs;split at hc;.cases hc
    .cases hc;intro p hp;rcases AE.1 hp with rfl|hp
     .simp[JF]
     .exact up p hp
   .rename_i sl _ hs;cases hv:sl.GV with
    |none=>rw[hv] at hc;cases hc
    |some u=>rw[hv] at hc;cases hc;exact up
   .cases hc
def rR{o:Oper}{r:Em}(hc:FW C fid ops σ o=some r)(hd:r.M3 C run (σ.drop r.news) h σ' h'):FN (D6 ops o) σ σ':=by
 have RU:∀s∈o.dst.toList,s∈D6 ops o:=λs hs=>Cw _ hs
 have hwf:(∀s∈r.wf,s∈D6 ops o)->FN (D6 ops o) σ σ':=mS hd
 have X9:r.wf=o.dst.toList->FN (D6 ops o) σ σ':=λe=>hwf (by rw[e];exact RU)
 have Ud:∀{m x},S8 m o.dst x=some r->FN (D6 ops o) σ σ':=λ{m x} he=>by
  obtain⟨_,_,rfl⟩:=GY he
  exact X9 rfl
 have Hj:∀{p x},S7 p o.dst x=some r->FN (D6 ops o) σ σ':=λ{p x} he=>by
  obtain⟨args,_,rfl⟩:=DF he
  exact X9 (by simp[Em.wf])
 unfold FW at hc
 split at hc
 .rename_i x ho
  split at hc
  .rename_i d FI
   refine hwf λs hs=>?_
   rcases P0 hc s hs with rfl|⟨ht,rfl⟩
   .exact RU s (by rw[FI];simp)
   .refine BK _ ?_
    simp[ho,FI,ht]
  .cases hc
 .rename_i x ho
  split at hc
  .rename_i d FI
   refine hwf λs hs=>?_
   rcases P0 hc s hs with rfl|⟨ht,rfl⟩
   .exact RU s (by rw[FI];simp)
   .refine BK _ ?_
    simp[ho]
  .cases hc
 .rename_i c x y ho
  split at hc
  .rename_i d _ FI
   refine hwf λs hs=>?_
   rcases P0 hc s hs with rfl|⟨ht,rfl⟩
   .exact RU s (by rw[FI];simp)
   .cases ht
  .rename_i d _ FI
   refine hwf λs hs=>?_
   rcases P0 hc s hs with rfl|⟨ht,rfl⟩
   .exact RU s (by rw[FI];simp)
   .cases ht
  .exact Hj hc
 .split at hc
  .rename_i d z FI hz
   split at hc
   .split at hc
    .cases hc;exact X9 (by rw[FI];rfl)
    .cases hc
   .exact X9 (by rw[gO hc,FI];rfl)
  .cases hc
 .split at hc
  .rename_i d v FI hz
   exact X9 (by rw[gO hc,FI];rfl)
  .cases hc
 .split at hc
  .split at hc
   .exact Hj hc
   .cases hc
  .cases hc
 .split at hc
  .split at hc
   .split at hc
    .split at hc
     .cases hc;exact X9 (by simp[Em.wf])
     .cases ha:Bm C σ _ with
      |none=>rw[ha] at hc;cases hc
      |some args=>rw[ha] at hc;cases hc;exact X9 (by simp[Em.wf])
    .cases hc
   .cases hc
  .cases hc
 .split at hc
  .rename_i d FI
   unfold Lf at hc
   split at hc
   .cases hc;exact X9 (by rw[FI];rfl)
   .rename_i s off ver cs ow ht ha
    split at hc
    .simp only at hc
     split at hc
     .cases hc
      rw[NI Ax] at hd
      obtain⟨rfl,rfl⟩:=hd
      have hs:σ.at s= .box ver cs ow:=by
       unfold FU at ha
       split at ha
       .rename_i hs;cases ha;exact GC hs
       .split at ha
        .rename_i hb;cases ha;exact hb
        .cases ha
       .exact absurd ha (by cases hv:D3.GV _<;>simp)
       .cases ha
      refine⟨by simp[BJ.drop,BJ.DX],λt b=>?_⟩
      have f:t≠d:=λe=>b (RU t (by rw[FI,e];simp))
      have ya:s<σ.length:=BJ.OY (by rw[hs];simp)
      show Ě (σ.at t) (BJ.at ((σ.set s _).set d _) t)
      rw[BJ.FM (λe=>f e.symm)]
      by_cases aD:s=t
      .subst aD
       rw[BJ.E3 ya,hs]
       exact⟨_,_,_,rfl,Fm _,λe=>absurd e Ac⟩
      .rw[BJ.FM aD];exact .refl _
     .cases hc;exact X9 (by rw[FI];rfl)
    .cases hc
   .split at hc
    .cases hc;exact X9 (by rw[FI];rfl)
    .cases hc
   .cases hc
  .cases hc
 .rename_i t x y ho
  split at hc
  .rename_i FI
   unfold I4 at hc
   split at hc
   .cases hc;exact hwf (by simp[Em.wf])
   .rename_i m sh s off ver cs ow v K8 lG ha hv
    split at hc
    .cases hc
     obtain⟨_,rfl,rfl⟩:=hd
     have hs:σ.at s= .box ver cs ow:=by
      unfold FU at ha
      split at ha
      .rename_i hs;cases ha;exact GC hs
      .split at ha
       .rename_i hb;cases ha;exact hb
       .cases ha
      .exact absurd ha (by cases hv:D3.GV _<;>simp)
      .cases ha
     have Yj:∀(D:Option (Nat×Aa)),(∀p,D=some p->p.1∈D6 ops o/\p.1≠s)->∀X:List Aa×List Nat,FN (D6 ops o) σ ((σ.Dt D).set s (.box (ver+1) X.1 X.2)):=by
      intro D i X
      refine⟨by cases D<;>simp[BJ.Dt],λt b=>?_⟩
      have hlen:s<(σ.Dt D).length:=by
       have:s<σ.length:=BJ.OY (by rw[hs];simp)
       cases D<;>simpa[BJ.Dt] using this
      by_cases aD:s=t
      .subst aD
       rw[BJ.E3 hlen,hs]
       exact⟨_,_,_,rfl,Fm _,λe=>absurd e Ac⟩
      .rw[BJ.FM aD]
       cases D with
       |none=>exact .refl _
       |some p=>
        obtain⟨g,j⟩:=i p rfl
        simp only[BJ.Dt]
        rw[BJ.FM (λe=>b (by rw[<-e];exact g))]
        exact .refl _
     refine Yj _ (λp hp=>?_) (_,_)
     split at hp
     .have hy:=RV hp
      subst hy
      refine⟨BK _ (by simp[ho]),λe=>?_⟩
      simp only[C3] at hp
      rw[e,hs] at hp
      cases hp
     .cases hp
    .cases hc
   .cases hc
  .cases hc
 .split at hc
  .rename_i FI _ _
   cases hc;exact X9 (by rw[FI];rfl)
  .rename_i FI _ _
   cases hc;exact X9 (by rw[FI];rfl)
  .exact Hj hc
 .split at hc
  .exact Hj hc
  .cases hc
 .exact Hj hc
 .split at hc
  .cases hv:EF C σ _ with
   |none=>rw[hv] at hc;cases hc
   |some v=>rw[hv] at hc;cases hc;exact X9 rfl
  .split at hc
   .cases hv:EF C σ _ with
    |none=>rw[hv] at hc;cases hc
    |some v=>rw[hv] at hc;cases hc;exact X9 rfl
   .exact Hj hc
  .exact Hj hc
  .cases hc
 .rename_i fn first captured ho
  split at hc
  .rename_i d as bs fz FI ha hb
   cases hc
   refine hwf λs hs=>?_
   simp only[Em.wf,AE] at hs
   rcases hs with rfl|hs
   .exact RU s (by rw[FI];simp)
   .obtain⟨p,hp,rfl⟩:=AZ.1 hs
    refine BK _ ?_
    simp only[ho]
    exact MM hb p hp
  .cases hc
 .cases hc;exact X9 rfl
 .split at hc
  .split at hc
   .cases hc;exact X9 rfl
   .cases hc
  .cases hc
 .split at hc
  .split at hc
   .cases hc;exact hwf (by simp[Em.wf])
   .cases hc;exact hwf (by simp[Em.wf])
   .cases hc
  .cases hc
 .split at hc
  .split at hc
   .cases hc;exact hwf (by simp[Em.wf])
   .cases hc;exact hwf (by simp[Em.wf])
   .cases hc
  .cases hc
 .split at hc
  .split at hc
   .cases hc;exact X9 rfl
   .cases hc;exact X9 rfl
   .cases hc
  .cases hc
 .split at hc
  .split at hc
   .exact Ud hc
   .cases hc
  .cases hc
 .split at hc
  .cases hc
  .exact Ud hc
  .cases hc
 .split at hc
  .split at hc<;>first|exact Ud hc|cases hc
  .cases hc
 .split at hc
  .rename_i FI
   exact Ud (by rw[FI];exact hc)
  .cases hc
 .split at hc
  .exact Hj hc
  .split at hc
   .split at hc
    .exact Ud hc
    .exact Hj hc
   .cases hc
  .cases hc
 .split at hc
  .rename_i off sh d hf FI
   split at hc
   .cases hc;exact X9 (by rw[FI];rfl)
   .cases hc;exact X9 (by rw[FI];rfl)
   .exact Hj (by rw[FI];exact hc)
  .cases hc
 .split at hc
  .exact Hj hc
  .cases hc
 .split at hc
  .split at hc
   .exact Hj hc
   .cases hc
  .split at hc
   .split at hc
    .cases hc
    .exact Hj hc
   .cases hc
  .cases hc
 .split at hc
  .exact Hj hc
  .split at hc
   .exact Hj hc
   .cases hc
  .cases hc
 .exact Hj hc
 .rename_i c ho
  unfold QN at hc
  split at hc
  .split at hc
   .split at hc
    .exact Hj hc
    .exact Hj hc
    .cases hc
   .cases hc
  .rename_i hcl
   split at hc
   .rename_i t t' s x h0 h1 Ep
    have Yj:∀p,C3 σ s=some p->p.1∈D6 ops o:=λp hp=>by
     have:=RV hp
     subst this
     refine BK _ ?_
     simp only[ho,hcl,Ep]
     simp[JF]
    split at hc
    all_goals first
     |(cases hc;done)
     | (split at hc
        . split at hc
          . split at hc
            . split at hc
              . split at hc
                . cases hc
                  refine hwf fun q hq => ?_
                  simp only [Em.wf, Aq] at hq
                  rcases hq with hq | hq
                  . exact RU q hq
                  . cases mT : C3 σ s with
                    | none => rw [mT] at hq; simp at hq
                    | some p => rw [mT] at hq; simp at hq; rw [hq]; exact Yj p mT
                . split at hc
                  . cases hc
                    refine hwf fun q hq => ?_
                    simp only [Em.wf, Aq] at hq
                    rcases hq with hq | hq
                    . exact RU q hq
                    . cases mT : C3 σ s with
                      | none => rw [mT] at hq; simp at hq
                      | some p => rw [mT] at hq; simp at hq; rw [hq]; exact Yj p mT
                  . cases hc
                    refine hwf fun q hq => ?_
                    simp only [Em.wf, Aq] at hq
                    rcases hq with hq | hq
                    . exact RU q hq
                    . cases mT : C3 σ s with
                      | none => rw [mT] at hq; simp at hq
                      | some p => rw [mT] at hq; simp at hq; rw [hq]; exact Yj p mT
              . split at hc
                . cases hc
                  refine hwf fun q hq => RU q (by simpa [Em.wf] using hq)
                . cases hc
            . cases hc
          . cases hc
        . cases hc)
   .cases hc
  .split at hc
   .split at hc
    all_goals first
     |(cases hc;done)
     | (split at hc
        . exact Ud hc
        . cases hc)
   .cases hc
  .split at hc
   .split at hc
    .split at hc
     .exact Ud hc
     .cases hc
    .cases hc
   .cases hc
  .split at hc
   .exact Hj hc
   .cases hc
  .split at hc
   .exact Hj hc
   .cases hc
  .split at hc
   .split at hc
    .split at hc
     .exact Ud hc
     .cases hc
    .cases hc
   split at hc
   .cases ha:Bm C σ c.args.toList with
    |none=>rw[ha] at hc;cases hc
    |some args=>
     rw[ha] at hc
     simp only[Bt,Bx] at hc
     split at hc<;>(cases hc;exact X9 rfl)
   .cases hc
  .split at hc
   .cases hc;exact X9 rfl
   .cases hc
  .cases hc
 .cases hc
end
end Go.Am
end
section
namespace Go.Am
open Go
def lp:FO->Exit
 | .normal=> .normal
 | .exit i=> .exit i
 | .ret=> .ret
def NU:∀{l m:List Nat},l.Nodup->(∀x∈l,x∈m)->l.length<=m.length
 |[],_,_,_=>Bd _
 |x::l,m,hn,hs=>by have hx:=hs x Ax;have h1:=NU (l:=l) (m:=m.erase x) (B6.1 hn).2 λy hy=>(List.mem_erase_of_ne λe=>(B6.1 hn).1 (by rw[<-e];exact hy)).2 (hs y (by simp[hy]));rw[List.length_erase_of_mem hx] at h1;have:0<m.length:=List.length_pos_of_mem hx;simp;omega
def aP{P:Program}{c:Code}{Q:Exit->Act->World->Prop}(T:Nat->Act->World->Prop)(round:∀n a w,T n a w->c.wp P (Exit.then (λa' w'=>∃m,m<n/\T m a' w') Q) a w)(n:Nat)(a:Act)(w:World)(h0:T n a w):(Code.loop c).wp P Q a w:=by
 intro b k cs;have key:∀n a w,T n a w->∃e a' w',Q e a' w'/\Arrives P (lone (b.at a (.code c:: .inLoop c::k)) cs w) b k cs e a' w':=by
  intro n;induction n using Nat.strongRecOn with
  |_ n ih=>
   intro a w i;obtain⟨e,a1,w1,hq,yr⟩:=round n a w i b (.inLoop c::k) cs;by_cases he:e= .normal;.subst he;obtain⟨m,hm,d⟩:=hq;obtain⟨j,a2,f,g,r2⟩:=ih m hm a1 w1 d;exact⟨j,a2,f,g,.of_steps (Go.Steps.trans yr (.one step_inLoop)) r2⟩
   .exact⟨e,a1,w1,by cases e<;>first|exact hq|exact absurd rfl he,.pass (x:= .inLoop c) rfl (λ_ _=> .inl he) yr⟩
 obtain⟨e,a',w',hq,yr⟩:=key n a w h0;exact⟨e,a',w',hq,.of_steps (.one step_loop) yr⟩
section
variable{C:FB}{U0 U:Gh}{w0 w:World}{Z:Nat->Nat}{σ:BJ}{h:Ah}{a:Act}{fid:FuncId}{run:IT->Ah->Option Jy}
def aQ{ops:List Oper}{o:Oper}{K:BJ->IT}{R:Jy}(hr:IT.step (B7 C) run (S9 C fid ops σ o K) h=some R):
  ∃d,(d=σ\/∃s b,s∈Fh ops o/\σ.at s= .val (.bool b)/\d=σ.set s (.OL b))/\
   ((Iq ops d o= .M0 true/\IT.step (B7 C) run (ic C fid ops d o K) h=some R)\/(Iq ops d o= .M0 false/\IT.step (B7 C) run (K (d.put o.dst .skip)) h=some R)):=by
 unfold S9 at hr;split at hr;.rename_i hg;exact⟨σ,.inl rfl,.inl ⟨hg,hr⟩⟩
 .rename_i hg;exact⟨σ,.inl rfl,.inr ⟨hg,hr⟩⟩
 .rename_i s v want hg;have ū:s∈Fh ops o/\σ.at s= .val v/\∀b,Iq ops (σ.set s (.OL b)) o= .M0 (b==want):=by
   unfold Iq at hg⊢;unfold Fh;cases ho:o.guard with
   |none=>rw[ho] at hg;cases hg
   |some g=>
    obtain⟨j,want'⟩:=g;rw[ho] at hg;simp only at hg⊢;cases hd:(ops[j]?).bind (·.dst) with
    |none=>rw[hd] at hg;cases hg
    |some s'=>
     rw[hd] at hg;simp only at hg⊢;cases hx:σ.at s' with
     |val v'=>rw[hx] at hg;cases hg;refine⟨Ax,hx,λb=>?_⟩;rw[BJ.E3 (BJ.OY (by rw[hx];simp))]
     |OL c=>rw[hx] at hg;cases hg
     |skip=>rw[hx] at hg;cases hg
     |_=>rw[hx] at hg;cases hg
  obtain⟨g1,g2,g3⟩:=ū;simp only[IT.step] at hr;split at hr
  .refine⟨σ.set s (.OL true),.inr ⟨s,true,g1,g2,rfl⟩,?_⟩;rw[g3];cases want with
   |true=>exact .inl ⟨rfl,hr⟩
   |false=>exact .inr ⟨rfl,hr⟩
  .refine⟨σ.set s (.OL false),.inr ⟨s,false,g1,g2,rfl⟩,?_⟩;rw[g3];cases want with
   |true=>exact .inr ⟨rfl,hr⟩
   |false=>exact .inl ⟨rfl,hr⟩
  .cases hr
 .cases hr
def aj(a:Act){ops:List Oper}{o:Oper}:(∀p∈RD C σ o,∃ver ow,σ.at p.1= .box ver p.2 ow)/\((RD C σ o).map (·.1)).Nodup/\∀p∈RD C σ o,p.1∈D6 ops o:=by
 have no:∀l:List (Nat×List Aa),l=[]->(∀p∈l,∃ver ow,σ.at p.1= .box ver p.2 ow)/\(l.map (·.1)).Nodup/\∀p∈l,p.1∈D6 ops o:=by rintro l rfl;exact⟨(λp hp=>nomatch hp),J3,λp hp=>nomatch hp⟩
 cases ho:o.op with
 |call c=>
  cases hc:c.callee with
  |value g=>
   cases g with
   |func f=>
    cases hf:Ta f with
    |true=>
     cases hx:FV C σ c.args.toList with
     |some q=>
      obtain⟨vs,fz⟩:=q;have e:RD C σ o=fz:=by unfold RD;simp only[ho,hc,hf,hx,BD]
      rw[e];obtain⟨h1,h2,_⟩:=ML (a:=a) hx;refine⟨h1,h2,λp hp=>BK _ ?_⟩;simp only[ho,hc,hf,BD];exact MM hx p hp
     |none=>exact no _ (by unfold RD;simp only[ho,hc,hf,hx,BD])
    |false=>exact no _ (by unfold RD;simp[ho,hc,hf])
   |_=>exact no _ (by unfold RD;simp only[ho,hc])
  |_=>exact no _ (by unfold RD;simp only[ho,hc])
 |_=>exact no _ (by unfold RD;simp only[ho])
def FN.DX{W:List Nat}:∀{l:List (Nat×D3)} {σ:BJ},(∀p∈l,p.1∈W)->FN W σ (σ.DX l)
 |[],σ,_=> .refl _ _
 |(s,x)::l,σ,h=>(FN.set (h (s,x) Ax)).trans (FN.DX λp hp=>h p (by simp[hp]))
def lq{ops:List Oper}{o:Oper}{W:List Nat}(hr:CX C U0 w0 U Z σ h a w)(hw:∀s∈D6 ops o,s∈W):∃b,CX C U0 w0 b Z (œ C σ o) h a w/\FN W σ (œ C σ o):=by
 obtain⟨h1,h2,c⟩:=aj (C:=C) (σ:=σ) a (ops:=ops) (o:=o);obtain⟨b,_,Hd,_⟩:=(hr.drop ((RD C σ o).map (·.1))).Tf (fz:=RD C σ o) (λp hp=>by obtain⟨ver,ow,hs⟩:=h1 p hp;exact⟨ver,ow,by rw[BJ.RO,hs]⟩) h2
 refine⟨b,Hd,(FN.drop σ _).trans (FN.DX λp hp=>?_)⟩;obtain⟨q,hq,rfl⟩:=AZ.1 hp;exact hw _ (c q hq)
def rS(m:ER C run){ops:Array Oper}{Q:Exit->Act->World->Prop}{W:List Nat}{K:BJ->IT}{R:Jy}:∀(rest:List Oper) (k:Nat) (U:Gh) (Z:Nat->Nat) (σ:BJ) (h:Ah) (a:Act) (w:World),
  ops.toList.drop k=rest->(∀o∈rest,(∀s∈D6 ops.toList o,s∈W)/\∀s∈Fh ops.toList o,s∈W)->IT.step (B7 C) run (qV C fid ops.toList rest σ K) h=some R->CX C U0 w0 U Z σ h a w->
  (∀g f σ' h' a' w',IT.step (B7 C) run (K σ') h'=some R->FN W σ σ'->CX C U0 w0 g f σ' h' a' w'->Q .normal a' w')->wpOps C.P ops Q (List.range' k rest.length) a w
 |[],k,U,Z,σ,h,a,w,_,_,AG,hr,hQ=>by simp only[Br,List.range'_zero,wpOps];exact hQ U Z σ h a w AG (.refl _ _) hr
 |o::rest,k,U,Z,σ,h,a,w,hk,hW,AG,hr,hQ=>by
  have ho:ops[k]?=some o:=by
   have:ops.toList[k]?=some o:=by have h0:=B5 (·[0]?) hk;simpa[Cr] using h0
   simpa using this
  have l:ops.toList.drop (k+1)=rest:=by have h0:=B5 (List.drop 1) hk;simpa[Ez] using h0
  obtain⟨mU,kz⟩:=hW o Ax;simp only[AJ,List.range'_succ,wpOps,ho];obtain⟨U1,e,c⟩:=lq hr mU;obtain⟨i,j,IC⟩:=aQ AG;have Jz:CX C U0 w0 U1 Z i h a w/\FN W σ i:=by
   rcases j with rfl|⟨s,b,g1,g2,rfl⟩
   .exact⟨e,c⟩
   .have h0:=e.fr.HS s;rw[g2] at h0;exact⟨e.fM h0,c.trans (.set (kz s g1))⟩
  obtain⟨Jz,aEJ⟩:=Jz;have next:∀g f σ' h' a' w',IT.step (B7 C) run (qV C fid ops.toList rest σ' K) h'=some R->FN W σ σ'->CX C U0 w0 g f σ' h' a' w'->wpOps C.P ops Q (List.range' (k+1) rest.length) a' w':=λg f σ' h' a' w' Wn zR Hd=>rS m rest (k+1) g f σ' h' a' w' l (λo ho=>hW o (by simp[ho])) Wn Hd λq p d h2 a2 n LQ aJt aEK=>hQ q p d h2 a2 n LQ (zR.trans aJt) aEK
  rcases IC with⟨hg,IE⟩|⟨hg,IE⟩
  .rw[Af (Lq Jz hg)];unfold ic at IE;split at IE;.rename_i r hc;obtain⟨d,h2,hd,Ue⟩:=YV IE;exact .inl (ky m hc hd Jz λg f a' w' Hd=>next g f d h2 a' w' Ue (aEJ.trans ((rR hc hd).mono mU)) Hd)
   .cases IE
  .rw[Ag (by rw[Lq Jz hg];simp)];exact next U1 Z _ h _ w IE (aEJ.trans (.put λs hs=>mU s (Cw _ hs))) (Jz.put λ_ _=>rfl)
def mV{W:List Nat}{d:Option Nat}{σ σ':BJ}(h:Mr d σ σ')(hd:∀s∈d.toList,s∈W):FN W σ σ':=by
 unfold Mr at h;cases d with
 |none=>simp only at h;rw[h];exact .refl _ _
 |some d=>
  simp only at h;split at h;.obtain⟨b,_,rfl⟩:=h;exact .set (hd d Ax)
  .rw[h];exact .refl _ _
def mW{ops:List Oper}{an:List Nat}{W:List Nat}(hW:∀o∈ops,∀s∈D6 ops o,s∈W){fl:List Kb}{L:List St}{σ σf:BJ}{h hf:Ah}(hs:Steps C fid ops run an fl L σ h σf hf):FN W σ σf:=by
 induction hs with
 |nil=>exact .refl _ _
 |cons h1 _ _ ih=>
  refine FN.trans ?_ ih;obtain⟨o,ho,⟨_,_,_,rfl,rfl⟩|⟨r,b,hg,hc,_,hd,_,ha⟩⟩:=h1;.exact .put λs hs=>hW o (Cv ho) s (Cw _ hs)
  .refine((rR hc hd).mono λs hs=>hW o (Cv ho) s hs).trans (mV ha λs hs=>?_);split at hs;.exact hW o (Cv ho) s (Cw _ hs)
   .simp at hs
def Wo(hm:C.P.follows .mixedOrders=true)(f:ER C run){id:Nat}{ops:Array Oper}{draw:Bool}{Q:Exit->Act->World->Prop}{K:BJ->IT}{R:Jy}(AG:IT.step (B7 C) run (RG C fid ops.toList draw σ K) h=some R)(hr:CX C U0 w0 U Z σ h a w)
  (hQ:∀d c σ' h' a' w',IT.step (B7 C) run (K σ') h'=some R->FN (ops.toList.flatMap (D6 ops.toList)++ops.toList.flatMap (Fh ops.toList)) σ σ'->CX C U0 w0 d c σ' h' a' w'->Q .normal a' w'):(Code.region id ops draw).wp C.P Q a w:=by
 unfold RG at AG;cases draw with
 |false=>refine wp_region ?_;have:=rS (W:=ops.toList.flatMap (D6 ops.toList)++ops.toList.flatMap (Fh ops.toList)) f ops.toList 0 U Z σ h a w rfl (λo ho=>⟨λs hs=>Cw _ (qM.2 ⟨o,ho,hs⟩),λs hs=>BK _ (qM.2 ⟨o,ho,hs⟩)⟩) AG hr hQ;simpa[aHT] using this
 |true=>
  simp only[BD] at AG;split at AG
  .rename_i FI;obtain⟨L,σf,hf,h1,h2,g⟩:=QZ AG;refine wp_region_any hm ?_;have Ŭ:=h2;unfold VQ at Ŭ;simp only[SP,BO,AO] at Ŭ;have aEL:rQ (VO ops.toList) L:=by have:=Zd Ŭ.1;rw[HC] at this;exact this
   have hlt:=h1.lt;have Z8:∀i,i<ops.size->i∈L.map (·.idx):=λi hi=>by have:=CK.1 Ŭ.2 i (by simpa using hi);simpa using this
   have b:(L.map (·.idx)).Nodup:=by rw[List.Nodup,HC];exact aEL.imp λh=>h.1
   have hlen:L.length=ops.size:=by
    have p1:(L.map (·.idx)).length<=(List.range ops.size).length:=NU b (λi hi=>by obtain⟨s,hs,rfl⟩:=AZ.1 hi;simpa using hlt s hs)
    have p2:(List.range ops.size).length<=(L.map (·.idx)).length:=NU List.nodup_range λi hi=>Z8 i (by simpa using hi);simp at p1 p2;omega
   have zR:=mW (W:=ops.toList.flatMap (D6 ops.toList)++ops.toList.flatMap (Fh ops.toList)) (λo ho s hs=>Cw _ (qM.2 ⟨o,ho,hs⟩)) h1;refine ah f FI (λd c a' w' Hd=>hQ d c σf hf a' w' g zR Hd) ops.size L _ U Z σ h a w.drew hlen h1 aEL ⟨Ax,λi hi=>⟨λ_=>Z8 i hi,λ_=>by simp[Array.getD,hi]⟩,λj hj e _=>?_⟩ hr.drew;exfalso;rcases Bk j ops.size with hlt|Hh
   .simp[Array.getD,hlt] at hj
   .simp[Array.getD,Nat.not_lt.2 Hh] at hj
  .cases AG
end
end Go.Am
end
section
namespace Go.Am
open Go
def P1(x y:D3):Prop:=
 (∃u,x.GV=some u/\y= .val u)\/(∃v,x= .BM v/\y= .BM v)\/∃ver cs ow FX Nz,x= .box ver cs ow/\y= .box FX cs Nz/\∀o∈Nz,o∈ow
def BJ.Ib:∀(ws:List Nat) (σ:BJ) (s:Nat),(σ.clear ws).at s=if s∈ws then .undef else σ.at s
 |[],σ,s=>by simp[BJ.clear]
 |t::ws,σ,s=>by
  rw[BJ.clear,BJ.Ib ws];by_cases h:s∈ws;.simp[h]
  .by_cases h2:s=t
   .subst h2;rw[BJ.Wi];by_cases hl:s<σ.length;.simp[hl]
    .have:σ.at s= .undef:=by simp[BJ.at,List.getD,hl]
     simp[h,hl,this]
   .rw[BJ.FM λe=>h2 e.symm];simp[h,h2]
def BJ.JJ:∀(ws:List Nat) (σ:BJ),(σ.clear ws).length=σ.length
 |[],σ=>rfl
 |t::ws,σ=>by rw[BJ.clear,BJ.JJ ws];simp
section
variable{C:FB}{U0 U:Gh}{w0 w:World}{Z:Nat->Nat}{σ:BJ}{h:Ah}{a:Act}{fid:FuncId}{run:IT->Ah->Option Jy}
def P1.rel{B s:Nat}{x y:D3}{v:Value}(hx:Lg U Z B w s x v)(hf:P1 x y):Lg U Z B w s y v:=by
 rcases hf with⟨u,hu,rfl⟩|⟨u,rfl,rfl⟩|⟨ver,cs,ow,FX,Nz,rfl,rfl,Wm⟩
 .exact M4 hx hu
 .exact hx
 .obtain⟨p1,p2,g,us,e,f,d,c,b⟩:=hx;exact⟨p1,p2,g,us,e,f,d,c,λo ho=>b o (Wm o ho)⟩
def Uf{σs:BJ}{G:BJ->IT}{R:Jy}{vs:List Aa}:∀{l:List (Nat×Sh)} {i:Nat} {σa:BJ},VR σs l=some (vs.drop i)->σa.length=σs.length->IT.step (B7 C) run (Ja vs l i σa G) h=some R->
  ∃b,IT.step (B7 C) run (G b) h=some R/\b.length=σa.length/\(∀s,s∉l.map (·.1)->b.at s=σa.at s)/\(∀s,s∈l.map (·.1)->P1 (σs.at s) (b.at s)/\
   ((∃FX Gx Nz,b.at s= .box FX Gx Nz/\YS (σa.at s)<FX)\/∀ver cs ow,σs.at s≠ .box ver cs ow))
 |[],i,σa,_,_,hr=>⟨σa,hr,rfl,λ_ _=>rfl,Ax⟩
 |(s,sh)::l,i,σa,hv,hl,hr=>by
  have hd:∃v Hv,vs.drop i=v::Hv/\vs.drop (i+1)=Hv/\vs.getD i .nilIface=v/\VR σs l=some Hv/\
    (match(generalizing:=false) sh,σs.at s with| .val,x=>x.GV| .BM,.BM v=>some v| .box n ow,.box _ cs Nz=>if cs.length=n/\ow.all (Nz.contains ·) then some (.agg cs) else none|_,_=>none)=some v:=by
   unfold VR at hv;simp only at hv;split at hv
   .rename_i v Hv h1 h2;simp only[Bx] at hv;refine⟨v,Hv,hv.symm,?_,?_,h2,h1⟩;.have:=B5 (List.drop 1) hv;simpa[Ez] using this.symm
    .have:=B5 (·[0]?) hv;simp only[Il,Cr,Bl] at this;simp[List.getD,<-this]
   .cases hv
  obtain⟨v,Hv,r,aJu,aH,Qv,RW⟩:=hd;have hlt:s<σa.length:=by rw[hl];refine BJ.OY λe=>?_;rw[e] at RW;cases sh<;>simp[D3.GV] at RW
  have go:∀(y:D3),P1 (σs.at s) y->((∃FX Gx Nz,y= .box FX Gx Nz/\YS (σa.at s)<FX)\/∀ver cs ow,σs.at s≠ .box ver cs ow)->IT.step (B7 C) run (Ja vs l (i+1) (σa.set s y) G) h=some R->
    ∃b,IT.step (B7 C) run (G b) h=some R/\b.length=σa.length/\(∀t,t∉((s,sh)::l).map (·.1)->b.at t=σa.at t)/\(∀t,t∈((s,sh)::l).map (·.1)->P1 (σs.at t) (b.at t)/\
     ((∃FX Gx Nz,b.at t= .box FX Gx Nz/\YS (σa.at t)<FX)\/∀ver cs ow,σs.at t≠ .box ver cs ow)):=by
   intro y hy c Hd;obtain⟨b,q,p,j,m⟩:=Uf (l:=l) (i:=i+1) (σa:=σa.set s y) (by rw[aJu];exact Qv) (by simpa using hl) Hd;refine⟨b,q,by simpa using p,λt ht=>?_,λt ht=>?_⟩;.simp only[A0,AE,PL] at ht;rw[j t ht.2,BJ.FM λe=>ht.1 e.symm]
   .by_cases hm:t∈l.map (·.1)
    .obtain⟨g,k⟩:=m t hm;refine⟨g,k.imp (λ⟨FX,Gx,Nz,f,d⟩=>⟨FX,Gx,Nz,f,?_⟩) id⟩;by_cases aD:s=t
     .subst aD;rw[BJ.E3 hlt] at d;rcases c with⟨z,B,A,rfl,h1⟩|hn
      .simp only[YS] at d;omega
      .rcases g with⟨u,_,e⟩|⟨u,_,e⟩|⟨ver,cs,ow,_,_,e,_⟩
       .rw[f] at e;cases e
       .rw[f] at e;cases e
       .exact absurd e (hn _ _ _)
     .rwa [BJ.FM aD] at d
    .have aD:t=s:=by simp only[A0,AE] at ht;exact ht.resolve_right hm
     subst aD;rw[j t hm,BJ.E3 hlt];exact⟨hy,c⟩
  cases sh with
  |val=>
   simp only[Ja,aH] at hr;have ls:(σs.at s).GV=some v:=by simpa using RW
   refine go (.val v) (.inl ⟨v,ls,rfl⟩) (.inr λver cs ow e=>?_) hr;rw[e] at ls;cases ls
  |BM=>
   simp only[Ja,aH] at hr;cases hx:σs.at s with
   |BM u=>rw[hx] at RW;cases RW;exact go (.BM v) (.inr (.inl ⟨v,hx,rfl⟩)) (.inr λver cs ow e=>by rw[hx] at e;cases e) hr
   |_=>rw[hx] at RW;cases RW
  |box n ow=>
   simp only[Ja,aH,IT.step] at hr;cases hx:σs.at s with
   |box ver cs Nz=>
    rw[hx] at RW;simp only at RW;split at RW
    .rename_i Hw;cases RW;split at hr;.rename_i hn;rw[Td hn] at hr;refine go (.box (YS (σa.at s)+1) cs ow) (.inr (.inr ⟨ver,cs,Nz,_,ow,hx,rfl,λo ho=>?_⟩)) (.inl ⟨_,_,_,rfl,SQ _⟩) hr;have:=CK.1 Hw.2 o ho;simpa using this
     .cases hr
    .cases RW
   |_=>rw[hx] at RW;cases RW
def CX.ŭ(hr:CX C U0 w0 U Z σ h a w){O:BJ}(hl:O.length=σ.length)(hs:∀s,O.at s= .undef\/O.at s=σ.at s\/P1 (σ.at s) (O.at s)):CX C U0 w0 U Z O h a w:=by
 refine⟨hr.DI,⟨by rw[hl];exact hr.fr.size,λs=>?_⟩,hr.DD,hr.defers,hr.Gy⟩;have h0:=hr.fr.HS s;rcases hs s with e|e|e
 .rw[e];trivial
 .rw[e];exact h0
 .exact e.rel h0
structure ly(σ0:BJ)(ws:List Nat)(l:List (Nat×Sh))(σ':BJ)(vs:List Aa):Prop where
 vec:VR σ' l=some vs
 len:σ'.length=σ0.length
 same:∀s,s∉l.map (·.1)->σ0.at s= .undef\/σ0.at s=σ'.at s
 box:∀s ver cs ow,σ0.at s= .box ver cs ow->∃FX Gx Nz,σ'.at s= .box FX Gx Nz
def gP{σ0 σ':BJ}{l:List (Nat×Sh)}(hk:lT σ0 σ' l=true){s:Nat}(hs:s∉l.map (·.1)):(∀ver cs ow,σ0.at s= .box ver cs ow->∃Gx Nz,σ'.at s= .box ver Gx Nz)/\(∀t o,σ0.at s= .EW t o->∃t' o',σ'.at s= .EW t' o'):=by
 have hc:(l.map (·.1)).contains s=false:=by
  cases hc:(l.map (·.1)).contains s with
  |false=>rfl
  |true=>exact absurd (by simpa using hc) hs
 have f_:s<σ0.length->(match σ0.at s with
   | .box ver _ _=>(l.map (·.1)).contains s||(match σ'.at s with| .box FX _ _=>FX==ver|_=>false)
   | .EW _ _=>(l.map (·.1)).contains s||(match σ'.at s with| .EW _ _=>true|_=>false)
   |_=>true)=true:=λhl=>by
  unfold lT at hk;exact CK.1 hk s (by simpa using hl)
 constructor
 .intro ver cs ow hx;have:=f_ (BJ.OY (by rw[hx];simp));rw[hx] at this;simp only[hc,I8] at this;split at this
  .rename_i FX Gx Nz hy;have e:FX=ver:=by simpa using this
   subst e;exact⟨Gx,Nz,hy⟩
  .cases this
 .intro t o hx;have:=f_ (BJ.OY (by rw[hx];simp));rw[hx] at this;simp only[hc,I8] at this;split at this;.rename_i t' o' hy;exact⟨t',o',hy⟩
  .cases this
def O8{σ0 b σ':BJ}{ws:List Nat}{l:List (Nat×Sh)}{x:FO}{R:Jy}(UU:IT.step (B7 C) run (EI σ0 l x σ') h=some R)(zR:FN ws b σ')(hlen:b.length=σ0.length)
  (fA:∀s,s∈ws->σ0.at s= .undef) (M2:∀s,s∉l.map (·.1)->σ0.at s= .undef\/σ0.at s=b.at s) (aJv:∀s ver cs ow,σ0.at s= .box ver cs ow->∃FX Gx Nz,b.at s= .box FX Gx Nz):
  ∃vs,R=(x,vs,h)/\ly σ0 ws l σ' vs:=by
 unfold EI at UU;split at UU
 .rename_i hk;split at UU
  .rename_i vs hv;cases UU;refine⟨vs,rfl,hv,zR.1.trans hlen,λs hs=>?_,λs ver cs ow hb=>?_⟩
   .by_cases hw:s∈ws;.exact .inl (fA s hw)
    .rcases M2 s hs with e|e
     .exact .inl e
     .right;have Ya:=zR.2 s hw;obtain⟨i,g⟩:=gP hk hs;rw[e] at i g⊢;cases hx:b.at s with
      |box ver cs ow=>rw[hx] at Ya;obtain⟨m,p,n,c,_,d⟩:=Ya;obtain⟨k,f,j⟩:=i ver cs ow hx;rw[c] at j;cases j;obtain⟨rfl,rfl⟩:=d rfl;exact c.symm
      |EW t o=>
       rw[hx] at Ya;rcases Ya with c|c
       .exact c.symm
       .obtain⟨t',o',d⟩:=g t o hx;rw[c] at d;cases d
      |_=>rw[hx] at Ya;exact(show σ'.at s=_ from Ya).symm
   .have hw:s∉ws:=λhw=>by rw[fA s hw] at hb;cases hb
    obtain⟨m,p,n,c⟩:=aJv s ver cs ow hb;have Ya:=zR.2 s hw;rw[c] at Ya;obtain⟨v2,k,f,d,_⟩:=Ya;exact⟨v2,k,f,d⟩
  .cases UU
 .cases UU
def ly.next{σ0 σ':BJ}{ws:List Nat}{l:List (Nat×Sh)}{vs:List Aa}(he:ly σ0 ws l σ' vs){G:BJ->IT}{R:Jy}(hr:CX C U0 w0 U Z σ' h a w)(AG:IT.step (B7 C) run (Ja vs l 0 σ0 G) h=some R):
  ∃b,IT.step (B7 C) run (G b) h=some R/\CX C U0 w0 U Z b h a w/\b.length=σ0.length/\(∀s,s∉l.map (·.1)->b.at s=σ0.at s)/\(∀s ver cs ow,σ0.at s= .box ver cs ow->∃FX Gx Nz,b.at s= .box FX Gx Nz/\(s∈l.map (·.1)->ver<FX)):=by
 obtain⟨b,i,f,c,d⟩:=Uf (σs:=σ') (by simpa using he.vec) he.len.symm AG;refine⟨b,i,hr.ŭ (f.trans he.len.symm) λs=>?_,f,c,λs ver cs ow hb=>?_⟩
 .by_cases hm:s∈l.map (·.1);.exact .inr (.inr (d s hm).1)
  .rw[c s hm];rcases he.same s hm with e|e
   .exact .inl e
   .exact .inr (.inl e)
 .by_cases hm:s∈l.map (·.1)
  .obtain⟨_,q⟩:=d s hm;obtain⟨m,o,n,k⟩:=he.box s ver cs ow hb;rcases q with⟨FX,Gx,Nz,j,g⟩|q
   .exact⟨FX,Gx,Nz,j,λ_=>by rw[hb] at g;exact g⟩
   .exact absurd k (q _ _ _)
  .exact⟨ver,cs,ow,by rw[c s hm];exact hb,λh=>absurd h hm⟩
def O9{σ σ0 b:BJ}{ws W:List Nat}{l:List (Nat×Sh)}(h0:σ0=σ.clear ws)(hv:ij l ws σ=true)(hl:b.length=σ0.length)(h1:∀s,s∉l.map (·.1)->b.at s=σ0.at s)
  (h2:∀s ver cs ow,σ0.at s= .box ver cs ow->∃FX Gx Nz,b.at s= .box FX Gx Nz/\(s∈l.map (·.1)->ver<FX)) (hW:∀s∈ws,s∈W):FN W σ b:=by
 refine⟨by rw[hl,h0,BJ.JJ],λs hs=>?_⟩;have xg:s∉ws:=λhm=>hs (hW s hm);have e0:σ0.at s=σ.at s:=by rw[h0,BJ.Ib,Ag xg]
 by_cases hm:s∈l.map (·.1)
 .obtain⟨p,hp,rfl⟩:=AZ.1 hm;have:=CK.1 hv p hp;simp only[On,aEi] at this;rcases this with this|this
  .exact absurd this xg
  .cases hx:σ.at p.1 with
   |box ver cs ow=>obtain⟨c,i,d,g,f⟩:=h2 p.1 ver cs ow (by rw[e0];exact hx);have:=f hm;exact⟨c,i,d,g,Ac,λe=>Ac⟩
   |_=>rw[hx] at this;cases this
 .rw[h1 s hm,e0];exact .refl _
def ER.le{n m:Nat}(h:ER C (IT.run (B7 C) n))(ě:m<=n):ER C (IT.run (B7 C) m):=⟨h.1,λf args h0 r h' AG=>h.2 f args h0 r h' (IT.HK ě AG)⟩
def lz(hm:C.P.follows .mixedOrders=true):∀(c:Code) (n:Nat),ER C (IT.run (B7 C) n)->∀{K:FO->BJ->IT} {R:Jy} {σ:BJ} {h:Ah} {a:Act} {w:World} {U:Gh} {Z:Nat->Nat} {Q:Exit->Act->World->Prop},
  IT.step (B7 C) (IT.run (B7 C) n) (FY C fid c σ K) h=some R->CX C U0 w0 U Z σ h a w->
  (∀x f d σ' h' a' w',IT.step (B7 C) (IT.run (B7 C) n) (K x σ') h'=some R->FN (CZ c++B8 c) σ σ'->CX C U0 w0 f d σ' h' a' w'->Q (lp x) a' w')->c.wp C.P Q a w:=by
 intro c;induction c with
 |skip=>intro n p K R σ h a w U Z Q AG hr g;exact wp_skip (g .normal U Z σ h a w AG (.refl _ _) hr)
 |region id ops draw=>
  intro n p K R σ h a w U Z Q AG hr g;simp only[FY] at AG;split at AG;.exact Wo hm p AG hr λf d σ' h' a' w' h1 h2 A=>g .normal f d σ' h' a' w' h1 h2 A
  .rename_i l hl;unfold Z7 at AG;simp only at AG;split at AG
   .rename_i hv;simp only[IT.step] at AG;split at AG
    .rename_i x vs h1 Wp;refine Wo hm p Wp hr λf d σ' h' a' w' z u q=>?_;obtain⟨Hv,e,he⟩:=O8 (h:=h') z u (by rw[BJ.JJ]) (λs hs=>by rw[BJ.Ib,Af hs]) (λs _=>by rw[BJ.Ib];split<;>simp) (λs ver cs ow hb=>by
      rw[BJ.Ib] at hb;split at hb;.cases hb
      .exact⟨ver,cs,ow,hb⟩)
     cases e;obtain⟨k,p1,p2,I,G,F⟩:=he.next q AG;exact g .normal f d k h1 a' w' p1 (O9 rfl hv I G F (λs hs=>hs)) p2
    .cases AG
   .cases AG
 |seq x y D B=>
  intro n p K R σ h a w U Z Q AG hr g;simp only[FY] at AG;refine wp_seq (D n p AG hr λe f d σ' h' a' w' h1 h2 A=>?_);have up:∀j,FN (CZ x++B8 x) σ j->FN (CZ (.seq x y)++B8 (.seq x y)) σ j:=λj ho=>ho.mono λs hs=>by simp only[CZ,B8,Aq] at hs⊢;rcases hs with hs|hs<;>simp[hs]
  cases e with
  |normal=>refine B n p h1 A λT U2 Z2 j fB a2 V z u q=>g T U2 Z2 j fB a2 V z ((up _ h2).trans (u.mono λs hs=>?_)) q;simp only[CZ,B8,Aq] at hs⊢;rcases hs with hs|hs<;>simp[hs]
  |exit i=>exact g (.exit i) f d σ' h' a' w' h1 (up _ h2) A
  |ret=>exact g .ret f d σ' h' a' w' h1 (up _ h2) A
 |cond c x y D B=>
  intro n p K R σ h a w U Z Q AG hr g;have L:∀{o j:BJ},FN (CZ x++B8 x) o j->FN (CZ (.cond c x y)++B8 (.cond c x y)) o j:=λ{o j} ho=>ho.mono λs hs=>by cases c<;>simp only[CZ,B8,Aq,AE] at hs⊢<;>rcases hs with hs|hs<;>simp[hs]
  have J:∀{o j:BJ},FN (CZ y++B8 y) o j->FN (CZ (.cond c x y)++B8 (.cond c x y)) o j:=λ{o j} ho=>ho.mono λs hs=>by cases c<;>simp only[CZ,B8,Aq,AE] at hs⊢<;>rcases hs with hs|hs<;>simp[hs]
  simp only[FY] at AG;split at AG;.rename_i hc;obtain⟨s,h1,_⟩:=FZ hr hc;exact wp_cond_true h1 (D n p AG hr λe f d σ' h' a' w' z u q=>g e f d σ' h' a' w' z (L u) q)
  .rename_i hc;obtain⟨s,h1,_⟩:=FZ hr hc;exact wp_cond_false h1 (B n p AG hr λe f d σ' h' a' w' z u q=>g e f d σ' h' a' w' z (J u) q)
  .rename_i s v hc;have Đ:σ.at s= .val v:=GC hc;have h0:=hr.fr.HS s;rw[Đ] at h0;have E:∀{N:FO->BJ->IT} {R':Jy} {Q':Exit->Act->World->Prop},IT.step (B7 C) (IT.run (B7 C) n) (.AH v (FY C fid x (σ.set s (.OL true)) N) (FY C fid y (σ.set s (.OL false)) N)) h=some R'->
     (∀e f d σ' h' a' w',IT.step (B7 C) (IT.run (B7 C) n) (N e σ') h'=some R'->FN (CZ (.cond (.tmp s) x y)++B8 (.cond (.tmp s) x y)) σ σ'->CX C U0 w0 f d σ' h' a' w'->Q' (lp e) a' w')->(Code.cond (.tmp s) x y).wp C.P Q' a w:=by
    intro N R' Q' Wn M;have aa:∀b:Bool,FN (CZ (.cond (.tmp s) x y)++B8 (.cond (.tmp s) x y)) σ (σ.set s (.OL b)):=λb=> .set (by simp[B8]);simp only[IT.step] at Wn;split at Wn;.have hv:a.eval (.tmp s)= .bool true:=h0;exact wp_cond_true hv (D n p Wn (hr.fM h0) λe f d σ' h' a' w' z u q=>M e f d σ' h' a' w' z ((aa true).trans (L u)) q)
    .have hv:a.eval (.tmp s)= .bool false:=h0;exact wp_cond_false hv (B n p Wn (hr.fM h0) λe f d σ' h' a' w' z u q=>M e f d σ' h' a' w' z ((aa false).trans (J u)) q)
    .cases Wn
   split at AG;.exact E AG g
   .rename_i l hl;unfold Z7 at AG;simp only at AG;split at AG
    .rename_i hv;simp only[IT.step] at AG;split at AG
     .rename_i e vs h1 Wp;refine E Wp λT f d σ' h' a' w' z u q=>?_;obtain⟨Hv,eq,he⟩:=O8 (h:=h') (ws:=s::(CZ x++CZ y++B8 x++B8 y)) z (u.mono λt ht=>by
        simp only[CZ,B8,Aq,AE] at ht⊢;rcases ht with(ht|ht)|ht|ht|ht<;>simp[ht]) (by rw[BJ.JJ]) (λt ht=>by rw[BJ.Ib,Af ht]) (λt _=>by rw[BJ.Ib];split<;>simp) (λt ver cs ow hb=>by
       rw[BJ.Ib] at hb;split at hb;.cases hb
       .exact⟨ver,cs,ow,hb⟩)
      cases eq;obtain⟨k,p1,p2,I,G,F⟩:=he.next q AG;exact g e f d k h1 a' w' p1 (O9 rfl hv I G F (λt ht=>by simp only[CZ,B8,Aq,AE] at ht⊢;rcases ht with ht|((ht|ht)|ht)|ht<;>simp[ht])) p2
     .cases AG
    .cases AG
  .cases AG
 |block id b ih=>
  intro n p K R σ h a w U Z Q AG hr g;simp only[FY] at AG;refine wp_block (ih n p AG hr λe f d σ' h' a' w' h1 h2 A=>?_);cases e with
  |normal=>exact g .normal f d σ' h' a' w' h1 h2 A
  |exit i=>
   simp only at h1;show if i=id then Q .normal a' w' else Q (.exit i) a' w'
   by_cases hi:i=id;.rw[Af hi] at h1⊢;exact g .normal f d σ' h' a' w' h1 h2 A
   .rw[Ag hi] at h1⊢;exact g (.exit i) f d σ' h' a' w' h1 h2 A
  |ret=>exact g .ret f d σ' h' a' w' h1 h2 A
 |loop b ih=>
  intro n p K R σ h a w U Z Q AG hr g;simp only[FY] at AG;generalize hl:C.ŏ fid ((Gm b).getD 0)=l at AG;generalize aPl:(Gm b).getD 0=key at AG;generalize h0:σ.clear (CZ b++B8 b)=σ0 at AG;split at AG
  .rename_i hv;split at AG;.cases AG
   .rename_i init aEM;have aEN:σ0.length=σ.length:=by rw[<-h0,BJ.JJ]
    have fA:∀s,s∈CZ b++B8 b->σ0.at s= .undef:=λs hs=>by rw[<-h0,BJ.Ib,Af hs]
    refine aP (λm a w=>∃U Z o h vs,CX C U0 w0 U Z o h a w/\ly σ0 (CZ b++B8 b) l o vs/\m<=n+1/\
     IT.run (B7 C) m (.loop key vs (λvs=>Ja vs l 0 σ0 λk=>FY C fid b k λx σ'=>EI σ0 l x σ') λx vs=>Ja vs l 0 σ0 λσ'=>ċ K x σ') h=some R) ?_ (n+1) a w
     ⟨U,Z,σ,h,init,hr,⟨aEM,aEN.symm,λs _=>by rw[<-h0,BJ.Ib];split<;>simp,λs ver cs ow hb=>by
      rw[<-h0,BJ.Ib] at hb;split at hb;.cases hb
      .exact⟨ver,cs,ow,hb⟩⟩,Ab _,AG⟩
    rintro m a1 w1 ⟨U1,Z1,o,h1,vs,Jz,O,ě,IE⟩;cases m with
    |zero=>simp[IT.run] at IE
    |succ m=>
     simp only[IT.run,IT.step] at IE;have body:∀{x:FO} {Hv:List Aa} {h':Ah},IT.step (B7 C) (IT.run (B7 C) m) (Ja vs l 0 σ0 λk=>FY C fid b k λx σ'=>EI σ0 l x σ') h1=some (x,Hv,h')->∀{Q':Exit->Act->World->Prop},
       (∀f d σ' a' w',CX C U0 w0 f d σ' h' a' w'->ly σ0 (CZ b++B8 b) l σ' Hv->Q' (lp x) a' w')->b.wp C.P Q' a1 w1:=by
      intro x Hv h' hb Q' S;obtain⟨k,p1,p2,I,G,F⟩:=O.next Jz hb;refine ih m (p.le Ac) p1 p2 λy f d σ' h2 a' w' z u q=>?_;obtain⟨X,eq,he⟩:=O8 z u I fA (λs hs=> .inr (G s hs).symm) λs ver cs ow hb=>by obtain⟨Y,c1,o1,e1,_⟩:=F s ver cs ow hb;exact⟨Y,c1,o1,e1⟩
      cases eq;exact S f d σ' a' w' q he
     split at IE;.rename_i Hv h' hb;exact body hb λf d σ' a' w' Hd aR=>⟨m,SQ m,f,d,σ',h',Hv,Hd,aR,Ac,IE⟩
     .rename_i x Hv h' hne hb;refine body hb λf d σ' a' w' Hd aR=>?_;have Ue:=IT.Jl (λt h r=>IT.HK (fn:=B7 C) (Ac:m<=n)) _ _ _ IE;obtain⟨k,p1,p2,I,G,F⟩:=aR.next Hd Ue;have ho:=O9 h0.symm hv I G F λs hs=>hs;cases x with
      |normal=>exact absurd rfl hne
      |exit i=>exact g _ f d k h' a' w' p1 ho p2
      |ret=>exact g _ f d k h' a' w' p1 ho p2
     .cases IE
  .cases AG
 |exit id=>intro n p K R σ h a w U Z Q AG hr g;exact wp_exit (g (.exit id) U Z σ h a w AG (.refl _ _) hr)
 |ret=>intro n p K R σ h a w U Z Q AG hr g;exact wp_ret (g .ret U Z σ h a w AG (.refl _ _) hr)
 |label l=>intro n p K R σ h a w U Z Q AG hr g;exact wp_label (g .normal U Z σ h a w AG (.refl _ _) hr)
 |scope b ih=>
  intro n p K R σ h a w U Z Q AG hr g;simp only[FY] at AG;refine wp_scope_straight (ih n p AG hr λe f d σ' h' a' w' h1 h2 A=>?_);cases e with
  |normal=>exact g .normal f d σ' h' a' w' h1 h2 A
  |exit i=>exact g (.exit i) f d σ' h' a' w' h1 h2 A
  |ret=>exact g .ret f d σ' h' a' w' h1 h2 A
 |_=>intros n p K R σ h a w U Z Q AG hr g;cases AG
end
end Go.Am
end
section
namespace Go.Am
open Go
section
variable{C:FB}{U0 U:Gh}{w0 w:World}{Z:Nat->Nat}{σ:BJ}{h:Ah}{a:Act}{fid:FuncId}{run:IT->Ah->Option Jy}
def Ic(tmps:Array Value):ResultVar->Sem Value
 | .tmp t=>pure (tmps.getD t undef)
 | .cell a t=>do loadVar t (<-asAddr (tmps.getD a undef))
def RX{P:Program}{t:TypeId}{b o:Nat}{v:Value}(h:(Instr.loadAt t (.pointer (some ⟨b,o,none⟩))).run P w= .ok v w):(loadVar t ⟨b,o,none⟩).run P w= .ok v w:=by simpa[Instr.loadAt,Instr.sureAddr] using h
def Ug{K:List Aa->IT}{R:Jy}:∀{rs:List ResultVar} {DD:List Aa},IT.step (B7 C) run (Gg C σ rs DD K) h=some R->CX C U0 w0 U Z σ h a w->
  ∃vs us,(rs.mapM (Ic a.tmps)).run C.P w= .ok us w/\AV U vs us/\IT.step (B7 C) run (K (DD.reverse++vs)) h=some R
 |[],DD,AG,hr=>⟨[],[],Ax,rfl,by simpa[Gg] using AG⟩
 |c::rs,DD,AG,hr=>by
  have one:∀(v:Aa) (u:Value),(Ic a.tmps c).run C.P w= .ok u w->BI U v u->IT.step (B7 C) run (Gg C σ rs (v::DD) K) h=some R->
    ∃vs us,((c::rs).mapM (Ic a.tmps)).run C.P w= .ok us w/\AV U vs us/\IT.step (B7 C) run (K (DD.reverse++vs)) h=some R:=by
   intro v u h1 h2 g;obtain⟨vs,us,q,m,l⟩:=Ug g hr;refine⟨v::vs,u::us,?_,⟨u,us,rfl,h2,m⟩,by simpa using l⟩;simp[List.mapM_cons,h1,q]
  cases c with
  |tmp t=>
   simp only[Gg] at AG;split at AG;.rename_i v hv;exact one v _ (by simp[Ic]) (M4 (hr.fr.HS t) hv) AG
   .cases AG
  |cell p t=>
   have Ů:∀(b o:Nat) (v:Aa),a.tmps.getD p undef= .pointer (some ⟨b,o,none⟩)->(∃u,(Instr.loadAt t (.pointer (some ⟨b,o,none⟩))).run C.P w= .ok u w/\BI U v u)->IT.step (B7 C) run (Gg C σ rs (v::DD) K) h=some R->
     ∃vs us,((ResultVar.cell p t::rs).mapM (Ic a.tmps)).run C.P w= .ok us w/\AV U vs us/\IT.step (B7 C) run (K (DD.reverse++vs)) h=some R:=by
    intro b o v hp ⟨u,h1,h2⟩ g;refine one v u ?_ h2 g;simp only[Ic,hp,asAddr,Sem.run_bind,Sem.run_pure,Result.andThen_ok];exact RX h1
   simp only[Gg] at AG;split at AG
   .rename_i s off ver cs ow ht ha;split at AG;.rename_i hlt;obtain⟨hs,hx⟩:=KS hr ha;obtain⟨u,f,d,_⟩:=KE hr ht hs (r:=cs.getD off .nilIface) (off:=off) (by simp[E1,List.getD,Au hlt]);exact Ů _ _ _ hx ⟨u,f,d⟩ AG
    .cases AG
   .rename_i n s off ver cs ow ht ha;split at AG;.rename_i Ek;obtain⟨hs,hx⟩:=KS hr ha;obtain⟨u,f,d,_⟩:=KE hr ht hs (r:= .agg ((cs.drop off).take n)) (off:=off) (by simp[E1,Ek]);exact Ů _ _ _ hx ⟨u,f,d⟩ AG
    .cases AG
   .rename_i n p' ht ha;simp only[IT.step] at AG;split at AG
    .rename_i v hv;have rL:=QV hr ha;unfold Bi at hv;split at hv;.rename_i cs;obtain⟨b,k,gC,hm⟩:=rL;obtain⟨us,p1,p2⟩:=hm.values;exact Ů b k v gC (Ia (w:=w) ht p1 (λj u hj=>(hr.DI.HW _ _ _ (p2 j u hj)).1) (λu hu=>by obtain⟨j,hj⟩:=CF hu;exact(hr.DI.HW _ _ _ (p2 j u hj)).2.1) hv) AG
     .rename_i id off;obtain⟨b,hb,gC⟩:=rL;split at hv
      .rename_i cs hcs;obtain⟨us,e,fr,p1,pf,p2,i⟩:=hr.DI.cells id cs hcs b hb;refine Ů b off v gC (Ia (w:=w) (b:=b) (o:=off) ht (p2.drop off) (λj u hj=>?_) (λu hu=>i u (Bu hu)) (O2 hv)) AG;rw[cell_of_row w _ _ us e fr p1];rw[Cr,Cn] at hj;split at hj;.simpa using hj
       .cases hj
      .cases hv
     .cases hv
    .cases AG
   .cases AG
def CX.H6(hr:CX C U0 w0 U Z σ h a w){p:Aa}{off:Nat}{u:Value}{h':Ah}(hp:BI U p u)(hf:Kh h off p=some h'):∃m,CX C U0 w0 m Z σ h' a w:=by
 unfold Kh at hf;split at hf;.cases hf;exact⟨U,hr⟩
 .rename_i id k;generalize k+off=o at hf;obtain⟨b,hb,_⟩:=hp;split at hf
  .rename_i cs hcs;split at hf
   .rename_i v hv;obtain⟨us,e,fr,p1,pf,p2,r⟩:=hr.DI.cells id cs hcs b hb;obtain⟨x,hx,ś⟩:=p2.get hv;cases hq:KO h v with
    |none=>rw[hq] at hf;cases hf
    |some q=>
     obtain⟨h1,v'⟩:=q;rw[hq] at hf;simp only[Cj] at hf;split at hf
     .rename_i Gx aEO;cases hf;obtain⟨U1,Ek,Jz,jq⟩:=hr.UI ś hq;have S0:=Ek.mu _ _ hb;obtain⟨Ţ,s,l,f,g,r2,j⟩:=Jz.DI.cells id Gx aEO b S0;rw[p1] at f;cases f;have aa:AV U1 (Gx.set o v') (us.toList.take (Gx.set o v').length):=by
       rw[BY];refine AV.GB (by simp[r2.length]) λi y z hy hz=>?_;by_cases hi:o=i
       .subst hi;by_cases hlt:o<Gx.length
        .rw[AA hlt] at hy;cases hy;have d:x=z:=by rw[CL hlt] at hz;have aJx:o<cs.length:=(Aj.1 hv).1;rw[CL aJx] at hx;rw[hx] at hz;exact ED hz
         rw[<-d];exact jq
        .rw[C4 (by simpa using hlt)] at hy;cases hy
       .rw[Ao hi] at hy;obtain⟨n,Yd,c⟩:=r2.get hy;rw[hz] at Yd;cases Yd;exact c
      obtain⟨T9,RT⟩:=M1 Jz.DI aEO S0 p1 us (Gx.set o v') rfl g aa (by rw[BY];exact j);rw[setRow_self w b us e fr p1] at T9 RT;exact⟨U1,Jz.IB T9 RT⟩
     .cases hf
   .cases hf
  .cases hf
 .cases hf
def rT{t:IT}{R:Jy}:∀{l:List (Nat×Nat)} {U:Gh} {h:Ah},IT.step (B7 C) run (qY C σ l t) h=some R->CX C U0 w0 U Z σ h a w->∃b h',CX C U0 w0 b Z σ h' a w/\IT.step (B7 C) run t h'=some R
 |[],U,h,AG,hr=>⟨U,h,hr,AG⟩
 |(s,off)::l,U,h,AG,hr=>by
  simp only[qY] at AG;split at AG
  .rename_i p hp;simp only[IT.step] at AG;split at AG;.rename_i h1 hf;obtain⟨U1,Jz⟩:=hr.H6 (M4 (hr.fr.HS s) hp) hf;exact rT AG Jz
   .cases AG
  .cases AG
def Wq{R:Jy}:∀{vs DD:List Aa} {U:Gh} {h:Ah} {us fq:List Value},IT.step (B7 C) run (OW vs DD T1) h=some R->CX C U0 w0 U Z σ h a w->AV U vs us->AV U DD.reverse fq->
  ∃c h' Hv,CX C U0 w0 c Z σ h' a w/\AV c Hv (fq++us)/\IT.step (B7 C) run (T1 Hv) h'=some R
 |[],DD,U,h,us,fq,AG,hr,h1,h2=>by rw[show us=[] from h1,Bq];exact⟨U,h,DD.reverse,hr,h2,AG⟩
 |v::vs,DD,U,h,us,fq,AG,hr,h1,h2=>by
  obtain⟨u,Dq,rfl,hv,h1⟩:=h1;simp only[OW,IT.step] at AG;split at AG
  .rename_i k v' hf;obtain⟨U1,Ek,Jz,jq⟩:=hr.UI hv hf;have i:AV U1 (v'::DD).reverse (fq++[u]):=by rw[HD];exact(AV.mono Ek _ _ h2).append ⟨u,[],rfl,jq,rfl⟩
   obtain⟨j,g,b,f,e,d⟩:=Wq AG Jz (AV.mono Ek _ _ h1) i;exact⟨j,g,b,f,by rwa [AQ] at e,d⟩
  .cases AG
def rU{R:Jy}{vs:List Aa}{us:List Value}{U:Gh}{h:Ah}(AG:IT.step (B7 C) run (T1 vs) h=some R)(hv:AV U vs us):
  ∃r,R=(.ret,[r],h)/\BI U r (if c:us.toArray.size=1 then us.toArray[0] else .tuple us.toArray):=by
 unfold T1 at AG;split at AG;.rename_i v;obtain⟨u,Dq,rfl,b,hnil⟩:=hv;rw[show Dq=[] from hnil];simp only[IT.step] at AG;cases AG;exact⟨v,rfl,by simpa using b⟩
 .rename_i hne;simp only[IT.step] at AG;cases AG;have hlen:us.length≠1:=λe=>by have:=hv.length;rw[e] at this;obtain⟨v,hv⟩:=aDH.1 this.symm;exact hne v hv
  refine⟨_,rfl,?_⟩;rw[dif_neg (by simpa using hlen)];exact⟨us.toArray,rfl,by simpa using hv⟩
def Uh{fn:Func}{tmps:Array Value}{us:List Value}(h:(fn.results.toList.mapM (Ic tmps)).run C.P w= .ok us w):(results fn tmps).run C.P w= .ok (if b:us.toArray.size=1 then us.toArray[0] else .tuple us.toArray) w:=by
 have e:fn.results.mapM (Ic tmps)=(do let l<-fn.results.toList.mapM (Ic tmps);pure l.toArray:Sem (Array Value)):=by rw[Array.mapM_eq_mapM_toList];simp
 have c:results fn tmps=(do let vs<-fn.results.mapM (Ic tmps);pure (if b:vs.size=1 then vs[0] else .tuple vs):Sem Value):=by unfold results;congr 2
 rw[c,e];simp only[Sem.run_bind,h,Result.andThen_ok,Sem.run_pure]
def yt{fn:Func}{R:Jy}(AG:IT.step (B7 C) run (fL C fid fn σ) h=some R)(hr:CX C U0 w0 U Z σ h a w):
  ∃r h' v f,R=(.ret,[r],h')/\(results fn a.tmps).run C.P w= .ok v w/\Hi f h' w/\LB U0 w0 f w/\BI f r v/\(C.I9 fid=true->∃s c,IF f w0.heap.size w s c v r):=by
 unfold fL at AG;split at AG;.cases AG
 .rename_i Fp;obtain⟨U1,h1,Jz,IE⟩:=rT AG hr;by_cases ho:C.I9 fid=true
  .have g:∃t x,fn.results.toList=[.tmp t]/\σ.at t= .BM x:=by
    have:PU σ fn.results.toList=true:=by
     cases hq:PU σ fn.results.toList with
     |true=>rfl
     |false=>exact absurd (by simp[ho,hq]) Fp
    unfold PU at this;split at this
    .rename_i t J7;split at this;.rename_i x hx;exact⟨t,x,J7,hx⟩
     .cases this
    .cases this
   obtain⟨t,x,d,hx⟩:=g;have h0:=Jz.fr.HS t;rw[hx] at h0;have yu:=Uh (C:=C) (w:=w) (fn:=fn) (tmps:=a.tmps) (us:=[a.tmps.getD t undef]) (by rw[d];simp[Ic]);rw[d] at IE;simp only[Gg,hx,D3.GV,HD,SP,BO] at IE;have aEP:KO h1 x=some (h1,x):=by rcases h0.2 with(rfl|⟨_,rfl⟩)|⟨_,_,_,_,_,_,_,rfl,_⟩<;>rfl
   have hR:R=(.ret,[x],h1):=by
    split at IE;.simp only[OW,IT.step,aEP,HD,SP,BO,T1] at IE;cases IE;rfl
    .simp only[IT.step,T1] at IE;cases IE;rfl
   exact⟨x,h1,_,U1,hR,by simpa using yu,Jz.DI,Jz.DD,h0.1,λ_=>⟨t,none,h0.2⟩⟩
  .obtain⟨vs,us,n,k,Ue⟩:=Ug IE Jz;simp only[SP,BO] at Ue;have yu:=Uh (C:=C) n;split at Ue;.obtain⟨o,h2,l,j,i,m⟩:=Wq Ue Jz k (fq:=[]) rfl;rw[BO] at i;obtain⟨r,hR,b⟩:=rU m i;exact⟨r,h2,_,o,hR,yu,j.DI,j.DD,b,λe=>absurd e ho⟩
   .obtain⟨r,hR,b⟩:=rU Ue k;exact⟨r,h1,_,U1,hR,yu,Jz.DI,Jz.DD,b,λe=>absurd e ho⟩
def CX.start{U:Gh}{h:Ah}{w:World}(hi:Hi U h w)(hg:∀g cs,C.Gy g=some cs->CP U cs g 0){args:List Aa}{cargs:Array Value}(ha:AV U args cargs.toList)(n:Nat)(Z:Nat->Nat):
  CX C U w U Z (args.map .val++List.replicate (n-args.length) .undef) h {tmps:=cargs++Array.replicate (n-cargs.size) undef,defers:=[]} w:=by
 have hlen:cargs.size=args.length:=by have:=ha.length;simpa using this
 refine⟨hi,⟨by simp[hlen],λs=>?_⟩,LB.refl U w,rfl,hg⟩;by_cases hs:s<args.length
 .have h1:BJ.at (args.map .val++List.replicate (n-args.length) .undef) s= .val args[s]:=by simp[BJ.at,List.getD,An,hs]
  obtain⟨u,hu,hr⟩:=ha.get (Au hs);have h2:(cargs++Array.replicate (n-cargs.size) undef).getD s undef=u:=by
   rw[GJ,Array.getElem?_append_left Ac];have:cargs[s]?=some u:=by simpa using hu
   rw[this];rfl
  rw[h1,h2];exact hr
 .have h1:BJ.at (args.map .val++List.replicate (n-args.length) .undef) s= .undef:=by have hm:(args.map D3.val).length=args.length:=Ax;simp only[BJ.at,List.getD];rw[Bn Ac,List.getElem?_replicate];split<;>rfl
  rw[h1];trivial
def aS(C:FB):Prop:=
 (∀f,C.MG f=true->jx C f)/\∀(f:FuncId) (p:List Aa->IT),C.Ő f=some p->∀n,ER C (IT.run (B7 C) n)->∀(args:List Aa) (h:Ah) (r:Aa) (h':Ah),IT.step (B7 C) (IT.run (B7 C) n) (p args) h=some (.ret,[r],h')->
  (∃fn c,C.P.funcs[Ec f]?=some fn/\(fn.name== "runtime.NumGoroutine")=false/\fn.body=some c)/\
  ∀(U:Gh) (w:World) (cargs:Array Value),Hi U h w->(∀g cs,C.Gy g=some cs->CP U cs g 0)->AV U args cargs.toList->
   Calls C.P (Ec f) cargs w λe w'=>match e with
    | .returned v=>∃b,Hi b h' w'/\LB U w b w'/\BI b r v/\(C.I9 f=true->∃s c,IF b w.heap.size w' s c v r)
    |_=>False
def gQ(hm:C.P.follows .mixedOrders=true)(yv:∀g cs,C.Gy g=some cs->cs.all Aa.Mf=true)(Ĝ:aS C):∀n,ER C (IT.run (B7 C) n)
 |0=>⟨⟨yv,Ĝ.1⟩,λf args h r h' AG=>by simp[IT.run] at AG⟩
 |n+1=>⟨⟨yv,Ĝ.1⟩,λf args h r h' AG=>by
  have ih:=gQ hm yv Ĝ n;simp only[IT.run] at AG;unfold B7 at AG;split at AG;.rename_i p hp;exact Ĝ.2 f p hp n ih args h r h' AG
  unfold aEo at AG;split at AG
  .rename_i fn hf;split at AG;.cases AG
   .rename_i hname;unfold ir at AG;split at AG;.cases AG
    .rename_i c hb;refine⟨⟨fn,c,hf,by simpa using hname,hb⟩,λU w cargs hi hg ha=>calls_of_wp hf hb ?_⟩;refine lz (C:=C) (fid:=f) hm c n ih AG (CX.start hi hg ha fn.ntmps (λ_=>0)) λx q o σ' h1 a' w' d _ j=>?_;have ID:IT.step (B7 C) (IT.run (B7 C) n) (fL C f fn σ') h1=some (.ret,[r],h')->a'.defers=[]/\∃v,(results fn a'.tmps).run C.P w'= .ok v w'/\∃b,Hi b h' w'/\LB U w b w'/\BI b r v/\(C.I9 f=true->∃s c,IF b w.heap.size w' s c v r):=λaJz=>by obtain⟨r',h2,v,b,e,p1,p2,m,l,k⟩:=yt aJz j;cases e;exact⟨j.defers,v,p1,b,p2,m,l,k⟩
     cases x with
     |normal=>exact ID d
     |ret=>exact ID d
     |exit i=>cases d
  .cases AG⟩
end
def Ev.calls{C:FB}(hm:C.P.follows .mixedOrders=true)(yv:∀g cs,C.Gy g=some cs->cs.all Aa.Mf=true)(Ĝ:aS C){f:FuncId}{args:List Aa}{h:Ah}{Q:Aa->Ah->Prop}(Pb:Ev C f args h Q){U:Gh}{w:World}{cargs:Array Value}(hi:Hi U h w)(hg:∀g cs,C.Gy g=some cs->CP U cs g 0)(ha:AV U args cargs.toList):
  Calls C.P (Ec f) cargs w λe w'=>match e with
   | .returned v=>∃r h' b,Q r h'/\Hi b h' w'/\LB U w b w'/\BI b r v
   |_=>False:=by
 obtain⟨n,x,vs,h',AG,rfl,r,rfl,hQ⟩:=Pb;refine(((gQ hm yv Ĝ n).2 f args h r h' AG).2 U w cargs hi hg ha).mono λe w' he=>?_;cases e with
 |returned v=>obtain⟨b,p1,p2,c,_⟩:=he;exact⟨r,h',b,hQ,p1,p2,c⟩
 |_=>exact he
end Go.Am
end
section
namespace Go.Am
open Go
inductive Ty where
 |bool
 |int (k:IntKind)
 |str
 |sl (e:Ty)
 |st (fs:List Ty)
 deriving Inhabited
mutual
def Ty.size:Ty->Nat
 | .bool| .int _| .str| .sl _=>1
 | .st fs=>Ty.Ms fs
def Ty.Ms:List Ty->Nat
 |[]=>0
 |t::ts=>Ty.size t+Ty.Ms ts
end
mutual
def Pc(P:Program):Ty->TypeId->Bool
 | .bool,t=>match P.underlying t with|some .bool=>true|_=>false
 | .int k,t=>match P.underlying t with|some (.int k')=>decide (k'=k)|_=>false
 | .str,t=>match P.underlying t with|some .string=>true|_=>false
 | .sl e,t=>match P.underlying t with
  |some (.slice b)=>P.cellsOf b==Ty.size e&&decide (0<Ty.size e)&&Pc P e b
  |_=>false
 | .st fs,t=>match P.underlying t with
  |some (.struct fields)=>P.cellsOf t==Ty.Ms fs&&Pd P fs fields.toList 0
  |_=>false
def Pd(P:Program):List Ty->List Field->Nat->Bool
 |[],[],_=>true
 |ty::tys,f::fs,off=>f.offset==off&&P.cellsOf f.type==Ty.size ty&&Pc P ty f.type&&Pd P tys fs (off+Ty.size ty)
 |_,_,_=>false
end
mutual
def Yn:Ty->List Aa->Prop
 | .bool,l=>∃b,l=[.bool b]
 | .int k,l=>∃n,l=[.int k n]/\(Lit.int k n).wf=true
 | .str,l=>∃s:Ak,l=[.str s]/\s.length<=maxLen
 | .sl e,l=>l=[.slnil]\/∃Aw:List (List Aa),l=[.sl (Ty.size e) Aw]/\Aw.length<=maxLen/\∀r∈Aw,Yn e r
 | .st fs,l=>ak fs l
def ak:List Ty->List Aa->Prop
 |[],l=>l=[]
 |ty::tys,l=>∃a b,l=a++b/\Yn ty a/\ak tys b
end
def Ty.ů:Ty->Bool
 | .st _=>true
 |_=>false
def mX(ty:Ty)(a:Aa):Prop:=if ty.ů then∃cs,a= .agg cs/\Yn ty cs else Yn ty [a]
def Vk:List Ty->List Aa->Prop
 |[],l=>l=[]
 |ty::tys,l=>∃a b,l=a::b/\mX ty a/\Vk tys b
def F0(W:World):Gh:={HW:=λb o=>(W.cell? ⟨b,o,none⟩).filter (·.oneCell'),mu:=λ_=>none,BM:=λ_=>none,sz:=λ_=>none}
def l_(W:World):Hi (F0 W) [] W:=by refine⟨λb o v h=>?_,λid x h=>by simp at h,λid cs h=>by simp at h,λid es h=>by simp at h,λid b h=>(by cases h),λb x h=>(by cases h),λb n h=>(by cases h)⟩;simp only[F0,Qq] at h;exact⟨h.1,h.2,.inl rfl⟩
def Tk{W:World}{b o:Nat}{v:Value}(h:W.cell? ⟨b,o,none⟩=some v)(h1:v.oneCell'=true):(F0 W).HW b o=some v:=by simp[F0,h,h1,Option.filter]
def Ui{V:Type}{p:Nat->V->Prop}:∀(n:Nat),(∀i,i<n->∃x,p i x)->∃l:List V,l.length=n/\∀i x,l[i]?=some x->p i x
 |0,_=>⟨[],rfl,Ax⟩
 |n+1,h=>by
  obtain⟨l,hl,hp⟩:=Ui n λi hi=>h i Ac;obtain⟨x,hx⟩:=h n Ac;refine⟨l++[x],by simp[hl],λi y hy=>?_⟩;rw[aHS] at hy;split at hy;.exact hp i y hy
  .have:i-l.length=0:=by
    rcases Lm (i-l.length) with h0|h0
    .exact h0
    .rw[C4 Ed] at hy;cases hy
   rw[this] at hy;simp at hy;subst hy;have:i=n:=Ac;rw[this];exact hx
section
variable{H:Type}{enc:TypeId×Value->H}{P:Program}{W:World}
def QA{a:Addr}{n:Nat}{cs:List Value}(h:W.cells? 0 a n=some cs)(hn:0<n):a.spot=none:=by
 obtain⟨_,hl,hc⟩:=World.cells?_some h;have h0:=hc 0 hn;have hlt:0<cs.length:=Ac;rw[Au hlt] at h0;unfold World.cell? at h0;have ha:a.add 0=a:=by simp[Addr.add]
 rw[ha] at h0;split at h0
 .split at h0;.cases h0
  .rename_i hs;simpa using hs
 .cases h0
mutual
def aT:∀(ty:Ty) {t:TypeId} {fuel:Nat} {cs:List Value} {x:DataW H×List MemPlace},Pc P ty t=true->DataW.trod enc P W 0 (λ_=>true) true fuel t cs=some x->
  ∃as,Yn ty as/\AV (F0 W) as cs/\(∀u∈cs,u.oneCell'=true)/\as.length=Ty.size ty
 | .bool,t,fuel,cs,x,Kd,h=>by
  unfold Pc at Kd;split at Kd;.rename_i ht;obtain⟨b,rfl,_⟩:=DataW.trod_bool ht h;exact⟨[.bool b],⟨b,rfl⟩,⟨_,[],rfl,rfl,rfl⟩,by simp[Value.oneCell'],rfl⟩
  .cases Kd
 | .int k,t,fuel,cs,x,Kd,h=>by
  unfold Pc at Kd;split at Kd
  .rename_i k' ht;have hk:k'=k:=by simpa using Kd
   subst hk;obtain⟨n,rfl,_,hw⟩:=DataW.trod_int ht h;exact⟨[.int k' n],⟨n,rfl,hw⟩,⟨_,[],rfl,rfl,rfl⟩,by simp[Value.oneCell'],rfl⟩
  .cases Kd
 | .str,t,fuel,cs,x,Kd,h=>by
  unfold Pc at Kd;split at Kd
  .rename_i ht;obtain⟨s,rfl,_,hs⟩:=DataW.trod_string ht h;refine⟨[.str s.data.toList],⟨_,rfl,by
    have e:s.data.toList.length=s.size:=by rw[Cb];rfl
    rw[e];exact hs⟩,⟨_,[],rfl,?_,rfl⟩,by simp[Value.oneCell'],rfl⟩
   show Value.string s= .string ⟨⟨s.data.toList⟩⟩;congr 1
  .cases Kd
 | .sl e,t,fuel,cs,x,Kd,h=>by
  unfold Pc at Kd;split at Kd
  .rename_i q ht;simp only[AO,wv,B4] at Kd;obtain⟨⟨hce,hpos⟩,aJA⟩:=Kd;rcases DataW.trod_slice ht h with⟨rfl,_⟩|⟨a,len,cap,elems,rest,n,_,rfl,_,_,hl,hm,hlen,c,hsp,_⟩
   .exact⟨[.slnil],.inl rfl,⟨_,[],rfl,rfl,rfl⟩,by simp[Value.oneCell'],rfl⟩
   .have spot:0<cap->a.spot=none:=λhc=>by
     have ha:a.add 0=a:=by simp[Addr.add]
     rcases Lm len with h0|h0
     .obtain⟨Jz,LQ⟩:=hsp rfl;have:=LQ 0 Ac;rw[Au (Ac:0<rest.length)] at this;have ĝ:(len+0)*P.cellsOf q=0:=by rw[h0];simp
      rw[ĝ,ha] at this;obtain⟨vs,hv,_⟩:=SR.1 this;exact QA hv Ac
     .have:=c 0 h0;rw[Au (Ac:0<elems.length)] at this;rw[L9,ha] at this;obtain⟨vs,hv,_⟩:=SR.1 this;exact QA hv Ac
    obtain⟨Aw,mJ,gG⟩:=Ui (p:=λi (r:List Aa)=>Yn e r/\r.length=Ty.size e/\CP (F0 W) r a.block (a.off+i*Ty.size e)) len λi hi=>by
     have:=c i hi;rw[Au (Ac:i<elems.length)] at this;obtain⟨vs,hv,hd⟩:=SR.1 this;obtain⟨r,p1,p2,d,g⟩:=aT e aJA hd;refine⟨r,p1,g,CP.GB λj y hj=>?_⟩;obtain⟨u,hu,l⟩:=p2.get hj;obtain⟨_,hvl,m⟩:=World.cells?_some hv;have Y7:j<P.cellsOf q:=by have:=(Aj.1 hu).1;omega
     have hc:=m j Y7;rw[hu] at hc;have mA:a=⟨a.block,a.off,none⟩:=by have:=spot Ac;cases a;simp_all
     have M5:(a.add (i*P.cellsOf q)).add j=⟨a.block,a.off+i*Ty.size e+j,none⟩:=by rw[hce];generalize a.block=b at*;generalize a.off=o at*;subst mA;rw[Addr.add_lit,Addr.add_lit]
     rw[M5] at hc;exact⟨u,Tk hc (d u (Cv hu)),l⟩
    refine⟨[.sl (Ty.size e) Aw],.inr ⟨Aw,rfl,Ac,λr hr=>?_⟩,⟨_,[],rfl,⟨a,cap,by rw[mJ],Ac,?_,EG.GB λi r hr=>?_⟩,rfl⟩,by simp[Value.oneCell'],rfl⟩;.obtain⟨i,hi⟩:=CF hr;exact(gG i r hi).1
    .rcases Lm cap with h0|h0
     .exact .inr h0
     .exact .inl (spot h0)
    .exact⟨(gG i r hr).2.1,(gG i r hr).2.2⟩
  .cases Kd
 | .st fs,t,fuel,cs,x,Kd,h=>by
  unfold Pc at Kd;split at Kd
  .rename_i fields ht;simp only[AO,wv] at Kd;obtain⟨hct,hf⟩:=Kd;obtain⟨xs,n,_,_,hcl,v,Z8⟩:=DataW.trod_struct ht h;obtain⟨as,p1,p2,d,g⟩:=Uj fs (fields:=fields.toList) (off:=0) (cs:=cs) (n:=n) hf (λi f hi=>by
    have:=Z8 i f (by simpa using hi);have hlt:i<fields.size:=by have:=(Aj.1 hi).1;simpa using this
    rw[Au (Ac:i<xs.length)] at this;exact⟨_,this⟩) (by rw[hcl,hct];omega)
   have z:(cs.drop 0).take (Ty.Ms fs)=cs:=by rw[J2];exact Be (by rw[hcl,hct];exact Ab _)
   rw[z] at p2 d;exact⟨as,p1,p2,d,g⟩
  .cases Kd
def Uj:∀(tys:List Ty) {fields:List Field} {off:Nat} {cs:List Value} {n:Nat},Pd P tys fields off=true->
  (∀(i:Nat) (f:Field),fields[i]?=some f->∃y,DataW.trod enc P W 0 (λ_=>true) true n f.type ((cs.drop f.offset).take (P.cellsOf f.type))=some y)->off+Ty.Ms tys<=cs.length->
  ∃as,ak tys as/\AV (F0 W) as ((cs.drop off).take (Ty.Ms tys))/\(∀u∈(cs.drop off).take (Ty.Ms tys),u.oneCell'=true)/\as.length=Ty.Ms tys
 |[],fields,off,cs,n,Kd,h,hl=>by refine⟨[],rfl,?_,?_,rfl⟩<;>simp[Ty.Ms,AV]
 |ty::tys,fields,off,cs,n,Kd,h,hl=>by
  cases fields with
  |nil=>simp[Pd] at Kd
  |cons f fs=>
   simp only[Pd,AO,wv] at Kd;obtain⟨⟨⟨ho,hc⟩,YX⟩,kj⟩:=Kd;obtain⟨y,hy⟩:=h 0 f rfl;rw[ho,hc] at hy;obtain⟨as,p1,p2,k,j⟩:=aT ty YX hy;simp only[Ty.Ms] at hl;obtain⟨bs,e,d,c,b⟩:=Uj tys kj (λi g hi=>h (i+1) g (by simpa using hi)) Ac;have l:(cs.drop off).take (Ty.Ms (ty::tys))=(cs.drop off).take (Ty.size ty)++(cs.drop (off+Ty.size ty)).take (Ty.Ms tys):=by simp only[Ty.Ms];rw[ă,Ez]
   rw[l];refine⟨as++bs,⟨as,bs,rfl,p1,e⟩,p2.append d,λu hu=>?_,by simp[j,b,Ty.Ms]⟩;rcases Aq.1 hu with hu|hu
   .exact k u hu
   .exact c u hu
end
def aU{ty:Ty}{t:TypeId}{v:Value}{base:Nat}(Kd:Pc P ty t=true)(hv:Value.okWide P W .any base t v):if ty.ů then∃cs,v= .agg cs else v.cells=#[v]:=by
 cases ty with
 |st fs=>
  unfold Pc at Kd;split at Kd;.rename_i fields ht;unfold Value.okWide at hv;rw[ht] at hv;obtain⟨cs,e,_⟩:=hv;exact⟨cs,e⟩
  .cases Kd
 |_=>
  unfold Pc at Kd;split at Kd;.rename_i ht;unfold Value.okWide at hv;rw[ht] at hv;simp only[Cell.okWide,ht,Cell.ok] at hv;cases v<;>first|rfl|exact hv.elim
  .cases Kd
def Ze:∀{tys:List Ty} {ts:List TypeId} {vs:List Value} {ds:List (DataW H)} {ps:List MemPlace} {base:Nat},DataW.TrodAll enc P W 0 (λ_=>true) true ts vs ds ps->tys.length=ts.length->(∀(i:Nat) (ty:Ty) (t:TypeId),tys[i]?=some ty->ts[i]?=some t->Pc P ty t=true)->
  (∀(i:Nat) (t:TypeId) (v:Value),ts[i]?=some t->vs[i]?=some v->Value.okWide P W .any base t v)->∃as,Vk tys as/\AV (F0 W) as vs
 |[],[],[],[],_,_,_,_,_,_=>⟨[],rfl,rfl⟩
 |ty::tys,t::ts,v::vs,d::ds,ps,base,⟨p,q,⟨fuel,h1⟩,h2,_⟩,hl,Kd,Qk=>by
  have YX:=Kd 0 ty t rfl rfl;obtain⟨cells,p1,p2,g,j⟩:=aT ty YX h1;obtain⟨bs,f,b⟩:=Ze h2 (by simpa using hl) (λi ty t h h'=>Kd (i+1) ty t (by simpa using h) (by simpa using h')) (λi t v h h'=>Qk (i+1) t v (by simpa using h) (by simpa using h'));have hc:=aU YX (Qk 0 t v rfl rfl);have:∃a,mX ty a/\BI (F0 W) a v:=by
   by_cases IP:ty.ů=true;.rw[Af IP] at hc;obtain⟨us,rfl⟩:=hc;exact⟨.agg cells,(by unfold mX;rw[Af IP];exact⟨cells,rfl,p1⟩),us,rfl,by simpa[Value.cells] using p2,by simpa[Value.cells] using g⟩
   .rw[Ag IP] at hc;rw[hc] at p2;obtain⟨u,us,e,hu,hnil⟩:∃c Gx,cells=c::Gx/\BI (F0 W) c v/\Gx=[]:=by
     cases cells with
     |nil=>cases p2
     |cons c Gx=>obtain⟨u,Dq,e,h1,h2⟩:=p2;simp at e;obtain⟨rfl,rfl⟩:=e;exact⟨c,Gx,rfl,h1,by cases Gx with|nil=>rfl|cons _ _=>obtain⟨_,_,e,_⟩:=h2;cases e⟩
    subst hnil;subst e;exact⟨u,(by unfold mX;rw[Ag IP];exact p1),hu⟩
  obtain⟨a,ha,hr⟩:=this;exact⟨a::bs,⟨a,bs,rfl,ha,f⟩,⟨v,vs,rfl,hr,b⟩⟩
 |[],_::_,_,_,_,_,_,hl,_,_=>by simp at hl
 |_::_,[],_,_,_,_,_,hl,_,_=>by simp at hl
 |[],[],_::_,_,_,_,h,_,_,_=>by cases h
 |[],[],[],_::_,_,_,h,_,_,_=>by cases h
 |_::_,_::_,[],_,_,_,h,_,_,_=>by cases h
 |_::_,_::_,_::_,[],_,_,h,_,_,_=>by cases h
def Ws{W':World}{may:MemPlace->Prop}(h1:W'.os=W.os)(h2:W'.output=W.output)(hb:∀i,i<W.heap.size->W'.heap[i]?=W.heap[i]?):W.keptBut W' may:=by
 refine⟨h1,h2,λi hi=>?_⟩;rw[hb i hi];split;.rename_i c t fr c' t' zE d b;rw[d] at b;cases b;exact⟨rfl,rfl,rfl,λ_ _=>rfl⟩
 .rename_i d b;rw[d] at b;cases b;exact .inr ⟨rfl,rfl⟩
 .rfl
def QB(hl:laidOutB P=true){W':World}(hb:RowKit.Below W.heap.size W W'):∀{ts:List TypeId} {vs:List Value} {ds:List (DataW H)} {ps:List MemPlace},(∀t∈ts,P.readableRec t=true/\t<P.types.size)->
  DataW.TrodAll enc P W 0 (λ_=>true) true ts vs ds ps->(∀x∈ps,x.block<W.heap.size)->DataW.TrodAll enc P W' 0 (λb=>decide (b<W.heap.size)) true ts vs ds ps
 |[],[],[],ps,_,h,_=>h
 |t::ts,v::vs,d::ds,ps,aD,⟨p,q,h1,h2,e⟩,hlt=>by subst e;have ht:=aD t Ax;exact⟨p,q,RowKit.Below.trod hl ht.1 ht.2 h1 hb λx hx=>hlt x (Cw _ hx),QB hl hb (λt' h'=>aD t' (by simp[h'])) h2 λx hx=>hlt x (BK _ hx),rfl⟩
 |[],[],_::_,_,_,h,_=>by cases h
 |[],_::_,_,_,_,h,_=>by cases h
 |_::_,[],_,_,_,h,_=>by cases h
 |_::_,_::_,[],_,_,h,_=>by cases h
end
def aV{C:FB}(hm:C.P.follows .mixedOrders=true)(yv:∀g cs,C.Gy g=some cs->cs.all Aa.Mf=true)(Ĝ:aS C)(hl:laidOutB C.P=true){f:FuncId}{fn:Func}{rt:TypeId}(k:f<=99999)(c:fn.resultTypes=#[rt])(l:C.P.underlying rt=some .bool){tys:List Ty}(hlen:tys.length=fn.params.size)
  (aJB:∀(i:Nat) (ty:Ty) (t:TypeId),tys[i]?=some ty->fn.params[i]?=some t->Pc C.P ty t=true) (aEQ:∀t∈fn.params.toList,C.P.readableRec t=true/\t<C.P.types.size)
  (Pb:∀as,Vk tys as->Ev C f as [] λr _=>r= .bool true) {s:ChangeSpec} (Đ:s.vars=[])
  {H:Type} (yj:∀ds:List (DataW H),ds.length=fn.params.size->s.fn H ds={results:=[.lit (.bool true)],args:=ds})
  {enc:TypeId×Value->H} {W:World} {base:Nat} {args:Array Value} {ds gs:List (DataW H)} {before:List MemPlace} (hg:∀g cs,C.Gy g=some cs->CP (F0 W) cs g 0)
  (Qk:∀(j:Nat) (t:TypeId) (v:Value),fn.params[j]?=some t->args[j]?=some v->Value.okWide C.P W .any base t v) (hW:DataW.Whole enc C.P fn.params.toList s.vars false W args.toList ds gs before):
  Calls C.P f args W λe W'=>∃v,e= .returned v/\s.post enc C.P fn false true false false W args v W':=by
 have m:=hW;have hlt:=hW.lt;obtain⟨p,q,o,n,rfl,hfz,u⟩:=hW;rw[Đ] at n;have ū:gs=[]/\q=[]:=by
  cases gs with
  |nil=>exact⟨rfl,n⟩
  |cons _ _=>cases n
 obtain⟨rfl,rfl⟩:=ū;obtain⟨as,ma,RT⟩:=Ze o (by simpa using hlen) (λi ty t h h'=>aJB i ty t h (by simpa using h')) (λi t v h h'=>Qk i t v (by simpa using h) (by simpa using h'));have mT:ds.length=fn.params.size:=by
  have key:∀{ts:List TypeId} {vs:List Value} {ds:List (DataW H)} {ps:List MemPlace},DataW.TrodAll enc C.P W 0 (λ_=>true) true ts vs ds ps->ds.length=ts.length:=by
   intro ts;induction ts with
   |nil=>intro vs ds ps h;cases vs<;>cases ds<;>first|rfl|cases h
   |cons t ts ih=>
    intro vs ds ps h;cases vs with
    |nil=>cases h
    |cons v vs=>
     cases ds with
     |nil=>cases h
     |cons d ds=>obtain⟨_,_,_,h2,_⟩:=h;simp[ih h2]
  simpa using key o
 have Vi:=(Pb as ma).calls hm yv Ĝ (l_ W) hg RT;rw[show Ec f=f from Af k] at Vi;refine Vi.mono λe W' he=>?_;cases e with
 |returned v=>
  obtain⟨r,h',y,rfl,hi,JI,hv⟩:=he;have hvb:v= .bool true:=hv;subst hvb;have hold:∀i,i<W.heap.size->W'.heap[i]?=W.heap[i]?:=λi kg=>(JI.NF i kg λid h0=>by cases h0).1;have b:RowKit.Below W.heap.size W W':=⟨JI.os,JI.tape,JI.output,JI.size,hold⟩;refine⟨_,rfl,ds,[],p++[],[],p,[],m,?_,?_,?_,Ws JI.os JI.output hold,λh0=>by cases h0⟩;.rw[Bq,yj ds mT,c];exact⟨[],[],RowKit.shut_bool l true,rfl,rfl⟩
  .rw[Bq,yj ds mT];exact QB hl b aEQ o λx hx=>hlt x (by simpa using hx)
  .rw[Bq,yj ds mT,Đ];rfl
 |_=>exact he.elim
end Go.Am
end
