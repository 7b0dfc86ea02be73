/- Lemmas -/
import Derived.Scope
import Derived.Test.YtdbnpiefklklhaaGreatDoorH6
import Derived.Carry
import Derived.ReadAgain
set_option linter.all false
section
namespace Go.Am
open Go
def ė(x y:D0):Prop:=
 match x with
 | .box ver cs ow=>∃FM GB Nr,y= .box FM GB Nr/\ver<=FM/\(FM=ver->GB=cs/\Nr=ow)
 | .EU t o=>y= .EU t o\/y= .undef
 |x=>y=x
def ė.refl(x:D0):ė x x:=by
 cases x with
 |box ver cs ow=>exact⟨ver,cs,ow,rfl,Ae _,λ_=>⟨rfl,rfl⟩⟩
 |EU t o=>exact .inl rfl
 |_=>rfl
def ė.trans{x y z:D0}(h:ė x y)(k:ė y z):ė x z:=by
 cases x with
 |box ver cs ow=>obtain⟨b,m,l,rfl,h1,h2⟩:=h;obtain⟨v2,j,c,rfl,f,d⟩:=k;refine⟨v2,j,c,rfl,Bp h1 f,λe=>?_⟩;have i:b=ver:=Ab;have g:v2=b:=Ab;obtain⟨rfl,rfl⟩:=d g;exact h2 i
 |EU t o=>
  rcases h with rfl|rfl
  .exact k
  .exact .inr k
 |_=>rw[show y=_ from h] at k;exact k
def FE(W:List Nat)(σ O:BG):Prop:=O.length=σ.length/\∀s,s∉W->ė (σ.at s) (O.at s)
def FE.refl(W:List Nat)(σ:BG):FE W σ σ:=⟨rfl,λ_ _=> .refl _⟩
def FE.trans{W:List Nat}{σ O J:BG}(h:FE W σ O)(k:FE W O J):FE W σ J:=⟨k.1.trans h.1,λs hs=>(h.2 s hs).trans (k.2 s hs)⟩
def FE.mono{W W':List Nat}{σ O:BG}(h:FE W σ O)(hw:∀s∈W,s∈W'):FE W' σ O:=⟨h.1,λs hs=>h.2 s λhm=>hs (hw s hm)⟩
def FE.set{W:List Nat}{σ:BG}{s:Nat}{x:D0}(hs:s∈W):FE W σ (σ.set s x):=
 ⟨Ax,λt ht=>by rw[BG.FD λe=>ht (by rw[<-e];exact hs)];exact .refl _⟩
def FE.put{W:List Nat}{σ:BG}{d:Option Nat}{x:D0}(hs:∀s∈d.toList,s∈W):FE W σ (σ.put d x):=by
 cases d with
 |none=>exact .refl _ _
 |some d=>exact .set (hs d Ax)
section
variable{C:Fv}{fid:FuncId}{ops:List Oper}{run:IT->Ai->Option Jp}{σ σ':BG}{h h':Ai}{W:List Nat}
def FE.drop(σ:BG)(ds:List Nat):FE W σ (σ.drop ds):=by
 refine⟨BG.length_drop σ ds,λs _=>?_⟩;rw[BG.RQ];cases hx:σ.at s with
 |EU t o=>
  simp only
  split;.exact .inr rfl
  .exact .inl rfl
 |_=>exact .refl _
def m6{r:Eg}{ds:List Nat}(hd:r.M2 C run (σ.drop ds) h σ' h')(hw:∀s∈r.wf,s∈W):FE W σ σ':=by obtain⟨ws,rfl,h1,_⟩:=Y9 hd;refine(FE.drop σ ds).trans ⟨BG.Jk ws _,λs hs=>?_⟩;rw[BG.Gp ws _ s λp hp e=>hs (hw s (by rw[<-e];exact h1 p hp))];exact .refl _
def PX{x:Operand}{d:Nat}{take:Bool}{r:Eg}(h:J6 C σ x d take=some r):∀s∈r.wf,s=d\/(take=true/\x= .tmp s):=by
 unfold J6 at h;split at h;.cases h;simp[Eg.wf]
 .cases h;simp[Eg.wf]
 .split at h
  .rename_i ht;cases h;intro s hs;simp only[Eg.wf,BU,Ap] at hs;rcases hs with hs|hs
   .revert hs;generalize b:RD _ _=c;intro hs;unfold RD at b;split at b;.subst b;simp at hs;exact .inr ⟨ht,by rw[hs]⟩
    .subst b;simp at hs
   .exact .inl (by simpa using hs)
  .cases hc:H9 _ with
   |none=>rw[hc] at h;cases h
   |some sl=>rw[hc] at h;cases h;simp[Eg.wf]
 .cases hc:H9 _ with
  |none=>rw[hc] at h;cases h
  |some sl=>rw[hc] at h;cases h;simp[Eg.wf]
 .cases h
def RX{x:Operand}{p:Nat×Aa}(h:C4 σ x=some p):x= .tmp p.1:=by
 cases x with
 |tmp t=>
  simp only[C4] at h;cases hx:σ.at t with
  |BK v=>rw[hx] at h;cases h;rfl
  |_=>rw[hx] at h;cases h
 |_=>cases h
def gK{t:TypeId}{v:Aa}{d:Nat}{r:Eg}(h:T2 C fid t v d=some r):r.wf=[d]:=by
 unfold T2 at h;split at h;.cases h
 .split at h;.cases h
  .split at h<;>(cases h;rfl)
def MO:∀{xs:List Operand} {vs:List Aa} {fz:List (Nat×List Aa)},FJ C σ xs=some (vs,fz)->∀p∈fz,p.1∈Jw xs
 |[],vs,fz,hc=>by cases hc;simp
 |x::xs,vs,fz,hc=>by
  unfold FJ at hc;split at hc;.cases hc
  .rename_i Hy c b;have ih:=MO b;have up:∀p∈c,p.1∈Jw (x::xs):=λp hp=>by obtain⟨y,hy,he⟩:=Cb.1 (ih p hp);exact Cb.2 ⟨y,X2 _ hy,he⟩
   split at hc
   .rename_i s ver cs ow hs;split at hc;.cases hc
    .cases hc;intro p hp;rcases AG.1 hp with rfl|hp
     .simp[Jw]
     .exact up p hp
   .rename_i sl _ hs;cases hv:sl.GZ with
    |none=>rw[hv] at hc;cases hc
    |some u=>rw[hv] at hc;cases hc;exact up
   .cases hc
def rY{o:Oper}{r:Eg}(hc:FL C fid ops σ o=some r)(hd:r.M2 C run (σ.drop r.news) h σ' h'):FE (D5 ops o) σ σ':=by
 have RW:∀s∈o.dst.toList,s∈D5 ops o:=λs hs=>Cu _ hs
 have hwf:(∀s∈r.wf,s∈D5 ops o)->FE (D5 ops o) σ σ':=m6 hd
 have X4:r.wf=o.dst.toList->FE (D5 ops o) σ σ':=λe=>hwf (by rw[e];exact RW)
 have Ug:∀{m x},Tc m o.dst x=some r->FE (D5 ops o) σ σ':=λ{m x} he=>by
  obtain⟨_,_,rfl⟩:=Hd he
  exact X4 rfl
 have Hk:∀{p x},Tb p o.dst x=some r->FE (D5 ops o) σ σ':=λ{p x} he=>by
  obtain⟨args,_,rfl⟩:=DC he
  exact X4 (by simp[Eg.wf])
 unfold FL at hc
 split at hc
 .rename_i x ho
  split at hc
  .rename_i d FB
   refine hwf λs hs=>?_
   rcases PX hc s hs with rfl|⟨ht,rfl⟩
   .exact RW s (by rw[FB];simp)
   .refine BH _ ?_
    simp[ho,FB,ht]
  .cases hc
 .rename_i x ho
  split at hc
  .rename_i d FB
   refine hwf λs hs=>?_
   rcases PX hc s hs with rfl|⟨ht,rfl⟩
   .exact RW s (by rw[FB];simp)
   .refine BH _ ?_
    simp[ho]
  .cases hc
 .rename_i c x y ho
  split at hc
  .rename_i d _ FB
   refine hwf λs hs=>?_
   rcases PX hc s hs with rfl|⟨ht,rfl⟩
   .exact RW s (by rw[FB];simp)
   .cases ht
  .rename_i d _ FB
   refine hwf λs hs=>?_
   rcases PX hc s hs with rfl|⟨ht,rfl⟩
   .exact RW s (by rw[FB];simp)
   .cases ht
  .exact Hk hc
 .split at hc
  .rename_i d z FB hz
   split at hc
   .split at hc
    .cases hc;exact X4 (by rw[FB];rfl)
    .cases hc
   .exact X4 (by rw[gK hc,FB];rfl)
  .cases hc
 .split at hc
  .rename_i d v FB hz
   exact X4 (by rw[gK hc,FB];rfl)
  .cases hc
 .split at hc
  .split at hc
   .exact Hk hc
   .cases hc
  .cases hc
 .split at hc
  .split at hc
   .split at hc
    .split at hc
     .cases hc;exact X4 (by simp[Eg.wf])
     .cases ha:Bm C σ _ with
      |none=>rw[ha] at hc;cases hc
      |some args=>rw[ha] at hc;cases hc;exact X4 (by simp[Eg.wf])
    .cases hc
   .cases hc
  .cases hc
 .split at hc
  .rename_i d FB
   unfold K6 at hc
   split at hc
   .cases hc;exact X4 (by rw[FB];rfl)
   .rename_i s off ver cs ow ht ha
    split at hc
    .simp only at hc
     split at hc
     .cases hc
      rw[Nz Ax] at hd
      obtain⟨rfl,rfl⟩:=hd
      have hs:σ.at s= .box ver cs ow:=by
       unfold FI at ha
       split at ha
       .rename_i hs;cases ha;exact GG hs
       .split at ha
        .rename_i hb;cases ha;exact hb
        .cases ha
       .exact absurd ha (by cases hv:D0.GZ _<;>simp)
       .cases ha
      refine⟨by simp[BG.drop,BG.DW],λt b=>?_⟩
      have f:t≠d:=λe=>b (RW t (by rw[FB,e];simp))
      have ye:s<σ.length:=BG.OT (by rw[hs];simp)
      show ė (σ.at t) (BG.at ((σ.set s _).set d _) t)
      rw[BG.FD (λe=>f e.symm)]
      by_cases aG:s=t
      .subst aG
       rw[BG.E2 ye,hs]
       exact⟨_,_,_,rfl,Fh _,λe=>absurd e Ab⟩
      .rw[BG.FD aG];exact .refl _
     .cases hc;exact X4 (by rw[FB];rfl)
    .cases hc
   .split at hc
    .cases hc;exact X4 (by rw[FB];rfl)
    .cases hc
   .cases hc
  .cases hc
 .rename_i t x y ho
  split at hc
  .rename_i FB
   unfold IZ at hc
   split at hc
   .cases hc;exact hwf (by simp[Eg.wf])
   .rename_i m sh s off ver cs ow v KW lP ha hv
    split at hc
    .cases hc
     obtain⟨_,rfl,rfl⟩:=hd
     have hs:σ.at s= .box ver cs ow:=by
      unfold FI at ha
      split at ha
      .rename_i hs;cases ha;exact GG hs
      .split at ha
       .rename_i hb;cases ha;exact hb
       .cases ha
      .exact absurd ha (by cases hv:D0.GZ _<;>simp)
      .cases ha
     have Yf:∀(D:Option (Nat×Aa)),(∀p,D=some p->p.1∈D5 ops o/\p.1≠s)->∀X:List Aa×List Nat,FE (D5 ops o) σ ((σ.Dm D).set s (.box (ver+1) X.1 X.2)):=by
      intro D i X
      refine⟨by cases D<;>simp[BG.Dm],λt b=>?_⟩
      have hlen:s<(σ.Dm D).length:=by
       have:s<σ.length:=BG.OT (by rw[hs];simp)
       cases D<;>simpa[BG.Dm] using this
      by_cases aG:s=t
      .subst aG
       rw[BG.E2 hlen,hs]
       exact⟨_,_,_,rfl,Fh _,λe=>absurd e Ab⟩
      .rw[BG.FD aG]
       cases D with
       |none=>exact .refl _
       |some p=>
        obtain⟨g,j⟩:=i p rfl
        simp only[BG.Dm]
        rw[BG.FD (λe=>b (by rw[<-e];exact g))]
        exact .refl _
     refine Yf _ (λp hp=>?_) (_,_)
     split at hp
     .have hy:=RX hp
      subst hy
      refine⟨BH _ (by simp[ho]),λe=>?_⟩
      simp only[C4] at hp
      rw[e,hs] at hp
      cases hp
     .cases hp
    .cases hc
   .cases hc
  .cases hc
 .split at hc
  .rename_i FB _ _
   cases hc;exact X4 (by rw[FB];rfl)
  .rename_i FB _ _
   cases hc;exact X4 (by rw[FB];rfl)
  .exact Hk hc
 .split at hc
  .exact Hk hc
  .cases hc
 .exact Hk hc
 .split at hc
  .cases hv:Ez C σ _ with
   |none=>rw[hv] at hc;cases hc
   |some v=>rw[hv] at hc;cases hc;exact X4 rfl
  .split at hc
   .cases hv:Ez C σ _ with
    |none=>rw[hv] at hc;cases hc
    |some v=>rw[hv] at hc;cases hc;exact X4 rfl
   .exact Hk hc
  .exact Hk hc
  .cases hc
 .rename_i fn first captured ho
  split at hc
  .rename_i d as bs fz FB ha hb
   cases hc
   refine hwf λs hs=>?_
   simp only[Eg.wf,AG] at hs
   rcases hs with rfl|hs
   .exact RW s (by rw[FB];simp)
   .obtain⟨p,hp,rfl⟩:=A4.1 hs
    refine BH _ ?_
    simp only[ho]
    exact MO hb p hp
  .cases hc
 .cases hc;exact X4 rfl
 .split at hc
  .split at hc
   .cases hc;exact X4 rfl
   .cases hc
  .cases hc
 .split at hc
  .split at hc
   .cases hc;exact hwf (by simp[Eg.wf])
   .cases hc;exact hwf (by simp[Eg.wf])
   .cases hc
  .cases hc
 .split at hc
  .split at hc
   .cases hc;exact hwf (by simp[Eg.wf])
   .cases hc;exact hwf (by simp[Eg.wf])
   .cases hc
  .cases hc
 .split at hc
  .split at hc
   .cases hc;exact X4 rfl
   .cases hc;exact X4 rfl
   .cases hc
  .cases hc
 .split at hc
  .split at hc
   .exact Ug hc
   .cases hc
  .cases hc
 .split at hc
  .cases hc
  .exact Ug hc
  .cases hc
 .split at hc
  .split at hc<;>first|exact Ug hc|cases hc
  .cases hc
 .split at hc
  .rename_i FB
   exact Ug (by rw[FB];exact hc)
  .cases hc
 .split at hc
  .exact Hk hc
  .split at hc
   .split at hc
    .exact Ug hc
    .exact Hk hc
   .cases hc
  .cases hc
 .split at hc
  .rename_i off sh d hf FB
   split at hc
   .cases hc;exact X4 (by rw[FB];rfl)
   .cases hc;exact X4 (by rw[FB];rfl)
   .exact Hk (by rw[FB];exact hc)
  .cases hc
 .split at hc
  .exact Hk hc
  .cases hc
 .split at hc
  .split at hc
   .exact Hk hc
   .cases hc
  .split at hc
   .split at hc
    .cases hc
    .exact Hk hc
   .cases hc
  .cases hc
 .split at hc
  .exact Hk hc
  .split at hc
   .exact Hk hc
   .cases hc
  .cases hc
 .exact Hk hc
 .rename_i c ho
  unfold QN at hc
  split at hc
  .split at hc
   .split at hc
    .exact Hk hc
    .exact Hk hc
    .cases hc
   .cases hc
  .rename_i hcl
   split at hc
   .rename_i t t' s x h0 h1 Ek
    have Yf:∀p,C4 σ s=some p->p.1∈D5 ops o:=λp hp=>by
     have:=RX hp
     subst this
     refine BH _ ?_
     simp only[ho,hcl,Ek]
     simp[Jw]
    split at hc
    all_goals first
     |(cases hc;done)
     | (split at hc
        . split at hc
          . split at hc
            . split at hc
              . split at hc
                . cases hc
                  refine hwf fun q hq => ?_
                  simp only [Eg.wf, Ap] at hq
                  rcases hq with hq | hq
                  . exact RW q hq
                  . cases m7 : C4 σ s with
                    | none => rw [m7] at hq; simp at hq
                    | some p => rw [m7] at hq; simp at hq; rw [hq]; exact Yf p m7
                . split at hc
                  . cases hc
                    refine hwf fun q hq => ?_
                    simp only [Eg.wf, Ap] at hq
                    rcases hq with hq | hq
                    . exact RW q hq
                    . cases m7 : C4 σ s with
                      | none => rw [m7] at hq; simp at hq
                      | some p => rw [m7] at hq; simp at hq; rw [hq]; exact Yf p m7
                  . cases hc
                    refine hwf fun q hq => ?_
                    simp only [Eg.wf, Ap] at hq
                    rcases hq with hq | hq
                    . exact RW q hq
                    . cases m7 : C4 σ s with
                      | none => rw [m7] at hq; simp at hq
                      | some p => rw [m7] at hq; simp at hq; rw [hq]; exact Yf p m7
              . split at hc
                . cases hc
                  refine hwf fun q hq => RW q (by simpa [Eg.wf] using hq)
                . cases hc
            . cases hc
          . cases hc
        . cases hc)
   .cases hc
  .split at hc
   .split at hc
    all_goals first
     |(cases hc;done)
     | (split at hc
        . exact Ug hc
        . cases hc)
   .cases hc
  .split at hc
   .split at hc
    .split at hc
     .exact Ug hc
     .cases hc
    .cases hc
   .cases hc
  .split at hc
   .exact Hk hc
   .cases hc
  .split at hc
   .exact Hk hc
   .cases hc
  .split at hc
   .split at hc
    .split at hc
     .exact Ug hc
     .cases hc
    .cases hc
   split at hc
   .cases ha:Bm C σ c.args.toList with
    |none=>rw[ha] at hc;cases hc
    |some args=>
     rw[ha] at hc
     simp only[By,Bx] at hc
     split at hc<;>(cases hc;exact X4 rfl)
   .cases hc
  .split at hc
   .cases hc;exact X4 rfl
   .cases hc
  .cases hc
 .cases hc
end
end Go.Am
end
section
namespace Go.Am
open Go
def ls:FG->Exit
 | .normal=> .normal
 | .exit i=> .exit i
 | .ret=> .ret
def NM:∀{l m:List Nat},l.Nodup->(∀x∈l,x∈m)->l.length<=m.length
 |[],_,_,_=>A7 _
 |x::l,m,hn,hs=>by have hx:=hs x Ax;have h1:=NM (l:=l) (m:=m.erase x) (B3.1 hn).2 λy hy=>(List.mem_erase_of_ne λe=>(B3.1 hn).1 (by rw[<-e];exact hy)).2 (hs y (by simp[hy]));rw[List.length_erase_of_mem hx] at h1;have:0<m.length:=List.length_pos_of_mem hx;simp;omega
def aS{P:Program}{c:Code}{Q:Exit->Act->World->Prop}(T:Nat->Act->World->Prop)(round:∀n a w,T n a w->c.wp P (Exit.then (λa' w'=>∃m,m<n/\T m a' w') Q) a w)(n:Nat)(a:Act)(w:World)(h0:T n a w):(Code.loop c).wp P Q a w:=by
 intro b k cs;have key:∀n a w,T n a w->∃e a' w',Q e a' w'/\Arrives P (lone (b.at a (.code c:: .inLoop c::k)) cs w) b k cs e a' w':=by
  intro n;induction n using Nat.strongRecOn with
  |_ n ih=>
   intro a w i;obtain⟨e,a1,w1,hq,yu⟩:=round n a w i b (.inLoop c::k) cs;by_cases he:e= .normal;.subst he;obtain⟨m,hm,d⟩:=hq;obtain⟨j,a2,f,g,r2⟩:=ih m hm a1 w1 d;exact⟨j,a2,f,g,.of_steps (Go.Steps.trans yu (.one step_inLoop)) r2⟩
   .exact⟨e,a1,w1,by cases e<;>first|exact hq|exact absurd rfl he,.pass (x:= .inLoop c) rfl (λ_ _=> .inl he) yu⟩
 obtain⟨e,a',w',hq,yu⟩:=key n a w h0;exact⟨e,a',w',hq,.of_steps (.one step_loop) yu⟩
section
variable{C:Fv}{U0 U:Gh}{w0 w:World}{Z:Nat->Nat}{σ:BG}{h:Ai}{a:Act}{fid:FuncId}{run:IT->Ai->Option Jp}
def aT{ops:List Oper}{o:Oper}{K:BG->IT}{R:Jp}(hr:IT.step (B4 C) run (Td C fid ops σ o K) h=some R):
  ∃d,(d=σ\/∃s b,s∈Fc ops o/\σ.at s= .val (.bool b)/\d=σ.set s (.OD b))/\
   ((Iq ops d o= .MZ true/\IT.step (B4 C) run (ij C fid ops d o K) h=some R)\/(Iq ops d o= .MZ false/\IT.step (B4 C) run (K (d.put o.dst .skip)) h=some R)):=by
 unfold Td at hr;split at hr;.rename_i hg;exact⟨σ,.inl rfl,.inl ⟨hg,hr⟩⟩
 .rename_i hg;exact⟨σ,.inl rfl,.inr ⟨hg,hr⟩⟩
 .rename_i s v want hg;have Ū:s∈Fc ops o/\σ.at s= .val v/\∀b,Iq ops (σ.set s (.OD b)) o= .MZ (b==want):=by
   unfold Iq at hg⊢;unfold Fc;cases ho:o.guard with
   |none=>rw[ho] at hg;cases hg
   |some g=>
    obtain⟨j,want'⟩:=g;rw[ho] at hg;simp only at hg⊢;cases hd:(ops[j]?).bind (·.dst) with
    |none=>rw[hd] at hg;cases hg
    |some s'=>
     rw[hd] at hg;simp only at hg⊢;cases hx:σ.at s' with
     |val v'=>rw[hx] at hg;cases hg;refine⟨Ax,hx,λb=>?_⟩;rw[BG.E2 (BG.OT (by rw[hx];simp))]
     |OD c=>rw[hx] at hg;cases hg
     |skip=>rw[hx] at hg;cases hg
     |_=>rw[hx] at hg;cases hg
  obtain⟨g1,g2,g3⟩:=Ū;simp only[IT.step] at hr;split at hr
  .refine⟨σ.set s (.OD true),.inr ⟨s,true,g1,g2,rfl⟩,?_⟩;rw[g3];cases want with
   |true=>exact .inl ⟨rfl,hr⟩
   |false=>exact .inr ⟨rfl,hr⟩
  .refine⟨σ.set s (.OD false),.inr ⟨s,false,g1,g2,rfl⟩,?_⟩;rw[g3];cases want with
   |true=>exact .inr ⟨rfl,hr⟩
   |false=>exact .inl ⟨rfl,hr⟩
  .cases hr
 .cases hr
def aj(a:Act){ops:List Oper}{o:Oper}:(∀p∈RF C σ o,∃ver ow,σ.at p.1= .box ver p.2 ow)/\((RF C σ o).map (·.1)).Nodup/\∀p∈RF C σ o,p.1∈D5 ops o:=by
 have no:∀l:List (Nat×List Aa),l=[]->(∀p∈l,∃ver ow,σ.at p.1= .box ver p.2 ow)/\(l.map (·.1)).Nodup/\∀p∈l,p.1∈D5 ops o:=by rintro l rfl;exact⟨(λp hp=>nomatch hp),JQ,λp hp=>nomatch hp⟩
 cases ho:o.op with
 |call c=>
  cases hc:c.callee with
  |value g=>
   cases g with
   |func f=>
    cases hf:Te f with
    |true=>
     cases hx:FJ C σ c.args.toList with
     |some q=>
      obtain⟨vs,fz⟩:=q;have e:RF C σ o=fz:=by unfold RF;simp only[ho,hc,hf,hx,BE]
      rw[e];obtain⟨h1,h2,_⟩:=MN (a:=a) hx;refine⟨h1,h2,λp hp=>BH _ ?_⟩;simp only[ho,hc,hf,BE];exact MO hx p hp
     |none=>exact no _ (by unfold RF;simp only[ho,hc,hf,hx,BE])
    |false=>exact no _ (by unfold RF;simp[ho,hc,hf])
   |_=>exact no _ (by unfold RF;simp only[ho,hc])
  |_=>exact no _ (by unfold RF;simp only[ho,hc])
 |_=>exact no _ (by unfold RF;simp only[ho])
def FE.DW{W:List Nat}:∀{l:List (Nat×D0)} {σ:BG},(∀p∈l,p.1∈W)->FE W σ (σ.DW l)
 |[],σ,_=> .refl _ _
 |(s,x)::l,σ,h=>(FE.set (h (s,x) Ax)).trans (FE.DW λp hp=>h p (by simp[hp]))
def ly{ops:List Oper}{o:Oper}{W:List Nat}(hr:CX C U0 w0 U Z σ h a w)(hw:∀s∈D5 ops o,s∈W):∃b,CX C U0 w0 b Z (ő C σ o) h a w/\FE W σ (ő C σ o):=by
 obtain⟨h1,h2,c⟩:=aj (C:=C) (σ:=σ) a (ops:=ops) (o:=o);obtain⟨b,_,Hh,_⟩:=(hr.drop ((RF C σ o).map (·.1))).Tj (fz:=RF C σ o) (λp hp=>by obtain⟨ver,ow,hs⟩:=h1 p hp;exact⟨ver,ow,by rw[BG.RQ,hs]⟩) h2
 refine⟨b,Hh,(FE.drop σ _).trans (FE.DW λp hp=>?_)⟩;obtain⟨q,hq,rfl⟩:=A4.1 hp;exact hw _ (c q hq)
def rZ(m:EP C run){ops:Array Oper}{Q:Exit->Act->World->Prop}{W:List Nat}{K:BG->IT}{R:Jp}:∀(rest:List Oper) (k:Nat) (U:Gh) (Z:Nat->Nat) (σ:BG) (h:Ai) (a:Act) (w:World),
  ops.toList.drop k=rest->(∀o∈rest,(∀s∈D5 ops.toList o,s∈W)/\∀s∈Fc ops.toList o,s∈W)->IT.step (B4 C) run (rB C fid ops.toList rest σ K) h=some R->CX C U0 w0 U Z σ h a w->
  (∀g f σ' h' a' w',IT.step (B4 C) run (K σ') h'=some R->FE W σ σ'->CX C U0 w0 g f σ' h' a' w'->Q .normal a' w')->wpOps C.P ops Q (List.range' k rest.length) a w
 |[],k,U,Z,σ,h,a,w,_,_,AI,hr,hQ=>by simp only[Bt,List.range'_zero,wpOps];exact hQ U Z σ h a w AI (.refl _ _) hr
 |o::rest,k,U,Z,σ,h,a,w,hk,hW,AI,hr,hQ=>by
  have ho:ops[k]?=some o:=by
   have:ops.toList[k]?=some o:=by have h0:=B2 (·[0]?) hk;simpa[Cp] using h0
   simpa using this
  have l:ops.toList.drop (k+1)=rest:=by have h0:=B2 (List.drop 1) hk;simpa[Es] using h0
  obtain⟨m8,lf⟩:=hW o Ax;simp only[AJ,List.range'_succ,wpOps,ho];obtain⟨U1,e,c⟩:=ly hr m8;obtain⟨i,j,IB⟩:=aT AI;have Jq:CX C U0 w0 U1 Z i h a w/\FE W σ i:=by
   rcases j with rfl|⟨s,b,g1,g2,rfl⟩
   .exact⟨e,c⟩
   .have h0:=e.fr.HR s;rw[g2] at h0;exact⟨e.fJ h0,c.trans (.set (lf s g1))⟩
  obtain⟨Jq,aEH⟩:=Jq;have next:∀g f σ' h' a' w',IT.step (B4 C) run (rB C fid ops.toList rest σ' K) h'=some R->FE W σ σ'->CX C U0 w0 g f σ' h' a' w'->wpOps C.P ops Q (List.range' (k+1) rest.length) a' w':=λg f σ' h' a' w' Wk zR Hh=>rZ m rest (k+1) g f σ' h' a' w' l (λo ho=>hW o (by simp[ho])) Wk Hh λq p d h2 a2 n LP aJm aEI=>hQ q p d h2 a2 n LP (zR.trans aJm) aEI
  rcases IB with⟨hg,IC⟩|⟨hg,IC⟩
  .rw[Af (Ll Jq hg)];unfold ij at IC;split at IC;.rename_i r hc;obtain⟨d,h2,hd,Uh⟩:=YS IC;exact .inl (k_ m hc hd Jq λg f a' w' Hh=>next g f d h2 a' w' Uh (aEH.trans ((rY hc hd).mono m8)) Hh)
   .cases IC
  .rw[Ad (by rw[Ll Jq hg];simp)];exact next U1 Z _ h _ w IC (aEH.trans (.put λs hs=>m8 s (Cu _ hs))) (Jq.put λ_ _=>rfl)
def m9{W:List Nat}{d:Option Nat}{σ σ':BG}(h:Mo d σ σ')(hd:∀s∈d.toList,s∈W):FE W σ σ':=by
 unfold Mo at h;cases d with
 |none=>simp only at h;rw[h];exact .refl _ _
 |some d=>
  simp only at h;split at h;.obtain⟨b,_,rfl⟩:=h;exact .set (hd d Ax)
  .rw[h];exact .refl _ _
def nA{ops:List Oper}{an:List Nat}{W:List Nat}(hW:∀o∈ops,∀s∈D5 ops o,s∈W){fl:List J2}{L:List St}{σ σf:BG}{h hf:Ai}(hs:Steps C fid ops run an fl L σ h σf hf):FE W σ σf:=by
 induction hs with
 |nil=>exact .refl _ _
 |cons h1 _ _ ih=>
  refine FE.trans ?_ ih;obtain⟨o,ho,⟨_,_,_,rfl,rfl⟩|⟨r,b,hg,hc,_,hd,_,ha⟩⟩:=h1;.exact .put λs hs=>hW o (Ct ho) s (Cu _ hs)
  .refine((rY hc hd).mono λs hs=>hW o (Ct ho) s hs).trans (m9 ha λs hs=>?_);split at hs;.exact hW o (Ct ho) s (Cu _ hs)
   .simp at hs
def Wl(hm:C.P.follows .mixedOrders=true)(f:EP C run){id:Nat}{ops:Array Oper}{draw:Bool}{Q:Exit->Act->World->Prop}{K:BG->IT}{R:Jp}(AI:IT.step (B4 C) run (RI C fid ops.toList draw σ K) h=some R)(hr:CX C U0 w0 U Z σ h a w)
  (hQ:∀d c σ' h' a' w',IT.step (B4 C) run (K σ') h'=some R->FE (ops.toList.flatMap (D5 ops.toList)++ops.toList.flatMap (Fc ops.toList)) σ σ'->CX C U0 w0 d c σ' h' a' w'->Q .normal a' w'):(Code.region id ops draw).wp C.P Q a w:=by
 unfold RI at AI;cases draw with
 |false=>refine wp_region ?_;have:=rZ (W:=ops.toList.flatMap (D5 ops.toList)++ops.toList.flatMap (Fc ops.toList)) f ops.toList 0 U Z σ h a w rfl (λo ho=>⟨λs hs=>Cu _ (qS.2 ⟨o,ho,hs⟩),λs hs=>BH _ (qS.2 ⟨o,ho,hs⟩)⟩) AI hr hQ;simpa[aHO] using this
 |true=>
  simp only[BE] at AI;split at AI
  .rename_i FB;obtain⟨L,σf,hf,h1,h2,g⟩:=QZ AI;refine wp_region_any hm ?_;have ū:=h2;unfold VN at ū;simp only[SY,BT,AN] at ū;have aEJ:rX (VL ops.toList) L:=by have:=Zb ū.1;rw[HC] at this;exact this
   have hlt:=h1.lt;have aB:∀i,i<ops.size->i∈L.map (·.idx):=λi hi=>by have:=Cg.1 ū.2 i (by simpa using hi);simpa using this
   have b:(L.map (·.idx)).Nodup:=by rw[List.Nodup,HC];exact aEJ.imp λh=>h.1
   have hlen:L.length=ops.size:=by
    have p1:(L.map (·.idx)).length<=(List.range ops.size).length:=NM b (λi hi=>by obtain⟨s,hs,rfl⟩:=A4.1 hi;simpa using hlt s hs)
    have p2:(List.range ops.size).length<=(L.map (·.idx)).length:=NM List.nodup_range λi hi=>aB i (by simpa using hi);simp at p1 p2;omega
   have zR:=nA (W:=ops.toList.flatMap (D5 ops.toList)++ops.toList.flatMap (Fc ops.toList)) (λo ho s hs=>Cu _ (qS.2 ⟨o,ho,hs⟩)) h1;refine ah f FB (λd c a' w' Hh=>hQ d c σf hf a' w' g zR Hh) ops.size L _ U Z σ h a w.drew hlen h1 aEJ ⟨Ax,λi hi=>⟨λ_=>aB i hi,λ_=>by simp[Array.getD,hi]⟩,λj hj e _=>?_⟩ hr.drew;exfalso;rcases Bi j ops.size with hlt|GX
   .simp[Array.getD,hlt] at hj
   .simp[Array.getD,Nat.not_lt.2 GX] at hj
  .cases AI
end
end Go.Am
end
section
namespace Go.Am
open Go
def PY(x y:D0):Prop:=
 (∃u,x.GZ=some u/\y= .val u)\/(∃v,x= .BK v/\y= .BK v)\/∃ver cs ow FM Nr,x= .box ver cs ow/\y= .box FM cs Nr/\∀o∈Nr,o∈ow
def BG.Ib:∀(ws:List Nat) (σ:BG) (s:Nat),(σ.clear ws).at s=if s∈ws then .undef else σ.at s
 |[],σ,s=>by simp[BG.clear]
 |t::ws,σ,s=>by
  rw[BG.clear,BG.Ib ws];by_cases h:s∈ws;.simp[h]
  .by_cases h2:s=t
   .subst h2;rw[BG.Wf];by_cases hl:s<σ.length;.simp[hl]
    .have:σ.at s= .undef:=by simp[BG.at,List.getD,hl]
     simp[h,hl,this]
   .rw[BG.FD λe=>h2 e.symm];simp[h,h2]
def BG.JC:∀(ws:List Nat) (σ:BG),(σ.clear ws).length=σ.length
 |[],σ=>rfl
 |t::ws,σ=>by rw[BG.clear,BG.JC ws];simp
section
variable{C:Fv}{U0 U:Gh}{w0 w:World}{Z:Nat->Nat}{σ:BG}{h:Ai}{a:Act}{fid:FuncId}{run:IT->Ai->Option Jp}
def PY.rel{B s:Nat}{x y:D0}{v:Value}(hx:K8 U Z B w s x v)(hf:PY x y):K8 U Z B w s y v:=by
 rcases hf with⟨u,hu,rfl⟩|⟨u,rfl,rfl⟩|⟨ver,cs,ow,FM,Nr,rfl,rfl,Wj⟩
 .exact M3 hx hu
 .exact hx
 .obtain⟨p1,p2,g,us,e,f,d,c,b⟩:=hx;exact⟨p1,p2,g,us,e,f,d,c,λo ho=>b o (Wj o ho)⟩
def Ui{σs:BG}{G:BG->IT}{R:Jp}{vs:List Aa}:∀{l:List (Nat×Sh)} {i:Nat} {σa:BG},VO σs l=some (vs.drop i)->σa.length=σs.length->IT.step (B4 C) run (I4 vs l i σa G) h=some R->
  ∃b,IT.step (B4 C) run (G b) h=some R/\b.length=σa.length/\(∀s,s∉l.map (·.1)->b.at s=σa.at s)/\(∀s,s∈l.map (·.1)->PY (σs.at s) (b.at s)/\
   ((∃FM GB Nr,b.at s= .box FM GB Nr/\YP (σa.at s)<FM)\/∀ver cs ow,σs.at s≠ .box ver cs ow))
 |[],i,σa,_,_,hr=>⟨σa,hr,rfl,λ_ _=>rfl,Ax⟩
 |(s,sh)::l,i,σa,hv,hl,hr=>by
  have hd:∃v Hy,vs.drop i=v::Hy/\vs.drop (i+1)=Hy/\vs.getD i .nilIface=v/\VO σs l=some Hy/\
    (match(generalizing:=false) sh,σs.at s with| .val,x=>x.GZ| .BK,.BK v=>some v| .box n ow,.box _ cs Nr=>if cs.length=n/\ow.all (Nr.contains ·) then some (.agg cs) else none|_,_=>none)=some v:=by
   unfold VO at hv;simp only at hv;split at hv
   .rename_i v Hy h1 h2;simp only[Bx] at hv;refine⟨v,Hy,hv.symm,?_,?_,h2,h1⟩;.have:=B2 (List.drop 1) hv;simpa[Es] using this.symm
    .have:=B2 (·[0]?) hv;simp only[Im,Cp,Bk] at this;simp[List.getD,<-this]
   .cases hv
  obtain⟨v,Hy,r,aJn,aK,Qi,RY⟩:=hd;have hlt:s<σa.length:=by rw[hl];refine BG.OT λe=>?_;rw[e] at RY;cases sh<;>simp[D0.GZ] at RY
  have go:∀(y:D0),PY (σs.at s) y->((∃FM GB Nr,y= .box FM GB Nr/\YP (σa.at s)<FM)\/∀ver cs ow,σs.at s≠ .box ver cs ow)->IT.step (B4 C) run (I4 vs l (i+1) (σa.set s y) G) h=some R->
    ∃b,IT.step (B4 C) run (G b) h=some R/\b.length=σa.length/\(∀t,t∉((s,sh)::l).map (·.1)->b.at t=σa.at t)/\(∀t,t∈((s,sh)::l).map (·.1)->PY (σs.at t) (b.at t)/\
     ((∃FM GB Nr,b.at t= .box FM GB Nr/\YP (σa.at t)<FM)\/∀ver cs ow,σs.at t≠ .box ver cs ow)):=by
   intro y hy c Hh;obtain⟨b,q,p,j,m⟩:=Ui (l:=l) (i:=i+1) (σa:=σa.set s y) (by rw[aJn];exact Qi) (by simpa using hl) Hh;refine⟨b,q,by simpa using p,λt ht=>?_,λt ht=>?_⟩;.simp only[A9,AG,Oi] at ht;rw[j t ht.2,BG.FD λe=>ht.1 e.symm]
   .by_cases hm:t∈l.map (·.1)
    .obtain⟨g,k⟩:=m t hm;refine⟨g,k.imp (λ⟨FM,GB,Nr,f,d⟩=>⟨FM,GB,Nr,f,?_⟩) id⟩;by_cases aG:s=t
     .subst aG;rw[BG.E2 hlt] at d;rcases c with⟨z,B,A,rfl,h1⟩|hn
      .simp only[YP] at d;omega
      .rcases g with⟨u,_,e⟩|⟨u,_,e⟩|⟨ver,cs,ow,_,_,e,_⟩
       .rw[f] at e;cases e
       .rw[f] at e;cases e
       .exact absurd e (hn _ _ _)
     .rwa [BG.FD aG] at d
    .have aG:t=s:=by simp only[A9,AG] at ht;exact ht.resolve_right hm
     subst aG;rw[j t hm,BG.E2 hlt];exact⟨hy,c⟩
  cases sh with
  |val=>
   simp only[I4,aK] at hr;have lz:(σs.at s).GZ=some v:=by simpa using RY
   refine go (.val v) (.inl ⟨v,lz,rfl⟩) (.inr λver cs ow e=>?_) hr;rw[e] at lz;cases lz
  |BK=>
   simp only[I4,aK] at hr;cases hx:σs.at s with
   |BK u=>rw[hx] at RY;cases RY;exact go (.BK v) (.inr (.inl ⟨v,hx,rfl⟩)) (.inr λver cs ow e=>by rw[hx] at e;cases e) hr
   |_=>rw[hx] at RY;cases RY
  |box n ow=>
   simp only[I4,aK,IT.step] at hr;cases hx:σs.at s with
   |box ver cs Nr=>
    rw[hx] at RY;simp only at RY;split at RY
    .rename_i Hz;cases RY;split at hr;.rename_i hn;rw[Th hn] at hr;refine go (.box (YP (σa.at s)+1) cs ow) (.inr (.inr ⟨ver,cs,Nr,_,ow,hx,rfl,λo ho=>?_⟩)) (.inl ⟨_,_,_,rfl,SZ _⟩) hr;have:=Cg.1 Hz.2 o ho;simpa using this
     .cases hr
    .cases RY
   |_=>rw[hx] at RY;cases RY
def CX.Ŭ(hr:CX C U0 w0 U Z σ h a w){O:BG}(hl:O.length=σ.length)(hs:∀s,O.at s= .undef\/O.at s=σ.at s\/PY (σ.at s) (O.at s)):CX C U0 w0 U Z O h a w:=by
 refine⟨hr.DG,⟨by rw[hl];exact hr.fr.size,λs=>?_⟩,hr.DA,hr.defers,hr.GC⟩;have h0:=hr.fr.HR s;rcases hs s with e|e|e
 .rw[e];trivial
 .rw[e];exact h0
 .exact e.rel h0
structure l_(σ0:BG)(ws:List Nat)(l:List (Nat×Sh))(σ':BG)(vs:List Aa):Prop where
 vec:VO σ' l=some vs
 len:σ'.length=σ0.length
 same:∀s,s∉l.map (·.1)->σ0.at s= .undef\/σ0.at s=σ'.at s
 box:∀s ver cs ow,σ0.at s= .box ver cs ow->∃FM GB Nr,σ'.at s= .box FM GB Nr
def gL{σ0 σ':BG}{l:List (Nat×Sh)}(hk:mB σ0 σ' l=true){s:Nat}(hs:s∉l.map (·.1)):(∀ver cs ow,σ0.at s= .box ver cs ow->∃GB Nr,σ'.at s= .box ver GB Nr)/\(∀t o,σ0.at s= .EU t o->∃t' o',σ'.at s= .EU t' o'):=by
 have hc:(l.map (·.1)).contains s=false:=by
  cases hc:(l.map (·.1)).contains s with
  |false=>rfl
  |true=>exact absurd (by simpa using hc) hs
 have gd:s<σ0.length->(match σ0.at s with
   | .box ver _ _=>(l.map (·.1)).contains s||(match σ'.at s with| .box FM _ _=>FM==ver|_=>false)
   | .EU _ _=>(l.map (·.1)).contains s||(match σ'.at s with| .EU _ _=>true|_=>false)
   |_=>true)=true:=λhl=>by
  unfold mB at hk;exact Cg.1 hk s (by simpa using hl)
 constructor
 .intro ver cs ow hx;have:=gd (BG.OT (by rw[hx];simp));rw[hx] at this;simp only[hc,I2] at this;split at this
  .rename_i FM GB Nr hy;have e:FM=ver:=by simpa using this
   subst e;exact⟨GB,Nr,hy⟩
  .cases this
 .intro t o hx;have:=gd (BG.OT (by rw[hx];simp));rw[hx] at this;simp only[hc,I2] at this;split at this;.rename_i t' o' hy;exact⟨t',o',hy⟩
  .cases this
def O3{σ0 b σ':BG}{ws:List Nat}{l:List (Nat×Sh)}{x:FG}{R:Jp}(UU:IT.step (B4 C) run (EE σ0 l x σ') h=some R)(zR:FE ws b σ')(hlen:b.length=σ0.length)
  (eX:∀s,s∈ws->σ0.at s= .undef) (M1:∀s,s∉l.map (·.1)->σ0.at s= .undef\/σ0.at s=b.at s) (aJo:∀s ver cs ow,σ0.at s= .box ver cs ow->∃FM GB Nr,b.at s= .box FM GB Nr):
  ∃vs,R=(x,vs,h)/\l_ σ0 ws l σ' vs:=by
 unfold EE at UU;split at UU
 .rename_i hk;split at UU
  .rename_i vs hv;cases UU;refine⟨vs,rfl,hv,zR.1.trans hlen,λs hs=>?_,λs ver cs ow hb=>?_⟩
   .by_cases hw:s∈ws;.exact .inl (eX s hw)
    .rcases M1 s hs with e|e
     .exact .inl e
     .right;have X5:=zR.2 s hw;obtain⟨i,g⟩:=gL hk hs;rw[e] at i g⊢;cases hx:b.at s with
      |box ver cs ow=>rw[hx] at X5;obtain⟨m,p,n,c,_,d⟩:=X5;obtain⟨k,f,j⟩:=i ver cs ow hx;rw[c] at j;cases j;obtain⟨rfl,rfl⟩:=d rfl;exact c.symm
      |EU t o=>
       rw[hx] at X5;rcases X5 with c|c
       .exact c.symm
       .obtain⟨t',o',d⟩:=g t o hx;rw[c] at d;cases d
      |_=>rw[hx] at X5;exact(show σ'.at s=_ from X5).symm
   .have hw:s∉ws:=λhw=>by rw[eX s hw] at hb;cases hb
    obtain⟨m,p,n,c⟩:=aJo s ver cs ow hb;have X5:=zR.2 s hw;rw[c] at X5;obtain⟨v2,k,f,d,_⟩:=X5;exact⟨v2,k,f,d⟩
  .cases UU
 .cases UU
def l_.next{σ0 σ':BG}{ws:List Nat}{l:List (Nat×Sh)}{vs:List Aa}(he:l_ σ0 ws l σ' vs){G:BG->IT}{R:Jp}(hr:CX C U0 w0 U Z σ' h a w)(AI:IT.step (B4 C) run (I4 vs l 0 σ0 G) h=some R):
  ∃b,IT.step (B4 C) run (G b) h=some R/\CX C U0 w0 U Z b h a w/\b.length=σ0.length/\(∀s,s∉l.map (·.1)->b.at s=σ0.at s)/\(∀s ver cs ow,σ0.at s= .box ver cs ow->∃FM GB Nr,b.at s= .box FM GB Nr/\(s∈l.map (·.1)->ver<FM)):=by
 obtain⟨b,i,f,c,d⟩:=Ui (σs:=σ') (by simpa using he.vec) he.len.symm AI;refine⟨b,i,hr.Ŭ (f.trans he.len.symm) λs=>?_,f,c,λs ver cs ow hb=>?_⟩
 .by_cases hm:s∈l.map (·.1);.exact .inr (.inr (d s hm).1)
  .rw[c s hm];rcases he.same s hm with e|e
   .exact .inl e
   .exact .inr (.inl e)
 .by_cases hm:s∈l.map (·.1)
  .obtain⟨_,q⟩:=d s hm;obtain⟨m,o,n,k⟩:=he.box s ver cs ow hb;rcases q with⟨FM,GB,Nr,j,g⟩|q
   .exact⟨FM,GB,Nr,j,λ_=>by rw[hb] at g;exact g⟩
   .exact absurd k (q _ _ _)
  .exact⟨ver,cs,ow,by rw[c s hm];exact hb,λh=>absurd h hm⟩
def O4{σ σ0 b:BG}{ws W:List Nat}{l:List (Nat×Sh)}(h0:σ0=σ.clear ws)(hv:ir l ws σ=true)(hl:b.length=σ0.length)(h1:∀s,s∉l.map (·.1)->b.at s=σ0.at s)
  (h2:∀s ver cs ow,σ0.at s= .box ver cs ow->∃FM GB Nr,b.at s= .box FM GB Nr/\(s∈l.map (·.1)->ver<FM)) (hW:∀s∈ws,s∈W):FE W σ b:=by
 refine⟨by rw[hl,h0,BG.JC],λs hs=>?_⟩;have xg:s∉ws:=λhm=>hs (hW s hm);have e0:σ0.at s=σ.at s:=by rw[h0,BG.Ib,Ad xg]
 by_cases hm:s∈l.map (·.1)
 .obtain⟨p,hp,rfl⟩:=A4.1 hm;have:=Cg.1 hv p hp;simp only[Oh,aEe] at this;rcases this with this|this
  .exact absurd this xg
  .cases hx:σ.at p.1 with
   |box ver cs ow=>obtain⟨c,i,d,g,f⟩:=h2 p.1 ver cs ow (by rw[e0];exact hx);have:=f hm;exact⟨c,i,d,g,Ab,λe=>Ab⟩
   |_=>rw[hx] at this;cases this
 .rw[h1 s hm,e0];exact .refl _
def EP.le{n m:Nat}(h:EP C (IT.run (B4 C) n))(Ę:m<=n):EP C (IT.run (B4 C) m):=⟨h.1,λf args h0 r h' AI=>h.2 f args h0 r h' (IT.HJ Ę AI)⟩
def ma(hm:C.P.follows .mixedOrders=true):∀(c:Code) (n:Nat),EP C (IT.run (B4 C) n)->∀{K:FG->BG->IT} {R:Jp} {σ:BG} {h:Ai} {a:Act} {w:World} {U:Gh} {Z:Nat->Nat} {Q:Exit->Act->World->Prop},
  IT.step (B4 C) (IT.run (B4 C) n) (FN C fid c σ K) h=some R->CX C U0 w0 U Z σ h a w->
  (∀x f d σ' h' a' w',IT.step (B4 C) (IT.run (B4 C) n) (K x σ') h'=some R->FE (CZ c++B7 c) σ σ'->CX C U0 w0 f d σ' h' a' w'->Q (ls x) a' w')->c.wp C.P Q a w:=by
 intro c;induction c with
 |skip=>intro n p K R σ h a w U Z Q AI hr g;exact wp_skip (g .normal U Z σ h a w AI (.refl _ _) hr)
 |region id ops draw=>
  intro n p K R σ h a w U Z Q AI hr g;simp only[FN] at AI;split at AI;.exact Wl hm p AI hr λf d σ' h' a' w' h1 h2 A=>g .normal f d σ' h' a' w' h1 h2 A
  .rename_i l hl;unfold aA at AI;simp only at AI;split at AI
   .rename_i hv;simp only[IT.step] at AI;split at AI
    .rename_i x vs h1 Wm;refine Wl hm p Wm hr λf d σ' h' a' w' z u q=>?_;obtain⟨Hy,e,he⟩:=O3 (h:=h') z u (by rw[BG.JC]) (λs hs=>by rw[BG.Ib,Af hs]) (λs _=>by rw[BG.Ib];split<;>simp) (λs ver cs ow hb=>by
      rw[BG.Ib] at hb;split at hb;.cases hb
      .exact⟨ver,cs,ow,hb⟩)
     cases e;obtain⟨k,p1,p2,I,G,F⟩:=he.next q AI;exact g .normal f d k h1 a' w' p1 (O4 rfl hv I G F (λs hs=>hs)) p2
    .cases AI
   .cases AI
 |seq x y D B=>
  intro n p K R σ h a w U Z Q AI hr g;simp only[FN] at AI;refine wp_seq (D n p AI hr λe f d σ' h' a' w' h1 h2 A=>?_);have up:∀j,FE (CZ x++B7 x) σ j->FE (CZ (.seq x y)++B7 (.seq x y)) σ j:=λj ho=>ho.mono λs hs=>by simp only[CZ,B7,Ap] at hs⊢;rcases hs with hs|hs<;>simp[hs]
  cases e with
  |normal=>refine B n p h1 A λT U2 Z2 j eY a2 V z u q=>g T U2 Z2 j eY a2 V z ((up _ h2).trans (u.mono λs hs=>?_)) q;simp only[CZ,B7,Ap] at hs⊢;rcases hs with hs|hs<;>simp[hs]
  |exit i=>exact g (.exit i) f d σ' h' a' w' h1 (up _ h2) A
  |ret=>exact g .ret f d σ' h' a' w' h1 (up _ h2) A
 |cond c x y D B=>
  intro n p K R σ h a w U Z Q AI hr g;have L:∀{o j:BG},FE (CZ x++B7 x) o j->FE (CZ (.cond c x y)++B7 (.cond c x y)) o j:=λ{o j} ho=>ho.mono λs hs=>by cases c<;>simp only[CZ,B7,Ap,AG] at hs⊢<;>rcases hs with hs|hs<;>simp[hs]
  have J:∀{o j:BG},FE (CZ y++B7 y) o j->FE (CZ (.cond c x y)++B7 (.cond c x y)) o j:=λ{o j} ho=>ho.mono λs hs=>by cases c<;>simp only[CZ,B7,Ap,AG] at hs⊢<;>rcases hs with hs|hs<;>simp[hs]
  simp only[FN] at AI;split at AI;.rename_i hc;obtain⟨s,h1,_⟩:=FO hr hc;exact wp_cond_true h1 (D n p AI hr λe f d σ' h' a' w' z u q=>g e f d σ' h' a' w' z (L u) q)
  .rename_i hc;obtain⟨s,h1,_⟩:=FO hr hc;exact wp_cond_false h1 (B n p AI hr λe f d σ' h' a' w' z u q=>g e f d σ' h' a' w' z (J u) q)
  .rename_i s v hc;have č:σ.at s= .val v:=GG hc;have h0:=hr.fr.HR s;rw[č] at h0;have E:∀{N:FG->BG->IT} {R':Jp} {Q':Exit->Act->World->Prop},IT.step (B4 C) (IT.run (B4 C) n) (.AD v (FN C fid x (σ.set s (.OD true)) N) (FN C fid y (σ.set s (.OD false)) N)) h=some R'->
     (∀e f d σ' h' a' w',IT.step (B4 C) (IT.run (B4 C) n) (N e σ') h'=some R'->FE (CZ (.cond (.tmp s) x y)++B7 (.cond (.tmp s) x y)) σ σ'->CX C U0 w0 f d σ' h' a' w'->Q' (ls e) a' w')->(Code.cond (.tmp s) x y).wp C.P Q' a w:=by
    intro N R' Q' Wk M;have aa:∀b:Bool,FE (CZ (.cond (.tmp s) x y)++B7 (.cond (.tmp s) x y)) σ (σ.set s (.OD b)):=λb=> .set (by simp[B7]);simp only[IT.step] at Wk;split at Wk;.have hv:a.eval (.tmp s)= .bool true:=h0;exact wp_cond_true hv (D n p Wk (hr.fJ h0) λe f d σ' h' a' w' z u q=>M e f d σ' h' a' w' z ((aa true).trans (L u)) q)
    .have hv:a.eval (.tmp s)= .bool false:=h0;exact wp_cond_false hv (B n p Wk (hr.fJ h0) λe f d σ' h' a' w' z u q=>M e f d σ' h' a' w' z ((aa false).trans (J u)) q)
    .cases Wk
   split at AI;.exact E AI g
   .rename_i l hl;unfold aA at AI;simp only at AI;split at AI
    .rename_i hv;simp only[IT.step] at AI;split at AI
     .rename_i e vs h1 Wm;refine E Wm λT f d σ' h' a' w' z u q=>?_;obtain⟨Hy,eq,he⟩:=O3 (h:=h') (ws:=s::(CZ x++CZ y++B7 x++B7 y)) z (u.mono λt ht=>by
        simp only[CZ,B7,Ap,AG] at ht⊢;rcases ht with(ht|ht)|ht|ht|ht<;>simp[ht]) (by rw[BG.JC]) (λt ht=>by rw[BG.Ib,Af ht]) (λt _=>by rw[BG.Ib];split<;>simp) (λt ver cs ow hb=>by
       rw[BG.Ib] at hb;split at hb;.cases hb
       .exact⟨ver,cs,ow,hb⟩)
      cases eq;obtain⟨k,p1,p2,I,G,F⟩:=he.next q AI;exact g e f d k h1 a' w' p1 (O4 rfl hv I G F (λt ht=>by simp only[CZ,B7,Ap,AG] at ht⊢;rcases ht with ht|((ht|ht)|ht)|ht<;>simp[ht])) p2
     .cases AI
    .cases AI
  .cases AI
 |block id b ih=>
  intro n p K R σ h a w U Z Q AI hr g;simp only[FN] at AI;refine wp_block (ih n p AI hr λe f d σ' h' a' w' h1 h2 A=>?_);cases e with
  |normal=>exact g .normal f d σ' h' a' w' h1 h2 A
  |exit i=>
   simp only at h1;show if i=id then Q .normal a' w' else Q (.exit i) a' w'
   by_cases hi:i=id;.rw[Af hi] at h1⊢;exact g .normal f d σ' h' a' w' h1 h2 A
   .rw[Ad hi] at h1⊢;exact g (.exit i) f d σ' h' a' w' h1 h2 A
  |ret=>exact g .ret f d σ' h' a' w' h1 h2 A
 |loop b ih=>
  intro n p K R σ h a w U Z Q AI hr g;simp only[FN] at AI;generalize hl:C.ō fid ((Gl b).getD 0)=l at AI;generalize aPy:(Gl b).getD 0=key at AI;generalize h0:σ.clear (CZ b++B7 b)=σ0 at AI;split at AI
  .rename_i hv;split at AI;.cases AI
   .rename_i init aEK;have aEL:σ0.length=σ.length:=by rw[<-h0,BG.JC]
    have eX:∀s,s∈CZ b++B7 b->σ0.at s= .undef:=λs hs=>by rw[<-h0,BG.Ib,Af hs]
    refine aS (λm a w=>∃U Z o h vs,CX C U0 w0 U Z o h a w/\l_ σ0 (CZ b++B7 b) l o vs/\m<=n+1/\
     IT.run (B4 C) m (.loop key vs (λvs=>I4 vs l 0 σ0 λk=>FN C fid b k λx σ'=>EE σ0 l x σ') λx vs=>I4 vs l 0 σ0 λσ'=>Ĉ K x σ') h=some R) ?_ (n+1) a w
     ⟨U,Z,σ,h,init,hr,⟨aEK,aEL.symm,λs _=>by rw[<-h0,BG.Ib];split<;>simp,λs ver cs ow hb=>by
      rw[<-h0,BG.Ib] at hb;split at hb;.cases hb
      .exact⟨ver,cs,ow,hb⟩⟩,Ae _,AI⟩
    rintro m a1 w1 ⟨U1,Z1,o,h1,vs,Jq,O,Ę,IC⟩;cases m with
    |zero=>simp[IT.run] at IC
    |succ m=>
     simp only[IT.run,IT.step] at IC;have body:∀{x:FG} {Hy:List Aa} {h':Ai},IT.step (B4 C) (IT.run (B4 C) m) (I4 vs l 0 σ0 λk=>FN C fid b k λx σ'=>EE σ0 l x σ') h1=some (x,Hy,h')->∀{Q':Exit->Act->World->Prop},
       (∀f d σ' a' w',CX C U0 w0 f d σ' h' a' w'->l_ σ0 (CZ b++B7 b) l σ' Hy->Q' (ls x) a' w')->b.wp C.P Q' a1 w1:=by
      intro x Hy h' hb Q' S;obtain⟨k,p1,p2,I,G,F⟩:=O.next Jq hb;refine ih m (p.le Ab) p1 p2 λy f d σ' h2 a' w' z u q=>?_;obtain⟨X,eq,he⟩:=O3 z u I eX (λs hs=> .inr (G s hs).symm) λs ver cs ow hb=>by obtain⟨Y,c1,o1,e1,_⟩:=F s ver cs ow hb;exact⟨Y,c1,o1,e1⟩
      cases eq;exact S f d σ' a' w' q he
     split at IC;.rename_i Hy h' hb;exact body hb λf d σ' a' w' Hh aU=>⟨m,SZ m,f,d,σ',h',Hy,Hh,aU,Ab,IC⟩
     .rename_i x Hy h' hne hb;refine body hb λf d σ' a' w' Hh aU=>?_;have Uh:=IT.Jf (λt h r=>IT.HJ (fn:=B4 C) (Ab:m<=n)) _ _ _ IC;obtain⟨k,p1,p2,I,G,F⟩:=aU.next Hh Uh;have ho:=O4 h0.symm hv I G F λs hs=>hs;cases x with
      |normal=>exact absurd rfl hne
      |exit i=>exact g _ f d k h' a' w' p1 ho p2
      |ret=>exact g _ f d k h' a' w' p1 ho p2
     .cases IC
  .cases AI
 |exit id=>intro n p K R σ h a w U Z Q AI hr g;exact wp_exit (g (.exit id) U Z σ h a w AI (.refl _ _) hr)
 |ret=>intro n p K R σ h a w U Z Q AI hr g;exact wp_ret (g .ret U Z σ h a w AI (.refl _ _) hr)
 |label l=>intro n p K R σ h a w U Z Q AI hr g;exact wp_label (g .normal U Z σ h a w AI (.refl _ _) hr)
 |scope b ih=>
  intro n p K R σ h a w U Z Q AI hr g;simp only[FN] at AI;refine wp_scope_straight (ih n p AI hr λe f d σ' h' a' w' h1 h2 A=>?_);cases e with
  |normal=>exact g .normal f d σ' h' a' w' h1 h2 A
  |exit i=>exact g (.exit i) f d σ' h' a' w' h1 h2 A
  |ret=>exact g .ret f d σ' h' a' w' h1 h2 A
 |_=>intros n p K R σ h a w U Z Q AI hr g;cases AI
end
end Go.Am
end
section
namespace Go.Am
open Go
section
variable{C:Fv}{U0 U:Gh}{w0 w:World}{Z:Nat->Nat}{σ:BG}{h:Ai}{a:Act}{fid:FuncId}{run:IT->Ai->Option Jp}
def Ic(tmps:Array Value):ResultVar->Sem Value
 | .tmp t=>pure (tmps.getD t undef)
 | .cell a t=>do loadVar t (<-asAddr (tmps.getD a undef))
def RZ{P:Program}{t:TypeId}{b o:Nat}{v:Value}(h:(Instr.loadAt t (.pointer (some ⟨b,o,none⟩))).run P w= .ok v w):(loadVar t ⟨b,o,none⟩).run P w= .ok v w:=by simpa[Instr.loadAt,Instr.sureAddr] using h
def Uj{K:List Aa->IT}{R:Jp}:∀{rs:List ResultVar} {DA:List Aa},IT.step (B4 C) run (Gf C σ rs DA K) h=some R->CX C U0 w0 U Z σ h a w->
  ∃vs us,(rs.mapM (Ic a.tmps)).run C.P w= .ok us w/\AW U vs us/\IT.step (B4 C) run (K (DA.reverse++vs)) h=some R
 |[],DA,AI,hr=>⟨[],[],Ax,rfl,by simpa[Gf] using AI⟩
 |c::rs,DA,AI,hr=>by
  have one:∀(v:Aa) (u:Value),(Ic a.tmps c).run C.P w= .ok u w->BF U v u->IT.step (B4 C) run (Gf C σ rs (v::DA) K) h=some R->
    ∃vs us,((c::rs).mapM (Ic a.tmps)).run C.P w= .ok us w/\AW U vs us/\IT.step (B4 C) run (K (DA.reverse++vs)) h=some R:=by
   intro v u h1 h2 g;obtain⟨vs,us,q,m,l⟩:=Uj g hr;refine⟨v::vs,u::us,?_,⟨u,us,rfl,h2,m⟩,by simpa using l⟩;simp[List.mapM_cons,h1,q]
  cases c with
  |tmp t=>
   simp only[Gf] at AI;split at AI;.rename_i v hv;exact one v _ (by simp[Ic]) (M3 (hr.fr.HR t) hv) AI
   .cases AI
  |cell p t=>
   have ŭ:∀(b o:Nat) (v:Aa),a.tmps.getD p undef= .pointer (some ⟨b,o,none⟩)->(∃u,(Instr.loadAt t (.pointer (some ⟨b,o,none⟩))).run C.P w= .ok u w/\BF U v u)->IT.step (B4 C) run (Gf C σ rs (v::DA) K) h=some R->
     ∃vs us,((ResultVar.cell p t::rs).mapM (Ic a.tmps)).run C.P w= .ok us w/\AW U vs us/\IT.step (B4 C) run (K (DA.reverse++vs)) h=some R:=by
    intro b o v hp ⟨u,h1,h2⟩ g;refine one v u ?_ h2 g;simp only[Ic,hp,asAddr,Sem.run_bind,Sem.run_pure,Result.andThen_ok];exact RZ h1
   simp only[Gf] at AI;split at AI
   .rename_i s off ver cs ow ht ha;split at AI;.rename_i hlt;obtain⟨hs,hx⟩:=KE hr ha;obtain⟨u,f,d,_⟩:=Kt hr ht hs (r:=cs.getD off .nilIface) (off:=off) (by simp[E0,List.getD,As hlt]);exact ŭ _ _ _ hx ⟨u,f,d⟩ AI
    .cases AI
   .rename_i n s off ver cs ow ht ha;split at AI;.rename_i Ee;obtain⟨hs,hx⟩:=KE hr ha;obtain⟨u,f,d,_⟩:=Kt hr ht hs (r:= .agg ((cs.drop off).take n)) (off:=off) (by simp[E0,Ee]);exact ŭ _ _ _ hx ⟨u,f,d⟩ AI
    .cases AI
   .rename_i n p' ht ha;simp only[IT.step] at AI;split at AI
    .rename_i v hv;have rR:=QV hr ha;unfold Bj at hv;split at hv;.rename_i cs;obtain⟨b,k,fZ,hm⟩:=rR;obtain⟨us,p1,p2⟩:=hm.values;exact ŭ b k v fZ (Ia (w:=w) ht p1 (λj u hj=>(hr.DG.HU _ _ _ (p2 j u hj)).1) (λu hu=>by obtain⟨j,hj⟩:=CD hu;exact(hr.DG.HU _ _ _ (p2 j u hj)).2.1) hv) AI
     .rename_i id off;obtain⟨b,hb,fZ⟩:=rR;split at hv
      .rename_i cs hcs;obtain⟨us,e,fr,p1,pf,p2,i⟩:=hr.DG.cells id cs hcs b hb;refine ŭ b off v fZ (Ia (w:=w) (b:=b) (o:=off) ht (p2.drop off) (λj u hj=>?_) (λu hu=>i u (Bu hu)) (OX hv)) AI;rw[cell_of_row w _ _ us e fr p1];rw[Cp,Cj] at hj;split at hj;.simpa using hj
       .cases hj
      .cases hv
     .cases hv
    .cases AI
   .cases AI
def CX.H7(hr:CX C U0 w0 U Z σ h a w){p:Aa}{off:Nat}{u:Value}{h':Ai}(hp:BF U p u)(hf:LJ h off p=some h'):∃m,CX C U0 w0 m Z σ h' a w:=by
 unfold LJ at hf;split at hf;.cases hf;exact⟨U,hr⟩
 .rename_i id k;generalize k+off=o at hf;obtain⟨b,hb,_⟩:=hp;split at hf
  .rename_i cs hcs;split at hf
   .rename_i v hv;obtain⟨us,e,fr,p1,pf,p2,r⟩:=hr.DG.cells id cs hcs b hb;obtain⟨x,hx,ř⟩:=p2.get hv;cases hq:Li h v with
    |none=>rw[hq] at hf;cases hf
    |some q=>
     obtain⟨h1,v'⟩:=q;rw[hq] at hf;simp only[Cm] at hf;split at hf
     .rename_i GB aEM;cases hf;obtain⟨U1,Ee,Jq,jr⟩:=hr.UI ř hq;have S7:=Ee.mu _ _ hb;obtain⟨Š,s,l,f,g,r2,j⟩:=Jq.DG.cells id GB aEM b S7;rw[p1] at f;cases f;have aa:AW U1 (GB.set o v') (us.toList.take (GB.set o v').length):=by
       rw[BV];refine AW.GF (by simp[r2.length]) λi y z hy hz=>?_;by_cases hi:o=i
       .subst hi;by_cases hlt:o<GB.length
        .rw[AE hlt] at hy;cases hy;have d:x=z:=by rw[CM hlt] at hz;have aJq:o<cs.length:=(Aj.1 hv).1;rw[CM aJq] at hx;rw[hx] at hz;exact DE hz
         rw[<-d];exact jr
        .rw[C5 (by simpa using hlt)] at hy;cases hy
       .rw[Ao hi] at hy;obtain⟨n,X9,c⟩:=r2.get hy;rw[hz] at X9;cases X9;exact c
      obtain⟨Uc,RV⟩:=M0 Jq.DG aEM S7 p1 us (GB.set o v') rfl g aa (by rw[BV];exact j);rw[setRow_self w b us e fr p1] at Uc RV;exact⟨U1,Jq.IA Uc RV⟩
     .cases hf
   .cases hf
  .cases hf
 .cases hf
def sB{t:IT}{R:Jp}:∀{l:List (Nat×Nat)} {U:Gh} {h:Ai},IT.step (B4 C) run (rE C σ l t) h=some R->CX C U0 w0 U Z σ h a w->∃b h',CX C U0 w0 b Z σ h' a w/\IT.step (B4 C) run t h'=some R
 |[],U,h,AI,hr=>⟨U,h,hr,AI⟩
 |(s,off)::l,U,h,AI,hr=>by
  simp only[rE] at AI;split at AI
  .rename_i p hp;simp only[IT.step] at AI;split at AI;.rename_i h1 hf;obtain⟨U1,Jq⟩:=hr.H7 (M3 (hr.fr.HR s) hp) hf;exact sB AI Jq
   .cases AI
  .cases AI
def Wn{R:Jp}:∀{vs DA:List Aa} {U:Gh} {h:Ai} {us fu:List Value},IT.step (B4 C) run (OR vs DA T4) h=some R->CX C U0 w0 U Z σ h a w->AW U vs us->AW U DA.reverse fu->
  ∃c h' Hy,CX C U0 w0 c Z σ h' a w/\AW c Hy (fu++us)/\IT.step (B4 C) run (T4 Hy) h'=some R
 |[],DA,U,h,us,fu,AI,hr,h1,h2=>by rw[show us=[] from h1,BB];exact⟨U,h,DA.reverse,hr,h2,AI⟩
 |v::vs,DA,U,h,us,fu,AI,hr,h1,h2=>by
  obtain⟨u,Dk,rfl,hv,h1⟩:=h1;simp only[OR,IT.step] at AI;split at AI
  .rename_i k v' hf;obtain⟨U1,Ee,Jq,jr⟩:=hr.UI hv hf;have i:AW U1 (v'::DA).reverse (fu++[u]):=by rw[HD];exact(AW.mono Ee _ _ h2).append ⟨u,[],rfl,jr,rfl⟩
   obtain⟨j,g,b,f,e,d⟩:=Wn AI Jq (AW.mono Ee _ _ h1) i;exact⟨j,g,b,f,by rwa [AS] at e,d⟩
  .cases AI
def sC{R:Jp}{vs:List Aa}{us:List Value}{U:Gh}{h:Ai}(AI:IT.step (B4 C) run (T4 vs) h=some R)(hv:AW U vs us):
  ∃r,R=(.ret,[r],h)/\BF U r (if c:us.toArray.size=1 then us.toArray[0] else .tuple us.toArray):=by
 unfold T4 at AI;split at AI;.rename_i v;obtain⟨u,Dk,rfl,b,hnil⟩:=hv;rw[show Dk=[] from hnil];simp only[IT.step] at AI;cases AI;exact⟨v,rfl,by simpa using b⟩
 .rename_i hne;simp only[IT.step] at AI;cases AI;have hlen:us.length≠1:=λe=>by have:=hv.length;rw[e] at this;obtain⟨v,hv⟩:=aDE.1 this.symm;exact hne v hv
  refine⟨_,rfl,?_⟩;rw[dif_neg (by simpa using hlen)];exact⟨us.toArray,rfl,by simpa using hv⟩
def Uk{fn:Func}{tmps:Array Value}{us:List Value}(h:(fn.results.toList.mapM (Ic tmps)).run C.P w= .ok us w):(results fn tmps).run C.P w= .ok (if b:us.toArray.size=1 then us.toArray[0] else .tuple us.toArray) w:=by
 have e:fn.results.mapM (Ic tmps)=(do let l<-fn.results.toList.mapM (Ic tmps);pure l.toArray:Sem (Array Value)):=by rw[Array.mapM_eq_mapM_toList];simp
 have c:results fn tmps=(do let vs<-fn.results.mapM (Ic tmps);pure (if b:vs.size=1 then vs[0] else .tuple vs):Sem Value):=by unfold results;congr 2
 rw[c,e];simp only[Sem.run_bind,h,Result.andThen_ok,Sem.run_pure]
def yv{fn:Func}{R:Jp}(AI:IT.step (B4 C) run (fI C fid fn σ) h=some R)(hr:CX C U0 w0 U Z σ h a w):
  ∃r h' v f,R=(.ret,[r],h')/\(results fn a.tmps).run C.P w= .ok v w/\Hj f h' w/\Lx U0 w0 f w/\BF f r v/\(C.I3 fid=true->∃s c,IE f w0.heap.size w s c v r):=by
 unfold fI at AI;split at AI;.cases AI
 .rename_i Fj;obtain⟨U1,h1,Jq,IC⟩:=sB AI hr;by_cases ho:C.I3 fid=true
  .have g:∃t x,fn.results.toList=[.tmp t]/\σ.at t= .BK x:=by
    have:PS σ fn.results.toList=true:=by
     cases hq:PS σ fn.results.toList with
     |true=>rfl
     |false=>exact absurd (by simp[ho,hq]) Fj
    unfold PS at this;split at this
    .rename_i t JU;split at this;.rename_i x hx;exact⟨t,x,JU,hx⟩
     .cases this
    .cases this
   obtain⟨t,x,d,hx⟩:=g;have h0:=Jq.fr.HR t;rw[hx] at h0;have yw:=Uk (C:=C) (w:=w) (fn:=fn) (tmps:=a.tmps) (us:=[a.tmps.getD t undef]) (by rw[d];simp[Ic]);rw[d] at IC;simp only[Gf,hx,D0.GZ,HD,SY,BT] at IC;have aEN:Li h1 x=some (h1,x):=by rcases h0.2 with(rfl|⟨_,rfl⟩)|⟨_,_,_,_,_,_,_,rfl,_⟩<;>rfl
   have hR:R=(.ret,[x],h1):=by
    split at IC;.simp only[OR,IT.step,aEN,HD,SY,BT,T4] at IC;cases IC;rfl
    .simp only[IT.step,T4] at IC;cases IC;rfl
   exact⟨x,h1,_,U1,hR,by simpa using yw,Jq.DG,Jq.DA,h0.1,λ_=>⟨t,none,h0.2⟩⟩
  .obtain⟨vs,us,n,k,Uh⟩:=Uj IC Jq;simp only[SY,BT] at Uh;have yw:=Uk (C:=C) n;split at Uh;.obtain⟨o,h2,l,j,i,m⟩:=Wn Uh Jq k (fu:=[]) rfl;rw[BT] at i;obtain⟨r,hR,b⟩:=sC m i;exact⟨r,h2,_,o,hR,yw,j.DG,j.DA,b,λe=>absurd e ho⟩
   .obtain⟨r,hR,b⟩:=sC Uh k;exact⟨r,h1,_,U1,hR,yw,Jq.DG,Jq.DA,b,λe=>absurd e ho⟩
def CX.start{U:Gh}{h:Ai}{w:World}(hi:Hj U h w)(hg:∀g cs,C.GC g=some cs->CQ U cs g 0){args:List Aa}{cargs:Array Value}(ha:AW U args cargs.toList)(n:Nat)(Z:Nat->Nat):
  CX C U w U Z (args.map .val++List.replicate (n-args.length) .undef) h {tmps:=cargs++Array.replicate (n-cargs.size) undef,defers:=[]} w:=by
 have hlen:cargs.size=args.length:=by have:=ha.length;simpa using this
 refine⟨hi,⟨by simp[hlen],λs=>?_⟩,Lx.refl U w,rfl,hg⟩;by_cases hs:s<args.length
 .have h1:BG.at (args.map .val++List.replicate (n-args.length) .undef) s= .val args[s]:=by simp[BG.at,List.getD,An,hs]
  obtain⟨u,hu,hr⟩:=ha.get (As hs);have h2:(cargs++Array.replicate (n-cargs.size) undef).getD s undef=u:=by
   rw[GM,Array.getElem?_append_left Ab];have:cargs[s]?=some u:=by simpa using hu
   rw[this];rfl
  rw[h1,h2];exact hr
 .have h1:BG.at (args.map .val++List.replicate (n-args.length) .undef) s= .undef:=by have hm:(args.map D0.val).length=args.length:=Ax;simp only[BG.at,List.getD];rw[BI Ab,List.getElem?_replicate];split<;>rfl
  rw[h1];trivial
def aV(C:Fv):Prop:=
 (∀f,C.MI f=true->jy C f)/\∀(f:FuncId) (p:List Aa->IT),C.Ŏ f=some p->∀n,EP C (IT.run (B4 C) n)->∀(args:List Aa) (h:Ai) (r:Aa) (h':Ai),IT.step (B4 C) (IT.run (B4 C) n) (p args) h=some (.ret,[r],h')->
  (∃fn c,C.P.funcs[Ea f]?=some fn/\(fn.name== "runtime.NumGoroutine")=false/\fn.body=some c)/\
  ∀(U:Gh) (w:World) (cargs:Array Value),Hj U h w->(∀g cs,C.GC g=some cs->CQ U cs g 0)->AW U args cargs.toList->
   Calls C.P (Ea f) cargs w λe w'=>match e with
    | .returned v=>∃b,Hj b h' w'/\Lx U w b w'/\BF b r v/\(C.I3 f=true->∃s c,IE b w.heap.size w' s c v r)
    |_=>False
def gM(hm:C.P.follows .mixedOrders=true)(yx:∀g cs,C.GC g=some cs->cs.all Aa.Me=true)(ę:aV C):∀n,EP C (IT.run (B4 C) n)
 |0=>⟨⟨yx,ę.1⟩,λf args h r h' AI=>by simp[IT.run] at AI⟩
 |n+1=>⟨⟨yx,ę.1⟩,λf args h r h' AI=>by
  have ih:=gM hm yx ę n;simp only[IT.run] at AI;unfold B4 at AI;split at AI;.rename_i p hp;exact ę.2 f p hp n ih args h r h' AI
  unfold aEl at AI;split at AI
  .rename_i fn hf;split at AI;.cases AI
   .rename_i hname;unfold iu at AI;split at AI;.cases AI
    .rename_i c hb;refine⟨⟨fn,c,hf,by simpa using hname,hb⟩,λU w cargs hi hg ha=>calls_of_wp hf hb ?_⟩;refine ma (C:=C) (fid:=f) hm c n ih AI (CX.start hi hg ha fn.ntmps (λ_=>0)) λx q o σ' h1 a' w' d _ j=>?_;have HM:IT.step (B4 C) (IT.run (B4 C) n) (fI C f fn σ') h1=some (.ret,[r],h')->a'.defers=[]/\∃v,(results fn a'.tmps).run C.P w'= .ok v w'/\∃b,Hj b h' w'/\Lx U w b w'/\BF b r v/\(C.I3 f=true->∃s c,IE b w.heap.size w' s c v r):=λaJs=>by obtain⟨r',h2,v,b,e,p1,p2,m,l,k⟩:=yv aJs j;cases e;exact⟨j.defers,v,p1,b,p2,m,l,k⟩
     cases x with
     |normal=>exact HM d
     |ret=>exact HM d
     |exit i=>cases d
  .cases AI⟩
end
def Ev.calls{C:Fv}(hm:C.P.follows .mixedOrders=true)(yx:∀g cs,C.GC g=some cs->cs.all Aa.Me=true)(ę:aV C){f:FuncId}{args:List Aa}{h:Ai}{Q:Aa->Ai->Prop}(O5:Ev C f args h Q){U:Gh}{w:World}{cargs:Array Value}(hi:Hj U h w)(hg:∀g cs,C.GC g=some cs->CQ U cs g 0)(ha:AW U args cargs.toList):
  Calls C.P (Ea f) cargs w λe w'=>match e with
   | .returned v=>∃r h' b,Q r h'/\Hj b h' w'/\Lx U w b w'/\BF b r v
   |_=>False:=by
 obtain⟨n,x,vs,h',AI,rfl,r,rfl,hQ⟩:=O5;refine(((gM hm yx ę n).2 f args h r h' AI).2 U w cargs hi hg ha).mono λe w' he=>?_;cases e with
 |returned v=>obtain⟨b,p1,p2,c,_⟩:=he;exact⟨r,h',b,hQ,p1,p2,c⟩
 |_=>exact he
end Go.Am
end
section
namespace Go.Am
open Go
inductive Ty where
 |bool
 |int (k:IntKind)
 |str
 |sl (e:Ty)
 |st (fs:List Ty)
 deriving Inhabited
mutual
def Ty.size:Ty->Nat
 | .bool| .int _| .str| .sl _=>1
 | .st fs=>Ty.Mp fs
def Ty.Mp:List Ty->Nat
 |[]=>0
 |t::ts=>Ty.size t+Ty.Mp ts
end
mutual
def M8(P:Program):Ty->TypeId->Bool
 | .bool,t=>match P.underlying t with|some .bool=>true|_=>false
 | .int k,t=>match P.underlying t with|some (.int k')=>decide (k'=k)|_=>false
 | .str,t=>match P.underlying t with|some .string=>true|_=>false
 | .sl e,t=>match P.underlying t with
  |some (.slice b)=>P.cellsOf b==Ty.size e&&decide (0<Ty.size e)&&M8 P e b
  |_=>false
 | .st fs,t=>match P.underlying t with
  |some (.struct fields)=>P.cellsOf t==Ty.Mp fs&&O6 P fs fields.toList 0
  |_=>false
def O6(P:Program):List Ty->List Field->Nat->Bool
 |[],[],_=>true
 |ty::tys,f::fs,off=>f.offset==off&&P.cellsOf f.type==Ty.size ty&&M8 P ty f.type&&O6 P tys fs (off+Ty.size ty)
 |_,_,_=>false
end
mutual
def X6:Ty->List Aa->Prop
 | .bool,l=>∃b,l=[.bool b]
 | .int k,l=>∃n,l=[.int k n]/\(Lit.int k n).wf=true
 | .str,l=>∃s:Ah,l=[.str s]/\s.length<=maxLen
 | .sl e,l=>l=[.slnil]\/∃Aw:List (List Aa),l=[.sl (Ty.size e) Aw]/\Aw.length<=maxLen/\∀r∈Aw,X6 e r
 | .st fs,l=>ak fs l
def ak:List Ty->List Aa->Prop
 |[],l=>l=[]
 |ty::tys,l=>∃a b,l=a++b/\X6 ty a/\ak tys b
end
def Ty.Ů:Ty->Bool
 | .st _=>true
 |_=>false
def nB(ty:Ty)(a:Aa):Prop:=if ty.Ů then∃cs,a= .agg cs/\X6 ty cs else X6 ty [a]
def R4:List Ty->List Aa->Prop
 |[],l=>l=[]
 |ty::tys,l=>∃a b,l=a::b/\nB ty a/\R4 tys b
def FQ(W:World):Gh:={HU:=λb o=>(W.cell? ⟨b,o,none⟩).filter (·.oneCell'),mu:=λ_=>none,BK:=λ_=>none,sz:=λ_=>none}
def mb(W:World):Hj (FQ W) [] W:=by refine⟨λb o v h=>?_,λid x h=>by simp at h,λid cs h=>by simp at h,λid es h=>by simp at h,λid b h=>(by cases h),λb x h=>(by cases h),λb n h=>(by cases h)⟩;simp only[FQ,Qn] at h;exact⟨h.1,h.2,.inl rfl⟩
def To{W:World}{b o:Nat}{v:Value}(h:W.cell? ⟨b,o,none⟩=some v)(h1:v.oneCell'=true):(FQ W).HU b o=some v:=by simp[FQ,h,h1,Option.filter]
def Ul{V:Type}{p:Nat->V->Prop}:∀(n:Nat),(∀i,i<n->∃x,p i x)->∃l:List V,l.length=n/\∀i x,l[i]?=some x->p i x
 |0,_=>⟨[],rfl,Ax⟩
 |n+1,h=>by
  obtain⟨l,hl,hp⟩:=Ul n λi hi=>h i Ab;obtain⟨x,hx⟩:=h n Ab;refine⟨l++[x],by simp[hl],λi y hy=>?_⟩;rw[aHN] at hy;split at hy;.exact hp i y hy
  .have:i-l.length=0:=by
    rcases Lf (i-l.length) with h0|h0
    .exact h0
    .rw[C5 Ei] at hy;cases hy
   rw[this] at hy;simp at hy;subst hy;have:i=n:=Ab;rw[this];exact hx
section
variable{H:Type}{enc:TypeId×Value->H}{P:Program}{W:World}
def Qx{a:Addr}{n:Nat}{cs:List Value}(h:W.cells? 0 a n=some cs)(hn:0<n):a.spot=none:=by
 obtain⟨_,hl,hc⟩:=World.cells?_some h;have h0:=hc 0 hn;have hlt:0<cs.length:=Ab;rw[As hlt] at h0;unfold World.cell? at h0;have ha:a.add 0=a:=by simp[Addr.add]
 rw[ha] at h0;split at h0
 .split at h0;.cases h0
  .rename_i hs;simpa using hs
 .cases h0
mutual
def aW:∀(ty:Ty) {t:TypeId} {fuel:Nat} {cs:List Value} {x:DataW H×List MemPlace},M8 P ty t=true->DataW.trod enc P W 0 (λ_=>true) true fuel t cs=some x->
  ∃as,X6 ty as/\AW (FQ W) as cs/\(∀u∈cs,u.oneCell'=true)/\as.length=Ty.size ty
 | .bool,t,fuel,cs,x,HW,h=>by
  unfold M8 at HW;split at HW;.rename_i ht;obtain⟨b,rfl,_⟩:=DataW.trod_bool ht h;exact⟨[.bool b],⟨b,rfl⟩,⟨_,[],rfl,rfl,rfl⟩,by simp[Value.oneCell'],rfl⟩
  .cases HW
 | .int k,t,fuel,cs,x,HW,h=>by
  unfold M8 at HW;split at HW
  .rename_i k' ht;have hk:k'=k:=by simpa using HW
   subst hk;obtain⟨n,rfl,_,hw⟩:=DataW.trod_int ht h;exact⟨[.int k' n],⟨n,rfl,hw⟩,⟨_,[],rfl,rfl,rfl⟩,by simp[Value.oneCell'],rfl⟩
  .cases HW
 | .str,t,fuel,cs,x,HW,h=>by
  unfold M8 at HW;split at HW
  .rename_i ht;obtain⟨s,rfl,_,hs⟩:=DataW.trod_string ht h;refine⟨[.str s.data.toList],⟨_,rfl,by
    have e:s.data.toList.length=s.size:=by rw[B8];rfl
    rw[e];exact hs⟩,⟨_,[],rfl,?_,rfl⟩,by simp[Value.oneCell'],rfl⟩
   show Value.string s= .string ⟨⟨s.data.toList⟩⟩;congr 1
  .cases HW
 | .sl e,t,fuel,cs,x,HW,h=>by
  unfold M8 at HW;split at HW
  .rename_i q ht;simp only[AN,w_,B0] at HW;obtain⟨⟨hce,hpos⟩,aJt⟩:=HW;rcases DataW.trod_slice ht h with⟨rfl,_⟩|⟨a,len,cap,elems,rest,n,_,rfl,_,_,hl,hm,hlen,c,hsp,_⟩
   .exact⟨[.slnil],.inl rfl,⟨_,[],rfl,rfl,rfl⟩,by simp[Value.oneCell'],rfl⟩
   .have spot:0<cap->a.spot=none:=λhc=>by
     have ha:a.add 0=a:=by simp[Addr.add]
     rcases Lf len with h0|h0
     .obtain⟨Jq,LP⟩:=hsp rfl;have:=LP 0 Ab;rw[As (Ab:0<rest.length)] at this;have Ě:(len+0)*P.cellsOf q=0:=by rw[h0];simp
      rw[Ě,ha] at this;obtain⟨vs,hv,_⟩:=S0.1 this;exact Qx hv Ab
     .have:=c 0 h0;rw[As (Ab:0<elems.length)] at this;rw[Ma,ha] at this;obtain⟨vs,hv,_⟩:=S0.1 this;exact Qx hv Ab
    obtain⟨Aw,mS,gD⟩:=Ul (p:=λi (r:List Aa)=>X6 e r/\r.length=Ty.size e/\CQ (FQ W) r a.block (a.off+i*Ty.size e)) len λi hi=>by
     have:=c i hi;rw[As (Ab:i<elems.length)] at this;obtain⟨vs,hv,hd⟩:=S0.1 this;obtain⟨r,p1,p2,d,g⟩:=aW e aJt hd;refine⟨r,p1,g,CQ.GF λj y hj=>?_⟩;obtain⟨u,hu,l⟩:=p2.get hj;obtain⟨_,hvl,m⟩:=World.cells?_some hv;have Y4:j<P.cellsOf q:=by have:=(Aj.1 hu).1;omega
     have hc:=m j Y4;rw[hu] at hc;have mJ:a=⟨a.block,a.off,none⟩:=by have:=spot Ab;cases a;simp_all
     have M4:(a.add (i*P.cellsOf q)).add j=⟨a.block,a.off+i*Ty.size e+j,none⟩:=by rw[hce];generalize a.block=b at*;generalize a.off=o at*;subst mJ;rw[Addr.add_lit,Addr.add_lit]
     rw[M4] at hc;exact⟨u,To hc (d u (Ct hu)),l⟩
    refine⟨[.sl (Ty.size e) Aw],.inr ⟨Aw,rfl,Ab,λr hr=>?_⟩,⟨_,[],rfl,⟨a,cap,by rw[mS],Ab,?_,EA.GF λi r hr=>?_⟩,rfl⟩,by simp[Value.oneCell'],rfl⟩;.obtain⟨i,hi⟩:=CD hr;exact(gD i r hi).1
    .rcases Lf cap with h0|h0
     .exact .inr h0
     .exact .inl (spot h0)
    .exact⟨(gD i r hr).2.1,(gD i r hr).2.2⟩
  .cases HW
 | .st fs,t,fuel,cs,x,HW,h=>by
  unfold M8 at HW;split at HW
  .rename_i fields ht;simp only[AN,w_] at HW;obtain⟨hct,hf⟩:=HW;obtain⟨xs,n,_,_,hcl,v,aB⟩:=DataW.trod_struct ht h;obtain⟨as,p1,p2,d,g⟩:=Um fs (fields:=fields.toList) (off:=0) (cs:=cs) (n:=n) hf (λi f hi=>by
    have:=aB i f (by simpa using hi);have hlt:i<fields.size:=by have:=(Aj.1 hi).1;simpa using this
    rw[As (Ab:i<xs.length)] at this;exact⟨_,this⟩) (by rw[hcl,hct];omega)
   have z:(cs.drop 0).take (Ty.Mp fs)=cs:=by rw[L8];exact A8 (by rw[hcl,hct];exact Ae _)
   rw[z] at p2 d;exact⟨as,p1,p2,d,g⟩
  .cases HW
def Um:∀(tys:List Ty) {fields:List Field} {off:Nat} {cs:List Value} {n:Nat},O6 P tys fields off=true->
  (∀(i:Nat) (f:Field),fields[i]?=some f->∃y,DataW.trod enc P W 0 (λ_=>true) true n f.type ((cs.drop f.offset).take (P.cellsOf f.type))=some y)->off+Ty.Mp tys<=cs.length->
  ∃as,ak tys as/\AW (FQ W) as ((cs.drop off).take (Ty.Mp tys))/\(∀u∈(cs.drop off).take (Ty.Mp tys),u.oneCell'=true)/\as.length=Ty.Mp tys
 |[],fields,off,cs,n,HW,h,hl=>by refine⟨[],rfl,?_,?_,rfl⟩<;>simp[Ty.Mp,AW]
 |ty::tys,fields,off,cs,n,HW,h,hl=>by
  cases fields with
  |nil=>simp[O6] at HW
  |cons f fs=>
   simp only[O6,AN,w_] at HW;obtain⟨⟨⟨ho,hc⟩,YU⟩,ku⟩:=HW;obtain⟨y,hy⟩:=h 0 f rfl;rw[ho,hc] at hy;obtain⟨as,p1,p2,k,j⟩:=aW ty YU hy;simp only[Ty.Mp] at hl;obtain⟨bs,e,d,c,b⟩:=Um tys ku (λi g hi=>h (i+1) g (by simpa using hi)) Ab;have l:(cs.drop off).take (Ty.Mp (ty::tys))=(cs.drop off).take (Ty.size ty)++(cs.drop (off+Ty.size ty)).take (Ty.Mp tys):=by simp only[Ty.Mp];rw[Ā,Es]
   rw[l];refine⟨as++bs,⟨as,bs,rfl,p1,e⟩,p2.append d,λu hu=>?_,by simp[j,b,Ty.Mp]⟩;rcases Ap.1 hu with hu|hu
   .exact k u hu
   .exact c u hu
end
def aX{ty:Ty}{t:TypeId}{v:Value}{base:Nat}(HW:M8 P ty t=true)(hv:Value.okWide P W .any base t v):if ty.Ů then∃cs,v= .agg cs else v.cells=#[v]:=by
 cases ty with
 |st fs=>
  unfold M8 at HW;split at HW;.rename_i fields ht;unfold Value.okWide at hv;rw[ht] at hv;obtain⟨cs,e,_⟩:=hv;exact⟨cs,e⟩
  .cases HW
 |_=>
  unfold M8 at HW;split at HW;.rename_i ht;unfold Value.okWide at hv;rw[ht] at hv;simp only[Cell.okWide,ht,Cell.ok] at hv;cases v<;>first|rfl|exact hv.elim
  .cases HW
def Zc:∀{tys:List Ty} {ts:List TypeId} {vs:List Value} {ds:List (DataW H)} {ps:List MemPlace} {base:Nat},DataW.TrodAll enc P W 0 (λ_=>true) true ts vs ds ps->tys.length=ts.length->(∀(i:Nat) (ty:Ty) (t:TypeId),tys[i]?=some ty->ts[i]?=some t->M8 P ty t=true)->
  (∀(i:Nat) (t:TypeId) (v:Value),ts[i]?=some t->vs[i]?=some v->Value.okWide P W .any base t v)->∃as,R4 tys as/\AW (FQ W) as vs
 |[],[],[],[],_,_,_,_,_,_=>⟨[],rfl,rfl⟩
 |ty::tys,t::ts,v::vs,d::ds,ps,base,⟨p,q,⟨fuel,h1⟩,h2,_⟩,hl,HW,MP=>by
  have YU:=HW 0 ty t rfl rfl;obtain⟨cells,p1,p2,g,j⟩:=aW ty YU h1;obtain⟨bs,f,b⟩:=Zc h2 (by simpa using hl) (λi ty t h h'=>HW (i+1) ty t (by simpa using h) (by simpa using h')) (λi t v h h'=>MP (i+1) t v (by simpa using h) (by simpa using h'));have hc:=aX YU (MP 0 t v rfl rfl);have:∃a,nB ty a/\BF (FQ W) a v:=by
   by_cases IK:ty.Ů=true;.rw[Af IK] at hc;obtain⟨us,rfl⟩:=hc;exact⟨.agg cells,(by unfold nB;rw[Af IK];exact⟨cells,rfl,p1⟩),us,rfl,by simpa[Value.cells] using p2,by simpa[Value.cells] using g⟩
   .rw[Ad IK] at hc;rw[hc] at p2;obtain⟨u,us,e,hu,hnil⟩:∃c GB,cells=c::GB/\BF (FQ W) c v/\GB=[]:=by
     cases cells with
     |nil=>cases p2
     |cons c GB=>obtain⟨u,Dk,e,h1,h2⟩:=p2;simp at e;obtain⟨rfl,rfl⟩:=e;exact⟨c,GB,rfl,h1,by cases GB with|nil=>rfl|cons _ _=>obtain⟨_,_,e,_⟩:=h2;cases e⟩
    subst hnil;subst e;exact⟨u,(by unfold nB;rw[Ad IK];exact p1),hu⟩
  obtain⟨a,ha,hr⟩:=this;exact⟨a::bs,⟨a,bs,rfl,ha,f⟩,⟨v,vs,rfl,hr,b⟩⟩
 |[],_::_,_,_,_,_,_,hl,_,_=>by simp at hl
 |_::_,[],_,_,_,_,_,hl,_,_=>by simp at hl
 |[],[],_::_,_,_,_,h,_,_,_=>by cases h
 |[],[],[],_::_,_,_,h,_,_,_=>by cases h
 |_::_,_::_,[],_,_,_,h,_,_,_=>by cases h
 |_::_,_::_,_::_,[],_,_,h,_,_,_=>by cases h
def Wo{W':World}{may:MemPlace->Prop}(h1:W'.os=W.os)(h2:W'.output=W.output)(hb:∀i,i<W.heap.size->W'.heap[i]?=W.heap[i]?):W.keptBut W' may:=by
 refine⟨h1,h2,λi hi=>?_⟩;rw[hb i hi];split;.rename_i c t fr c' t' zE d b;rw[d] at b;cases b;exact⟨rfl,rfl,rfl,λ_ _=>rfl⟩
 .rename_i d b;rw[d] at b;cases b;exact .inr ⟨rfl,rfl⟩
 .rfl
def Qy(hl:laidOutB P=true){W':World}(hb:RowKit.Below W.heap.size W W'):∀{ts:List TypeId} {vs:List Value} {ds:List (DataW H)} {ps:List MemPlace},(∀t∈ts,P.readableRec t=true/\t<P.types.size)->
  DataW.TrodAll enc P W 0 (λ_=>true) true ts vs ds ps->(∀x∈ps,x.block<W.heap.size)->DataW.TrodAll enc P W' 0 (λb=>decide (b<W.heap.size)) true ts vs ds ps
 |[],[],[],ps,_,h,_=>h
 |t::ts,v::vs,d::ds,ps,aG,⟨p,q,h1,h2,e⟩,hlt=>by subst e;have ht:=aG t Ax;exact⟨p,q,RowKit.Below.trod hl ht.1 ht.2 h1 hb λx hx=>hlt x (Cu _ hx),Qy hl hb (λt' h'=>aG t' (by simp[h'])) h2 λx hx=>hlt x (BH _ hx),rfl⟩
 |[],[],_::_,_,_,h,_=>by cases h
 |[],_::_,_,_,_,h,_=>by cases h
 |_::_,[],_,_,_,h,_=>by cases h
 |_::_,_::_,[],_,_,h,_=>by cases h
end
def R5{C:Fv}(hm:C.P.follows .mixedOrders=true)(yx:∀g cs,C.GC g=some cs->cs.all Aa.Me=true)(ę:aV C)(hl:laidOutB C.P=true){f:FuncId}{fn:Func}{rt:TypeId}(k:f<=99999)(c:fn.resultTypes=#[rt])(l:C.P.underlying rt=some .bool){tys:List Ty}(hlen:tys.length=fn.params.size)
  (aJu:∀(i:Nat) (ty:Ty) (t:TypeId),tys[i]?=some ty->fn.params[i]?=some t->M8 C.P ty t=true) (aEO:∀t∈fn.params.toList,C.P.readableRec t=true/\t<C.P.types.size)
  (O5:∀as,R4 tys as->Ev C f as [] λr _=>r= .bool true) {s:ChangeSpec} (č:s.vars=[])
  {H:Type} (j_:∀ds:List (DataW H),ds.length=fn.params.size->s.fn H ds={results:=[.lit (.bool true)],args:=ds})
  {enc:TypeId×Value->H} {W:World} {base:Nat} {args:Array Value} {ds gs:List (DataW H)} {before:List MemPlace} (hg:∀g cs,C.GC g=some cs->CQ (FQ W) cs g 0)
  (MP:∀(j:Nat) (t:TypeId) (v:Value),fn.params[j]?=some t->args[j]?=some v->Value.okWide C.P W .any base t v) (hW:DataW.Whole enc C.P fn.params.toList s.vars false W args.toList ds gs before):
  Calls C.P f args W λe W'=>∃v,e= .returned v/\s.post enc C.P fn false true false false W args v W':=by
 have m:=hW;have hlt:=hW.lt;obtain⟨p,q,o,n,rfl,hfz,u⟩:=hW;rw[č] at n;have Ū:gs=[]/\q=[]:=by
  cases gs with
  |nil=>exact⟨rfl,n⟩
  |cons _ _=>cases n
 obtain⟨rfl,rfl⟩:=Ū;obtain⟨as,mc,RV⟩:=Zc o (by simpa using hlen) (λi ty t h h'=>aJu i ty t h (by simpa using h')) (λi t v h h'=>MP i t v (by simpa using h) (by simpa using h'));have m7:ds.length=fn.params.size:=by
  have key:∀{ts:List TypeId} {vs:List Value} {ds:List (DataW H)} {ps:List MemPlace},DataW.TrodAll enc C.P W 0 (λ_=>true) true ts vs ds ps->ds.length=ts.length:=by
   intro ts;induction ts with
   |nil=>intro vs ds ps h;cases vs<;>cases ds<;>first|rfl|cases h
   |cons t ts ih=>
    intro vs ds ps h;cases vs with
    |nil=>cases h
    |cons v vs=>
     cases ds with
     |nil=>cases h
     |cons d ds=>obtain⟨_,_,_,h2,_⟩:=h;simp[ih h2]
  simpa using key o
 have Vj:=(O5 as mc).calls hm yx ę (mb W) hg RV;rw[show Ea f=f from Af k] at Vj;refine Vj.mono λe W' he=>?_;cases e with
 |returned v=>
  obtain⟨r,h',y,rfl,hi,JB,hv⟩:=he;have hvb:v= .bool true:=hv;subst hvb;have hold:∀i,i<W.heap.size->W'.heap[i]?=W.heap[i]?:=λi ki=>(JB.Nw i ki λid h0=>by cases h0).1;have b:RowKit.Below W.heap.size W W':=⟨JB.os,JB.tape,JB.output,JB.size,hold⟩;refine⟨_,rfl,ds,[],p++[],[],p,[],m,?_,?_,?_,Wo JB.os JB.output hold,λh0=>by cases h0⟩;.rw[BB,j_ ds m7,c];exact⟨[],[],RowKit.shut_bool l true,rfl,rfl⟩
  .rw[BB,j_ ds m7];exact Qy hl b aEO o λx hx=>hlt x (by simpa using hx)
  .rw[BB,j_ ds m7,č];rfl
 |_=>exact he.elim
end Go.Am
end
