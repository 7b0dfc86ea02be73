/- Lemmas -/
import Derived.Scope
import Derived.Test.YtkaolmlpcamojaaGreatDoorH6
import Derived.Carry
import Derived.ReadAgain
set_option linter.all false
section
namespace Go.Am
open Go
def Kpt(x y:Ew):Prop:=
 match x with
 | .box ver cs ow=>∃Gy Hi OA,y= .box Gy Hi OA/\ver<=Gy/\(Gy=ver->Hi=cs/\OA=ow)
 | .Fo t o=>y= .Fo t o\/y= .undef
 |x=>y=x
def Kpt.refl(x:Ew):Kpt x x:=by
 cases x with
 |box ver cs ow=>exact⟨ver,cs,ow,rfl,Ag _,λ_=>⟨rfl,rfl⟩⟩
 |Fo t o=>exact .inl rfl
 |_=>rfl
def Kpt.trans{x y z:Ew}(h:Kpt x y)(k:Kpt y z):Kpt x z:=by
 cases x with
 |box ver cs ow=>obtain⟨b,m,l,rfl,h1,h2⟩:=h;obtain⟨v2,j,c,rfl,f,d⟩:=k;refine⟨v2,j,c,rfl,Br h1 f,λe=>?_⟩;have i:b=ver:=Ac;have g:v2=b:=Ac;obtain⟨rfl,rfl⟩:=d g;exact h2 i
 |Fo t o=>
  rcases h with rfl|rfl
  .exact k
  .exact .inr k
 |_=>rw[show y=_ from h] at k;exact k
def Gp(W:List Nat)(σ O:BU):Prop:=O.length=σ.length/\∀s,s∉W->Kpt (σ.at s) (O.at s)
def Gp.refl(W:List Nat)(σ:BU):Gp W σ σ:=⟨rfl,λ_ _=> .refl _⟩
def Gp.trans{W:List Nat}{σ O J:BU}(h:Gp W σ O)(k:Gp W O J):Gp W σ J:=⟨k.1.trans h.1,λs hs=>(h.2 s hs).trans (k.2 s hs)⟩
def Gp.mono{W W':List Nat}{σ O:BU}(h:Gp W σ O)(hw:∀s∈W,s∈W'):Gp W' σ O:=⟨h.1,λs hs=>h.2 s λhm=>hs (hw s hm)⟩
def Gp.set{W:List Nat}{σ:BU}{s:Nat}{x:Ew}(hs:s∈W):Gp W σ (σ.set s x):=
 ⟨AH,λt ht=>by rw[BU.Gn λe=>ht (by rw[<-e];exact hs)];exact .refl _⟩
def Gp.put{W:List Nat}{σ:BU}{d:Option Nat}{x:Ew}(hs:∀s∈d.toList,s∈W):Gp W σ (σ.put d x):=by
 cases d with
 |none=>exact .refl _ _
 |some d=>exact .set (hs d AH)
section
variable{C:Gb}{fid:FuncId}{ops:List Oper}{run:IT->Ai->Option Km}{σ σ':BU}{h h':Ai}{W:List Nat}
def Gp.drop(σ:BU)(ds:List Nat):Gp W σ (σ.drop ds):=by
 refine⟨BU.length_drop σ ds,λs _=>?_⟩;rw[BU.SY];cases hx:σ.at s with
 |Fo t o=>
  simp only
  split;.exact .inr rfl
  .exact .inl rfl
 |_=>exact .refl _
def uD{r:EP}{ds:List Nat}(hd:r.N0 C run (σ.drop ds) h σ' h')(hw:∀s∈r.wf,s∈W):Gp W σ σ':=by obtain⟨ws,rfl,h1,_⟩:=bO hd;refine(Gp.drop σ ds).trans ⟨BU.Kd ws _,λs hs=>?_⟩;rw[BU.GZ ws _ s λp hp e=>hs (hw s (by rw[<-e];exact h1 p hp))];exact .refl _
def QK{x:Operand}{d:Nat}{take:Bool}{r:EP}(h:K9 C σ x d take=some r):∀s∈r.wf,s=d\/(take=true/\x= .tmp s):=by
 unfold K9 at h;split at h;.cases h;simp[EP.wf]
 .cases h;simp[EP.wf]
 .split at h
  .rename_i ht;cases h;intro s hs;simp only[EP.wf,Bu,Ay] at hs;rcases hs with hs|hs
   .revert hs;generalize b:SJ _ _=c;intro hs;unfold SJ at b;split at b;.subst b;simp at hs;exact .inr ⟨ht,by rw[hs]⟩
    .subst b;simp at hs
   .exact .inl (by simpa using hs)
  .cases hc:IL _ with
   |none=>rw[hc] at h;cases h
   |some sl=>rw[hc] at h;cases h;simp[EP.wf]
 .cases hc:IL _ with
  |none=>rw[hc] at h;cases h
  |some sl=>rw[hc] at h;cases h;simp[EP.wf]
 .cases h
def S6{x:Operand}{p:Nat×Aa}(h:Ds σ x=some p):x= .tmp p.1:=by
 cases x with
 |tmp t=>
  simp only[Ds] at h;cases hx:σ.at t with
  |Bs v=>rw[hx] at h;cases h;rfl
  |_=>rw[hx] at h;cases h
 |_=>cases h
def oP{t:TypeId}{v:Aa}{d:Nat}{r:EP}(h:UZ C fid t v d=some r):r.wf=[d]:=by
 unfold UZ at h;split at h;.cases h
 .split at h;.cases h
  .split at h<;>(cases h;rfl)
def NG:∀{xs:List Operand} {vs:List Aa} {fz:List (Nat×List Aa)},Gw C σ xs=some (vs,fz)->∀p∈fz,p.1∈Ks xs
 |[],vs,fz,hc=>by cases hc;simp
 |x::xs,vs,fz,hc=>by
  unfold Gw at hc;split at hc;.cases hc
  .rename_i Ia c b;have ih:=NG b;have up:∀p∈c,p.1∈Ks (x::xs):=λp hp=>by obtain⟨y,hy,he⟩:=Cj.1 (ih p hp);exact Cj.2 ⟨y,ZI _ hy,he⟩
   split at hc
   .rename_i s ver cs ow hs;split at hc;.cases hc
    .cases hc;intro p hp;rcases AS.1 hp with rfl|hp
     .simp[Ks]
     .exact up p hp
   .rename_i sl _ hs;cases hv:sl.Hz with
    |none=>rw[hv] at hc;cases hc
    |some u=>rw[hv] at hc;cases hc;exact up
   .cases hc
def zL{o:Oper}{r:EP}(hc:Gx C fid ops σ o=some r)(hd:r.N0 C run (σ.drop r.news) h σ' h'):Gp (Ey ops o) σ σ':=by
 have S5:∀s∈o.dst.toList,s∈Ey ops o:=λs hs=>CD _ hs
 have hwf:(∀s∈r.wf,s∈Ey ops o)->Gp (Ey ops o) σ σ':=uD hd
 have ZM:r.wf=o.dst.toList->Gp (Ey ops o) σ σ':=λe=>hwf (by rw[e];exact S5)
 have Vi:∀{m x},T4 m o.dst x=some r->Gp (Ey ops o) σ σ':=λ{m x} he=>by
  obtain⟨_,_,rfl⟩:=HC he
  exact ZM rfl
 have HP:∀{p x},T3 p o.dst x=some r->Gp (Ey ops o) σ σ':=λ{p x} he=>by
  obtain⟨args,_,rfl⟩:=D1 he
  exact ZM (by simp[EP.wf])
 unfold Gx at hc
 split at hc
 .rename_i x ho
  split at hc
  .rename_i d Gk
   refine hwf λs hs=>?_
   rcases QK hc s hs with rfl|⟨ht,rfl⟩
   .exact S5 s (by rw[Gk];simp)
   .refine BV _ ?_
    simp[ho,Gk,ht]
  .cases hc
 .rename_i x ho
  split at hc
  .rename_i d Gk
   refine hwf λs hs=>?_
   rcases QK hc s hs with rfl|⟨ht,rfl⟩
   .exact S5 s (by rw[Gk];simp)
   .refine BV _ ?_
    simp[ho]
  .cases hc
 .rename_i c x y ho
  split at hc
  .rename_i d _ Gk
   refine hwf λs hs=>?_
   rcases QK hc s hs with rfl|⟨ht,rfl⟩
   .exact S5 s (by rw[Gk];simp)
   .cases ht
  .rename_i d _ Gk
   refine hwf λs hs=>?_
   rcases QK hc s hs with rfl|⟨ht,rfl⟩
   .exact S5 s (by rw[Gk];simp)
   .cases ht
  .exact HP hc
 .split at hc
  .rename_i d z Gk hz
   split at hc
   .split at hc
    .cases hc;exact ZM (by rw[Gk];rfl)
    .cases hc
   .exact ZM (by rw[oP hc,Gk];rfl)
  .cases hc
 .split at hc
  .rename_i d v Gk hz
   exact ZM (by rw[oP hc,Gk];rfl)
  .cases hc
 .split at hc
  .split at hc
   .exact HP hc
   .cases hc
  .cases hc
 .split at hc
  .split at hc
   .split at hc
    .split at hc
     .cases hc;exact ZM (by simp[EP.wf])
     .cases ha:BB C σ _ with
      |none=>rw[ha] at hc;cases hc
      |some args=>rw[ha] at hc;cases hc;exact ZM (by simp[EP.wf])
    .cases hc
   .cases hc
  .cases hc
 .split at hc
  .rename_i d Gk
   unfold L1 at hc
   split at hc
   .cases hc;exact ZM (by rw[Gk];rfl)
   .rename_i s off ver cs ow ht ha
    split at hc
    .simp only at hc
     split at hc
     .cases hc
      rw[OK AH] at hd
      obtain⟨rfl,rfl⟩:=hd
      have hs:σ.at s= .box ver cs ow:=by
       unfold Gv at ha
       split at ha
       .rename_i hs;cases ha;exact Hn hs
       .split at ha
        .rename_i hb;cases ha;exact hb
        .cases ha
       .exact absurd ha (by cases hv:Ew.Hz _<;>simp)
       .cases ha
      refine⟨by simp[BU.drop,BU.En],λt b=>?_⟩
      have f:t≠d:=λe=>b (S5 t (by rw[Gk,e];simp))
      have t_:s<σ.length:=BU.PU (by rw[hs];simp)
      show Kpt (σ.at t) (BU.at ((σ.set s _).set d _) t)
      rw[BU.Gn (λe=>f e.symm)]
      by_cases eK:s=t
      .subst eK
       rw[BU.Fw t_,hs]
       exact⟨_,_,_,rfl,Fl _,λe=>absurd e Ac⟩
      .rw[BU.Gn eK];exact .refl _
     .cases hc;exact ZM (by rw[Gk];rfl)
    .cases hc
   .split at hc
    .cases hc;exact ZM (by rw[Gk];rfl)
    .cases hc
   .cases hc
  .cases hc
 .rename_i t x y ho
  split at hc
  .rename_i Gk
   unfold JM at hc
   split at hc
   .cases hc;exact hwf (by simp[EP.wf])
   .rename_i m sh s off ver cs ow v Ls sH ha hv
    split at hc
    .cases hc
     obtain⟨_,rfl,rfl⟩:=hd
     have hs:σ.at s= .box ver cs ow:=by
      unfold Gv at ha
      split at ha
      .rename_i hs;cases ha;exact Hn hs
      .split at ha
       .rename_i hb;cases ha;exact hb
       .cases ha
      .exact absurd ha (by cases hv:Ew.Hz _<;>simp)
      .cases ha
     have Z3:∀(D:Option (Nat×Aa)),(∀p,D=some p->p.1∈Ey ops o/\p.1≠s)->∀X:List Aa×List Nat,Gp (Ey ops o) σ ((σ.DR D).set s (.box (ver+1) X.1 X.2)):=by
      intro D i X
      refine⟨by cases D<;>simp[BU.DR],λt b=>?_⟩
      have hlen:s<(σ.DR D).length:=by
       have:s<σ.length:=BU.PU (by rw[hs];simp)
       cases D<;>simpa[BU.DR] using this
      by_cases eK:s=t
      .subst eK
       rw[BU.Fw hlen,hs]
       exact⟨_,_,_,rfl,Fl _,λe=>absurd e Ac⟩
      .rw[BU.Gn eK]
       cases D with
       |none=>exact .refl _
       |some p=>
        obtain⟨g,j⟩:=i p rfl
        simp only[BU.DR]
        rw[BU.Gn (λe=>b (by rw[<-e];exact g))]
        exact .refl _
     refine Z3 _ (λp hp=>?_) (_,_)
     split at hp
     .have hy:=S6 hp
      subst hy
      refine⟨BV _ (by simp[ho]),λe=>?_⟩
      simp only[Ds] at hp
      rw[e,hs] at hp
      cases hp
     .cases hp
    .cases hc
   .cases hc
  .cases hc
 .split at hc
  .rename_i Gk _ _
   cases hc;exact ZM (by rw[Gk];rfl)
  .rename_i Gk _ _
   cases hc;exact ZM (by rw[Gk];rfl)
  .exact HP hc
 .split at hc
  .exact HP hc
  .cases hc
 .exact HP hc
 .split at hc
  .cases hv:E6 C σ _ with
   |none=>rw[hv] at hc;cases hc
   |some v=>rw[hv] at hc;cases hc;exact ZM rfl
  .split at hc
   .cases hv:E6 C σ _ with
    |none=>rw[hv] at hc;cases hc
    |some v=>rw[hv] at hc;cases hc;exact ZM rfl
   .exact HP hc
  .exact HP hc
  .cases hc
 .rename_i fn first captured ho
  split at hc
  .rename_i d as bs fz Gk ha hb
   cases hc
   refine hwf λs hs=>?_
   simp only[EP.wf,AS] at hs
   rcases hs with rfl|hs
   .exact S5 s (by rw[Gk];simp)
   .obtain⟨p,hp,rfl⟩:=Bn.1 hs
    refine BV _ ?_
    simp only[ho]
    exact NG hb p hp
  .cases hc
 .cases hc;exact ZM rfl
 .split at hc
  .split at hc
   .cases hc;exact ZM rfl
   .cases hc
  .cases hc
 .split at hc
  .split at hc
   .cases hc;exact hwf (by simp[EP.wf])
   .cases hc;exact hwf (by simp[EP.wf])
   .cases hc
  .cases hc
 .split at hc
  .split at hc
   .cases hc;exact hwf (by simp[EP.wf])
   .cases hc;exact hwf (by simp[EP.wf])
   .cases hc
  .cases hc
 .split at hc
  .split at hc
   .cases hc;exact ZM rfl
   .cases hc;exact ZM rfl
   .cases hc
  .cases hc
 .split at hc
  .split at hc
   .exact Vi hc
   .cases hc
  .cases hc
 .split at hc
  .cases hc
  .exact Vi hc
  .cases hc
 .split at hc
  .split at hc<;>first|exact Vi hc|cases hc
  .cases hc
 .split at hc
  .rename_i Gk
   exact Vi (by rw[Gk];exact hc)
  .cases hc
 .split at hc
  .exact HP hc
  .split at hc
   .split at hc
    .exact Vi hc
    .exact HP hc
   .cases hc
  .cases hc
 .split at hc
  .rename_i off sh d hf Gk
   split at hc
   .cases hc;exact ZM (by rw[Gk];rfl)
   .cases hc;exact ZM (by rw[Gk];rfl)
   .exact HP (by rw[Gk];exact hc)
  .cases hc
 .split at hc
  .exact HP hc
  .cases hc
 .split at hc
  .split at hc
   .exact HP hc
   .cases hc
  .split at hc
   .split at hc
    .cases hc
    .exact HP hc
   .cases hc
  .cases hc
 .split at hc
  .exact HP hc
  .split at hc
   .exact HP hc
   .cases hc
  .cases hc
 .exact HP hc
 .rename_i c ho
  unfold RL at hc
  split at hc
  .split at hc
   .split at hc
    .exact HP hc
    .exact HP hc
    .cases hc
   .cases hc
  .rename_i hcl
   split at hc
   .rename_i t t' s x h0 h1 ET
    have Z3:∀p,Ds σ s=some p->p.1∈Ey ops o:=λp hp=>by
     have:=S6 hp
     subst this
     refine BV _ ?_
     simp only[ho,hcl,ET]
     simp[Ks]
    split at hc
    all_goals first
     |(cases hc;done)
     | (split at hc
        . split at hc
          . split at hc
            . split at hc
              . split at hc
                . cases hc
                  refine hwf fun q hq => ?_
                  simp only [EP.wf, Ay] at hq
                  rcases hq with hq | hq
                  . exact S5 q hq
                  . cases uE : Ds σ s with
                    | none => rw [uE] at hq; simp at hq
                    | some p => rw [uE] at hq; simp at hq; rw [hq]; exact Z3 p uE
                . split at hc
                  . cases hc
                    refine hwf fun q hq => ?_
                    simp only [EP.wf, Ay] at hq
                    rcases hq with hq | hq
                    . exact S5 q hq
                    . cases uE : Ds σ s with
                      | none => rw [uE] at hq; simp at hq
                      | some p => rw [uE] at hq; simp at hq; rw [hq]; exact Z3 p uE
                  . cases hc
                    refine hwf fun q hq => ?_
                    simp only [EP.wf, Ay] at hq
                    rcases hq with hq | hq
                    . exact S5 q hq
                    . cases uE : Ds σ s with
                      | none => rw [uE] at hq; simp at hq
                      | some p => rw [uE] at hq; simp at hq; rw [hq]; exact Z3 p uE
              . split at hc
                . cases hc
                  refine hwf fun q hq => S5 q (by simpa [EP.wf] using hq)
                . cases hc
            . cases hc
          . cases hc
        . cases hc)
   .cases hc
  .split at hc
   .split at hc
    all_goals first
     |(cases hc;done)
     | (split at hc
        . exact Vi hc
        . cases hc)
   .cases hc
  .split at hc
   .split at hc
    .split at hc
     .exact Vi hc
     .cases hc
    .cases hc
   .cases hc
  .split at hc
   .exact HP hc
   .cases hc
  .split at hc
   .exact HP hc
   .cases hc
  .split at hc
   .split at hc
    .split at hc
     .exact Vi hc
     .cases hc
    .cases hc
   split at hc
   .cases ha:BB C σ c.args.toList with
    |none=>rw[ha] at hc;cases hc
    |some args=>
     rw[ha] at hc
     simp only[BY,BC] at hc
     split at hc<;>(cases hc;exact ZM rfl)
   .cases hc
  .split at hc
   .cases hc;exact ZM rfl
   .cases hc
  .cases hc
 .cases hc
end
end Go.Am
end
section
namespace Go.Am
open Go
def vj:DU->Exit
 | .normal=> .normal
 | .exit i=> .exit i
 | .ret=> .ret
def OV:∀{l m:List Nat},l.Nodup->(∀x∈l,x∈m)->l.length<=m.length
 |[],_,_,_=>AY _
 |x::l,m,hn,hs=>by have hx:=hs x AH;have h1:=OV (l:=l) (m:=m.erase x) (B5.1 hn).2 λy hy=>(List.mem_erase_of_ne λe=>(B5.1 hn).1 (by rw[<-e];exact hy)).2 (hs y (by simp[hy]));rw[List.length_erase_of_mem hx] at h1;have:0<m.length:=List.length_pos_of_mem hx;simp;omega
def eV{P:Program}{c:Code}{Q:Exit->Act->World->Prop}(T:Nat->Act->World->Prop)(round:∀n a w,T n a w->c.wp P (Exit.then (λa' w'=>∃m,m<n/\T m a' w') Q) a w)(n:Nat)(a:Act)(w:World)(h0:T n a w):(Code.loop c).wp P Q a w:=by
 intro b k cs;have key:∀n a w,T n a w->∃e a' w',Q e a' w'/\Arrives P (lone (b.at a (.code c:: .inLoop c::k)) cs w) b k cs e a' w':=by
  intro n;induction n using Nat.strongRecOn with
  |_ n ih=>
   intro a w i;obtain⟨e,a1,w1,hq,Ą⟩:=round n a w i b (.inLoop c::k) cs;by_cases he:e= .normal;.subst he;obtain⟨m,hm,d⟩:=hq;obtain⟨j,a2,f,g,r2⟩:=ih m hm a1 w1 d;exact⟨j,a2,f,g,.of_steps (Go.Steps.trans Ą (.one step_inLoop)) r2⟩
   .exact⟨e,a1,w1,by cases e<;>first|exact hq|exact absurd rfl he,.pass (x:= .inLoop c) rfl (λ_ _=> .inl he) Ą⟩
 obtain⟨e,a',w',hq,Ą⟩:=key n a w h0;exact⟨e,a',w',hq,.of_steps (.one step_loop) Ą⟩
section
variable{C:Gb}{U0 U:Gh}{w0 w:World}{Z:Nat->Nat}{σ:BU}{h:Ai}{a:Act}{fid:FuncId}{run:IT->Ai->Option Km}
def eW{ops:List Oper}{o:Oper}{K:BU->IT}{R:Km}(hr:IT.step (Ca C) run (T5 C fid ops σ o K) h=some R):
  ∃d,(d=σ\/∃s b,s∈FG ops o/\σ.at s= .val (.bool b)/\d=σ.set s (.Px b))/\
   ((I5 ops d o= .NX true/\IT.step (Ca C) run (sg C fid ops d o K) h=some R)\/(I5 ops d o= .NX false/\IT.step (Ca C) run (K (d.put o.dst .skip)) h=some R)):=by
 unfold T5 at hr;split at hr;.rename_i hg;exact⟨σ,.inl rfl,.inl ⟨hg,hr⟩⟩
 .rename_i hg;exact⟨σ,.inl rfl,.inr ⟨hg,hr⟩⟩
 .rename_i s v want hg;have e:s∈FG ops o/\σ.at s= .val v/\∀b,I5 ops (σ.set s (.Px b)) o= .NX (b==want):=by
   unfold I5 at hg⊢;unfold FG;cases ho:o.guard with
   |none=>rw[ho] at hg;cases hg
   |some g=>
    obtain⟨j,want'⟩:=g;rw[ho] at hg;simp only at hg⊢;cases hd:(ops[j]?).bind (·.dst) with
    |none=>rw[hd] at hg;cases hg
    |some s'=>
     rw[hd] at hg;simp only at hg⊢;cases hx:σ.at s' with
     |val v'=>rw[hx] at hg;cases hg;refine⟨AH,hx,λb=>?_⟩;rw[BU.Fw (BU.PU (by rw[hx];simp))]
     |Px c=>rw[hx] at hg;cases hg
     |skip=>rw[hx] at hg;cases hg
     |_=>rw[hx] at hg;cases hg
  obtain⟨g1,g2,g3⟩:=e;simp only[IT.step] at hr;split at hr
  .refine⟨σ.set s (.Px true),.inr ⟨s,true,g1,g2,rfl⟩,?_⟩;rw[g3];cases want with
   |true=>exact .inl ⟨rfl,hr⟩
   |false=>exact .inr ⟨rfl,hr⟩
  .refine⟨σ.set s (.Px false),.inr ⟨s,false,g1,g2,rfl⟩,?_⟩;rw[g3];cases want with
   |true=>exact .inr ⟨rfl,hr⟩
   |false=>exact .inl ⟨rfl,hr⟩
  .cases hr
 .cases hr
def kx(a:Act){ops:List Oper}{o:Oper}:(∀p∈SL C σ o,∃ver ow,σ.at p.1= .box ver p.2 ow)/\((SL C σ o).map (·.1)).Nodup/\∀p∈SL C σ o,p.1∈Ey ops o:=by
 have no:∀l:List (Nat×List Aa),l=[]->(∀p∈l,∃ver ow,σ.at p.1= .box ver p.2 ow)/\(l.map (·.1)).Nodup/\∀p∈l,p.1∈Ey ops o:=by rintro l rfl;exact⟨(λp hp=>nomatch hp),M4,λp hp=>nomatch hp⟩
 cases ho:o.op with
 |call c=>
  cases hc:c.callee with
  |value g=>
   cases g with
   |func f=>
    cases hf:T6 f with
    |true=>
     cases hx:Gw C σ c.args.toList with
     |some q=>
      obtain⟨vs,fz⟩:=q;have e:SL C σ o=fz:=by unfold SL;simp only[ho,hc,hf,hx,BJ]
      rw[e];obtain⟨h1,h2,_⟩:=NF (a:=a) hx;refine⟨h1,h2,λp hp=>BV _ ?_⟩;simp only[ho,hc,hf,BJ];exact NG hx p hp
     |none=>exact no _ (by unfold SL;simp only[ho,hc,hf,hx,BJ])
    |false=>exact no _ (by unfold SL;simp[ho,hc,hf])
   |_=>exact no _ (by unfold SL;simp only[ho,hc])
  |_=>exact no _ (by unfold SL;simp only[ho,hc])
 |_=>exact no _ (by unfold SL;simp only[ho])
def Gp.En{W:List Nat}:∀{l:List (Nat×Ew)} {σ:BU},(∀p∈l,p.1∈W)->Gp W σ (σ.En l)
 |[],σ,_=> .refl _ _
 |(s,x)::l,σ,h=>(Gp.set (h (s,x) AH)).trans (Gp.En λp hp=>h p (by simp[hp]))
def vn{ops:List Oper}{o:Oper}{W:List Nat}(hr:Df C U0 w0 U Z σ h a w)(hw:∀s∈Ey ops o,s∈W):∃b,Df C U0 w0 b Z (aCG C σ o) h a w/\Gp W σ (aCG C σ o):=by
 obtain⟨h1,h2,c⟩:=kx (C:=C) (σ:=σ) a (ops:=ops) (o:=o);obtain⟨b,_,Gc,_⟩:=(hr.drop ((SL C σ o).map (·.1))).Uc (fz:=SL C σ o) (λp hp=>by obtain⟨ver,ow,hs⟩:=h1 p hp;exact⟨ver,ow,by rw[BU.SY,hs]⟩) h2
 refine⟨b,Gc,(Gp.drop σ _).trans (Gp.En λp hp=>?_)⟩;obtain⟨q,hq,rfl⟩:=Bn.1 hp;exact hw _ (c q hq)
def zM(m:Fj C run){ops:Array Oper}{Q:Exit->Act->World->Prop}{W:List Nat}{K:BU->IT}{R:Km}:∀(rest:List Oper) (k:Nat) (U:Gh) (Z:Nat->Nat) (σ:BU) (h:Ai) (a:Act) (w:World),
  ops.toList.drop k=rest->(∀o∈rest,(∀s∈Ey ops.toList o,s∈W)/\∀s∈FG ops.toList o,s∈W)->IT.step (Ca C) run (yQ C fid ops.toList rest σ K) h=some R->Df C U0 w0 U Z σ h a w->
  (∀g f σ' h' a' w',IT.step (Ca C) run (K σ') h'=some R->Gp W σ σ'->Df C U0 w0 g f σ' h' a' w'->Q .normal a' w')->wpOps C.P ops Q (List.range' k rest.length) a w
 |[],k,U,Z,σ,h,a,w,_,_,A3,hr,hQ=>by simp only[BR,List.range'_zero,wpOps];exact hQ U Z σ h a w A3 (.refl _ _) hr
 |o::rest,k,U,Z,σ,h,a,w,hk,hW,A3,hr,hQ=>by
  have ho:ops[k]?=some o:=by
   have:ops.toList[k]?=some o:=by have h0:=Cc (·[0]?) hk;simpa[Cr] using h0
   simpa using this
  have l:ops.toList.drop (k+1)=rest:=by have h0:=Cc (List.drop 1) hk;simpa[Em] using h0
  obtain⟨uF,vd⟩:=hW o AH;simp only[Bd,List.range'_succ,wpOps,ho];obtain⟨U1,e,c⟩:=vn hr uF;obtain⟨i,j,Jk⟩:=eW A3;have KQ:Df C U0 w0 U1 Z i h a w/\Gp W σ i:=by
   rcases j with rfl|⟨s,b,g1,g2,rfl⟩
   .exact⟨e,c⟩
   .have h0:=e.fr.IB s;rw[g2] at h0;exact⟨e.nM h0,c.trans (.set (vd s g1))⟩
  obtain⟨KQ,aGx⟩:=KQ;have next:∀g f σ' h' a' w',IT.step (Ca C) run (yQ C fid ops.toList rest σ' K) h'=some R->Gp W σ σ'->Df C U0 w0 g f σ' h' a' w'->wpOps C.P ops Q (List.range' (k+1) rest.length) a' w':=λg f σ' h' a' w' Rn jv Gc=>zM m rest (k+1) g f σ' h' a' w' l (λo ho=>hW o (by simp[ho])) Rn Gc λq p d h2 a2 n Mh aLV aGy=>hQ q p d h2 a2 n Mh (jv.trans aLV) aGy
  rcases Jk with⟨hg,Jl⟩|⟨hg,Jl⟩
  .rw[Af (Mk KQ hg)];unfold sg at Jl;split at Jl;.rename_i r hc;obtain⟨d,h2,hd,Vj⟩:=bA Jl;exact .inl (u_ m hc hd KQ λg f a' w' Gc=>next g f d h2 a' w' Vj (aGx.trans ((zL hc hd).mono uF)) Gc)
   .cases Jl
  .rw[Ad (by rw[Mk KQ hg];simp)];exact next U1 Z _ h _ w Jl (aGx.trans (.put λs hs=>uF s (CD _ hs))) (KQ.put λ_ _=>rfl)
def uG{W:List Nat}{d:Option Nat}{σ σ':BU}(h:Ni d σ σ')(hd:∀s∈d.toList,s∈W):Gp W σ σ':=by
 unfold Ni at h;cases d with
 |none=>simp only at h;rw[h];exact .refl _ _
 |some d=>
  simp only at h;split at h;.obtain⟨b,_,rfl⟩:=h;exact .set (hd d AH)
  .rw[h];exact .refl _ _
def uH{ops:List Oper}{an:List Nat}{W:List Nat}(hW:∀o∈ops,∀s∈Ey ops o,s∈W){fl:List KZ}{L:List St}{σ σf:BU}{h hf:Ai}(hs:Steps C fid ops run an fl L σ h σf hf):Gp W σ σf:=by
 induction hs with
 |nil=>exact .refl _ _
 |cons h1 _ _ ih=>
  refine Gp.trans ?_ ih;obtain⟨o,ho,⟨_,_,_,rfl,rfl⟩|⟨r,b,hg,hc,_,hd,_,ha⟩⟩:=h1;.exact .put λs hs=>hW o (CC ho) s (CD _ hs)
  .refine((zL hc hd).mono λs hs=>hW o (CC ho) s hs).trans (uG ha λs hs=>?_);split at hs;.exact hW o (CC ho) s (CD _ hs)
   .simp at hs
def X8(hm:C.P.follows .mixedOrders=true)(f:Fj C run){id:Nat}{ops:Array Oper}{draw:Bool}{Q:Exit->Act->World->Prop}{K:BU->IT}{R:Km}(A3:IT.step (Ca C) run (SO C fid ops.toList draw σ K) h=some R)(hr:Df C U0 w0 U Z σ h a w)
  (hQ:∀d c σ' h' a' w',IT.step (Ca C) run (K σ') h'=some R->Gp (ops.toList.flatMap (Ey ops.toList)++ops.toList.flatMap (FG ops.toList)) σ σ'->Df C U0 w0 d c σ' h' a' w'->Q .normal a' w'):(Code.region id ops draw).wp C.P Q a w:=by
 unfold SO at A3;cases draw with
 |false=>refine wp_region ?_;have:=zM (W:=ops.toList.flatMap (Ey ops.toList)++ops.toList.flatMap (FG ops.toList)) f ops.toList 0 U Z σ h a w rfl (λo ho=>⟨λs hs=>CD _ (yH.2 ⟨o,ho,hs⟩),λs hs=>BV _ (yH.2 ⟨o,ho,hs⟩)⟩) A3 hr hQ;simpa[aKt] using this
 |true=>
  simp only[BJ] at A3;split at A3
  .rename_i Gk;obtain⟨L,σf,hf,h1,h2,l⟩:=RZ A3;refine wp_region_any hm ?_;have b:=h2;unfold XF at b;simp only[TS,BT,Bv] at b;have aGz:zK (XD ops.toList) L:=by have:=bR b.1;rw[aQU] at this;exact this
   have hlt:=h1.lt;have eE:∀i,i<ops.size->i∈L.map (·.idx):=λi hi=>by have:=Db.1 b.2 i (by simpa using hi);simpa using this
   have â:(L.map (·.idx)).Nodup:=by rw[List.Nodup,aQU];exact aGz.imp λh=>h.1
   have hlen:L.length=ops.size:=by
    have k:(L.map (·.idx)).length<=(List.range ops.size).length:=OV â (λi hi=>by obtain⟨s,hs,rfl⟩:=Bn.1 hi;simpa using hlt s hs)
    have g:(List.range ops.size).length<=(L.map (·.idx)).length:=OV List.nodup_range λi hi=>eE i (by simpa using hi);simp at k g;omega
   have jv:=uH (W:=ops.toList.flatMap (Ey ops.toList)++ops.toList.flatMap (FG ops.toList)) (λo ho s hs=>CD _ (yH.2 ⟨o,ho,hs⟩)) h1;refine ku f Gk (λd c a' w' Gc=>hQ d c σf hf a' w' l jv Gc) ops.size L _ U Z σ h a w.drew hlen h1 aGz ⟨AH,λi hi=>⟨λ_=>eE i hi,λ_=>by simp[Array.getD,hi]⟩,λj hj e _=>?_⟩ hr.drew;exfalso;rcases AR j ops.size with hlt|Eh
   .simp[Array.getD,hlt] at hj
   .simp[Array.getD,Nat.not_lt.2 Eh] at hj
  .cases A3
end
end Go.Am
end
section
namespace Go.Am
open Go
def QL(x y:Ew):Prop:=
 (∃u,x.Hz=some u/\y= .val u)\/(∃v,x= .Bs v/\y= .Bs v)\/∃ver cs ow Gy OA,x= .box ver cs ow/\y= .box Gy cs OA/\∀o∈OA,o∈ow
def BU.IN:∀(ws:List Nat) (σ:BU) (s:Nat),(σ.clear ws).at s=if s∈ws then .undef else σ.at s
 |[],σ,s=>by simp[BU.clear]
 |t::ws,σ,s=>by
  rw[BU.clear,BU.IN ws];by_cases h:s∈ws;.simp[h]
  .by_cases h2:s=t
   .subst h2;rw[BU.X4];by_cases hl:s<σ.length;.simp[hl]
    .have:σ.at s= .undef:=by simp[BU.at,List.getD,hl]
     simp[h,hl,this]
   .rw[BU.Gn λe=>h2 e.symm];simp[h,h2]
def BU.Kx:∀(ws:List Nat) (σ:BU),(σ.clear ws).length=σ.length
 |[],σ=>rfl
 |t::ws,σ=>by rw[BU.clear,BU.Kx ws];simp
section
variable{C:Gb}{U0 U:Gh}{w0 w:World}{Z:Nat->Nat}{σ:BU}{h:Ai}{a:Act}{fid:FuncId}{run:IT->Ai->Option Km}
def QL.rel{B s:Nat}{x y:Ew}{v:Value}(hx:L2 U Z B w s x v)(hf:QL x y):L2 U Z B w s y v:=by
 rcases hf with⟨u,hu,rfl⟩|⟨u,rfl,rfl⟩|⟨ver,cs,ow,Gy,OA,rfl,rfl,PC⟩
 .exact N1 hx hu
 .exact hx
 .obtain⟨j,i,g,us,e,f,d,c,b⟩:=hx;exact⟨j,i,g,us,e,f,d,c,λo ho=>b o (PC o ho)⟩
def Vk{σs:BU}{G:BU->IT}{R:Km}{vs:List Aa}:∀{l:List (Nat×Sh)} {i:Nat} {σa:BU},XG σs l=some (vs.drop i)->σa.length=σs.length->IT.step (Ca C) run (JU vs l i σa G) h=some R->
  ∃b,IT.step (Ca C) run (G b) h=some R/\b.length=σa.length/\(∀s,s∉l.map (·.1)->b.at s=σa.at s)/\(∀s,s∈l.map (·.1)->QL (σs.at s) (b.at s)/\
   ((∃Gy Hi OA,b.at s= .box Gy Hi OA/\aX (σa.at s)<Gy)\/∀ver cs ow,σs.at s≠ .box ver cs ow))
 |[],i,σa,_,_,hr=>⟨σa,hr,rfl,λ_ _=>rfl,AH⟩
 |(s,sh)::l,i,σa,hv,hl,hr=>by
  have hd:∃v Ia,vs.drop i=v::Ia/\vs.drop (i+1)=Ia/\vs.getD i .nilIface=v/\XG σs l=some Ia/\
    (match(generalizing:=false) sh,σs.at s with| .val,x=>x.Hz| .Bs,.Bs v=>some v| .box n ow,.box _ cs OA=>if cs.length=n/\ow.all (OA.contains ·) then some (.agg cs) else none|_,_=>none)=some v:=by
   unfold XG at hv;simp only at hv;split at hv
   .rename_i v Ia h1 h2;simp only[BC] at hv;refine⟨v,Ia,hv.symm,?_,?_,h2,h1⟩;.have:=Cc (List.drop 1) hv;simpa[Em] using this.symm
    .have:=Cc (·[0]?) hv;simp only[GM,Cr,Bt] at this;simp[List.getD,<-this]
   .cases hv
  obtain⟨v,Ia,r,aLW,eP,Ud,S7⟩:=hd;have hlt:s<σa.length:=by rw[hl];refine BU.PU λe=>?_;rw[e] at S7;cases sh<;>simp[Ew.Hz] at S7
  have go:∀(y:Ew),QL (σs.at s) y->((∃Gy Hi OA,y= .box Gy Hi OA/\aX (σa.at s)<Gy)\/∀ver cs ow,σs.at s≠ .box ver cs ow)->IT.step (Ca C) run (JU vs l (i+1) (σa.set s y) G) h=some R->
    ∃b,IT.step (Ca C) run (G b) h=some R/\b.length=σa.length/\(∀t,t∉((s,sh)::l).map (·.1)->b.at t=σa.at t)/\(∀t,t∈((s,sh)::l).map (·.1)->QL (σs.at t) (b.at t)/\
     ((∃Gy Hi OA,b.at t= .box Gy Hi OA/\aX (σa.at t)<Gy)\/∀ver cs ow,σs.at t≠ .box ver cs ow)):=by
   intro y hy c Gc;obtain⟨b,q,p,j,m⟩:=Vk (l:=l) (i:=i+1) (σa:=σa.set s y) (by rw[aLW];exact Ud) (by simpa using hl) Gc;refine⟨b,q,by simpa using p,λt ht=>?_,λt ht=>?_⟩;.simp only[Bj,AS,NP] at ht;rw[j t ht.2,BU.Gn λe=>ht.1 e.symm]
   .by_cases hm:t∈l.map (·.1)
    .obtain⟨g,k⟩:=m t hm;refine⟨g,k.imp (λ⟨Gy,Hi,OA,f,d⟩=>⟨Gy,Hi,OA,f,?_⟩) id⟩;by_cases eK:s=t
     .subst eK;rw[BU.Fw hlt] at d;rcases c with⟨z,B,A,rfl,h1⟩|hn
      .simp only[aX] at d;omega
      .rcases g with⟨u,_,e⟩|⟨u,_,e⟩|⟨ver,cs,ow,_,_,e,_⟩
       .rw[f] at e;cases e
       .rw[f] at e;cases e
       .exact absurd e (hn _ _ _)
     .rwa [BU.Gn eK] at d
    .have eK:t=s:=by simp only[Bj,AS] at ht;exact ht.resolve_right hm
     subst eK;rw[j t hm,BU.Fw hlt];exact⟨hy,c⟩
  cases sh with
  |val=>
   simp only[JU,eP] at hr;have vo:(σs.at s).Hz=some v:=by simpa using S7
   refine go (.val v) (.inl ⟨v,vo,rfl⟩) (.inr λver cs ow e=>?_) hr;rw[e] at vo;cases vo
  |Bs=>
   simp only[JU,eP] at hr;cases hx:σs.at s with
   |Bs u=>rw[hx] at S7;cases S7;exact go (.Bs v) (.inr (.inl ⟨v,hx,rfl⟩)) (.inr λver cs ow e=>by rw[hx] at e;cases e) hr
   |_=>rw[hx] at S7;cases S7
  |box n ow=>
   simp only[JU,eP,IT.step] at hr;cases hx:σs.at s with
   |box ver cs OA=>
    rw[hx] at S7;simp only at S7;split at S7
    .rename_i Ic;cases S7;split at hr;.rename_i hn;rw[Ua hn] at hr;refine go (.box (aX (σa.at s)+1) cs ow) (.inr (.inr ⟨ver,cs,OA,_,ow,hx,rfl,λo ho=>?_⟩)) (.inl ⟨_,_,_,rfl,NQ _⟩) hr;have:=Db.1 Ic.2 o ho;simpa using this
     .cases hr
    .cases S7
   |_=>rw[hx] at S7;cases S7
def Df.aC7(hr:Df C U0 w0 U Z σ h a w){O:BU}(hl:O.length=σ.length)(hs:∀s,O.at s= .undef\/O.at s=σ.at s\/QL (σ.at s) (O.at s)):Df C U0 w0 U Z O h a w:=by
 refine⟨hr.D5,⟨by rw[hl];exact hr.fr.size,λs=>?_⟩,hr.DZ,hr.defers,hr.Hk⟩;have h0:=hr.fr.IB s;rcases hs s with e|e|e
 .rw[e];trivial
 .rw[e];exact h0
 .exact e.rel h0
structure vp(σ0:BU)(ws:List Nat)(l:List (Nat×Sh))(σ':BU)(vs:List Aa):Prop where
 vec:XG σ' l=some vs
 len:σ'.length=σ0.length
 same:∀s,s∉l.map (·.1)->σ0.at s= .undef\/σ0.at s=σ'.at s
 box:∀s ver cs ow,σ0.at s= .box ver cs ow->∃Gy Hi OA,σ'.at s= .box Gy Hi OA
def oQ{σ0 σ':BU}{l:List (Nat×Sh)}(hk:sY σ0 σ' l=true){s:Nat}(hs:s∉l.map (·.1)):(∀ver cs ow,σ0.at s= .box ver cs ow->∃Hi OA,σ'.at s= .box ver Hi OA)/\(∀t o,σ0.at s= .Fo t o->∃t' o',σ'.at s= .Fo t' o'):=by
 have hc:(l.map (·.1)).contains s=false:=by
  cases hc:(l.map (·.1)).contains s with
  |false=>rfl
  |true=>exact absurd (by simpa using hc) hs
 have WI:s<σ0.length->(match σ0.at s with
   | .box ver _ _=>(l.map (·.1)).contains s||(match σ'.at s with| .box Gy _ _=>Gy==ver|_=>false)
   | .Fo _ _=>(l.map (·.1)).contains s||(match σ'.at s with| .Fo _ _=>true|_=>false)
   |_=>true)=true:=λhl=>by
  unfold sY at hk;exact Db.1 hk s (by simpa using hl)
 constructor
 .intro ver cs ow hx;have:=WI (BU.PU (by rw[hx];simp));rw[hx] at this;simp only[hc,Ht] at this;split at this
  .rename_i Gy Hi OA hy;have e:Gy=ver:=by simpa using this
   subst e;exact⟨Hi,OA,hy⟩
  .cases this
 .intro t o hx;have:=WI (BU.PU (by rw[hx];simp));rw[hx] at this;simp only[hc,Ht] at this;split at this;.rename_i t' o' hy;exact⟨t',o',hy⟩
  .cases this
def P5{σ0 b σ':BU}{ws:List Nat}{l:List (Nat×Sh)}{x:DU}{R:Km}(Wa:IT.step (Ca C) run (T8 σ0 l x σ') h=some R)(jv:Gp ws b σ')(hlen:b.length=σ0.length)
  (V8:∀s,s∈ws->σ0.at s= .undef) (NZ:∀s,s∉l.map (·.1)->σ0.at s= .undef\/σ0.at s=b.at s) (aLX:∀s ver cs ow,σ0.at s= .box ver cs ow->∃Gy Hi OA,b.at s= .box Gy Hi OA):
  ∃vs,R=(x,vs,h)/\vp σ0 ws l σ' vs:=by
 unfold T8 at Wa;split at Wa
 .rename_i hk;split at Wa
  .rename_i vs hv;cases Wa;refine⟨vs,rfl,hv,jv.1.trans hlen,λs hs=>?_,λs ver cs ow hb=>?_⟩
   .by_cases hw:s∈ws;.exact .inl (V8 s hw)
    .rcases NZ s hs with e|e
     .exact .inl e
     .right;have ZN:=jv.2 s hw;obtain⟨i,g⟩:=oQ hk hs;rw[e] at i g⊢;cases hx:b.at s with
      |box ver cs ow=>rw[hx] at ZN;obtain⟨m,p,n,c,_,d⟩:=ZN;obtain⟨k,f,j⟩:=i ver cs ow hx;rw[c] at j;cases j;obtain⟨rfl,rfl⟩:=d rfl;exact c.symm
      |Fo t o=>
       rw[hx] at ZN;rcases ZN with c|c
       .exact c.symm
       .obtain⟨t',o',d⟩:=g t o hx;rw[c] at d;cases d
      |_=>rw[hx] at ZN;exact(show σ'.at s=_ from ZN).symm
   .have hw:s∉ws:=λhw=>by rw[V8 s hw] at hb;cases hb
    obtain⟨m,p,n,c⟩:=aLX s ver cs ow hb;have ZN:=jv.2 s hw;rw[c] at ZN;obtain⟨v2,k,f,d,_⟩:=ZN;exact⟨v2,k,f,d⟩
  .cases Wa
 .cases Wa
def vp.next{σ0 σ':BU}{ws:List Nat}{l:List (Nat×Sh)}{vs:List Aa}(he:vp σ0 ws l σ' vs){G:BU->IT}{R:Km}(hr:Df C U0 w0 U Z σ' h a w)(A3:IT.step (Ca C) run (JU vs l 0 σ0 G) h=some R):
  ∃b,IT.step (Ca C) run (G b) h=some R/\Df C U0 w0 U Z b h a w/\b.length=σ0.length/\(∀s,s∉l.map (·.1)->b.at s=σ0.at s)/\(∀s ver cs ow,σ0.at s= .box ver cs ow->∃Gy Hi OA,b.at s= .box Gy Hi OA/\(s∈l.map (·.1)->ver<Gy)):=by
 obtain⟨b,i,f,c,d⟩:=Vk (σs:=σ') (by simpa using he.vec) he.len.symm A3;refine⟨b,i,hr.aC7 (f.trans he.len.symm) λs=>?_,f,c,λs ver cs ow hb=>?_⟩
 .by_cases hm:s∈l.map (·.1);.exact .inr (.inr (d s hm).1)
  .rw[c s hm];rcases he.same s hm with e|e
   .exact .inl e
   .exact .inr (.inl e)
 .by_cases hm:s∈l.map (·.1)
  .obtain⟨_,q⟩:=d s hm;obtain⟨m,o,n,k⟩:=he.box s ver cs ow hb;rcases q with⟨Gy,Hi,OA,j,g⟩|q
   .exact⟨Gy,Hi,OA,j,λ_=>by rw[hb] at g;exact g⟩
   .exact absurd k (q _ _ _)
  .exact⟨ver,cs,ow,by rw[c s hm];exact hb,λh=>absurd h hm⟩
def P6{σ σ0 b:BU}{ws W:List Nat}{l:List (Nat×Sh)}(h0:σ0=σ.clear ws)(hv:sj l ws σ=true)(hl:b.length=σ0.length)(h1:∀s,s∉l.map (·.1)->b.at s=σ0.at s)
  (h2:∀s ver cs ow,σ0.at s= .box ver cs ow->∃Gy Hi OA,b.at s= .box Gy Hi OA/\(s∈l.map (·.1)->ver<Gy)) (hW:∀s∈ws,s∈W):Gp W σ b:=by
 refine⟨by rw[hl,h0,BU.Kx],λs hs=>?_⟩;have c:s∉ws:=λhm=>hs (hW s hm);have e0:σ0.at s=σ.at s:=by rw[h0,BU.IN,Ad c]
 by_cases hm:s∈l.map (·.1)
 .obtain⟨p,hp,rfl⟩:=Bn.1 hm;have:=Db.1 hv p hp;simp only[Pj,aF5] at this;rcases this with this|this
  .exact absurd this c
  .cases hx:σ.at p.1 with
   |box ver cs ow=>obtain⟨d,j,f,i,g⟩:=h2 p.1 ver cs ow (by rw[e0];exact hx);have:=g hm;exact⟨d,j,f,i,Ac,λe=>Ac⟩
   |_=>rw[hx] at this;cases this
 .rw[h1 s hm,e0];exact .refl _
def Fj.le{n m:Nat}(h:Fj C (IT.run (Ca C) n))(b:m<=n):Fj C (IT.run (Ca C) m):=⟨h.1,λf args h0 r h' A3=>h.2 f args h0 r h' (IT.Ir b A3)⟩
def vq(hm:C.P.follows .mixedOrders=true):∀(c:Code) (n:Nat),Fj C (IT.run (Ca C) n)->∀{K:DU->BU->IT} {R:Km} {σ:BU} {h:Ai} {a:Act} {w:World} {U:Gh} {Z:Nat->Nat} {Q:Exit->Act->World->Prop},
  IT.step (Ca C) (IT.run (Ca C) n) (GA C fid c σ K) h=some R->Df C U0 w0 U Z σ h a w->
  (∀x f d σ' h' a' w',IT.step (Ca C) (IT.run (Ca C) n) (K x σ') h'=some R->Gp (Di c++Cf c) σ σ'->Df C U0 w0 f d σ' h' a' w'->Q (vj x) a' w')->c.wp C.P Q a w:=by
 intro c;induction c with
 |skip=>intro n p K R σ h a w U Z Q A3 hr g;exact wp_skip (g .normal U Z σ h a w A3 (.refl _ _) hr)
 |region id ops draw=>
  intro n p K R σ h a w U Z Q A3 hr g;simp only[GA] at A3;split at A3;.exact X8 hm p A3 hr λf d σ' h' a' w' h1 h2 A=>g .normal f d σ' h' a' w' h1 h2 A
  .rename_i l hl;unfold eD at A3;simp only at A3;split at A3
   .rename_i hv;simp only[IT.step] at A3;split at A3
    .rename_i x vs h1 X9;refine X8 hm p X9 hr λf d σ' h' a' w' z u q=>?_;obtain⟨Ia,e,he⟩:=P5 (h:=h') z u (by rw[BU.Kx]) (λs hs=>by rw[BU.IN,Af hs]) (λs _=>by rw[BU.IN];split<;>simp) (λs ver cs ow hb=>by
      rw[BU.IN] at hb;split at hb;.cases hb
      .exact⟨ver,cs,ow,hb⟩)
     cases e;obtain⟨k,F,E,L,J,I⟩:=he.next q A3;exact g .normal f d k h1 a' w' F (P6 rfl hv L J I (λs hs=>hs)) E
    .cases A3
   .cases A3
 |seq x y D B=>
  intro n p K R σ h a w U Z Q A3 hr g;simp only[GA] at A3;refine wp_seq (D n p A3 hr λe f d σ' h' a' w' h1 h2 A=>?_);have up:∀j,Gp (Di x++Cf x) σ j->Gp (Di (.seq x y)++Cf (.seq x y)) σ j:=λj ho=>ho.mono λs hs=>by simp only[Di,Cf,Ay] at hs⊢;rcases hs with hs|hs<;>simp[hs]
  cases e with
  |normal=>refine B n p h1 A λY U2 Z2 j bP a2 w2 z u q=>g Y U2 Z2 j bP a2 w2 z ((up _ h2).trans (u.mono λs hs=>?_)) q;simp only[Di,Cf,Ay] at hs⊢;rcases hs with hs|hs<;>simp[hs]
  |exit i=>exact g (.exit i) f d σ' h' a' w' h1 (up _ h2) A
  |ret=>exact g .ret f d σ' h' a' w' h1 (up _ h2) A
 |cond c x y D B=>
  intro n p K R σ h a w U Z Q A3 hr g;have N:∀{o j:BU},Gp (Di x++Cf x) o j->Gp (Di (.cond c x y)++Cf (.cond c x y)) o j:=λ{o j} ho=>ho.mono λs hs=>by cases c<;>simp only[Di,Cf,Ay,AS] at hs⊢<;>rcases hs with hs|hs<;>simp[hs]
  have M:∀{o j:BU},Gp (Di y++Cf y) o j->Gp (Di (.cond c x y)++Cf (.cond c x y)) o j:=λ{o j} ho=>ho.mono λs hs=>by cases c<;>simp only[Di,Cf,Ay,AS] at hs⊢<;>rcases hs with hs|hs<;>simp[hs]
  simp only[GA] at A3;split at A3;.rename_i hc;obtain⟨s,h1,_⟩:=GB hr hc;exact wp_cond_true h1 (D n p A3 hr λe f d σ' h' a' w' z u q=>g e f d σ' h' a' w' z (N u) q)
  .rename_i hc;obtain⟨s,h1,_⟩:=GB hr hc;exact wp_cond_false h1 (B n p A3 hr λe f d σ' h' a' w' z u q=>g e f d σ' h' a' w' z (M u) q)
  .rename_i s v hc;have T:σ.at s= .val v:=Hn hc;have h0:=hr.fr.IB s;rw[T] at h0;have G:∀{S:DU->BU->IT} {R':Km} {Q':Exit->Act->World->Prop},IT.step (Ca C) (IT.run (Ca C) n) (.Gm v (GA C fid x (σ.set s (.Px true)) S) (GA C fid y (σ.set s (.Px false)) S)) h=some R'->
     (∀e f d σ' h' a' w',IT.step (Ca C) (IT.run (Ca C) n) (S e σ') h'=some R'->Gp (Di (.cond (.tmp s) x y)++Cf (.cond (.tmp s) x y)) σ σ'->Df C U0 w0 f d σ' h' a' w'->Q' (vj e) a' w')->(Code.cond (.tmp s) x y).wp C.P Q' a w:=by
    intro S R' Q' Rn O;have kh:∀b:Bool,Gp (Di (.cond (.tmp s) x y)++Cf (.cond (.tmp s) x y)) σ (σ.set s (.Px b)):=λb=> .set (by simp[Cf]);simp only[IT.step] at Rn;split at Rn;.have hv:a.eval (.tmp s)= .bool true:=h0;exact wp_cond_true hv (D n p Rn (hr.nM h0) λe f d σ' h' a' w' z u q=>O e f d σ' h' a' w' z ((kh true).trans (N u)) q)
    .have hv:a.eval (.tmp s)= .bool false:=h0;exact wp_cond_false hv (B n p Rn (hr.nM h0) λe f d σ' h' a' w' z u q=>O e f d σ' h' a' w' z ((kh false).trans (M u)) q)
    .cases Rn
   split at A3;.exact G A3 g
   .rename_i l hl;unfold eD at A3;simp only at A3;split at A3
    .rename_i hv;simp only[IT.step] at A3;split at A3
     .rename_i e vs h1 X9;refine G X9 λY f d σ' h' a' w' z u q=>?_;obtain⟨Ia,eq,he⟩:=P5 (h:=h') (ws:=s::(Di x++Di y++Cf x++Cf y)) z (u.mono λt ht=>by
        simp only[Di,Cf,Ay,AS] at ht⊢;rcases ht with(ht|ht)|ht|ht|ht<;>simp[ht]) (by rw[BU.Kx]) (λt ht=>by rw[BU.IN,Af ht]) (λt _=>by rw[BU.IN];split<;>simp) (λt ver cs ow hb=>by
       rw[BU.IN] at hb;split at hb;.cases hb
       .exact⟨ver,cs,ow,hb⟩)
      cases eq;obtain⟨k,F,E,L,J,I⟩:=he.next q A3;exact g e f d k h1 a' w' F (P6 rfl hv L J I (λt ht=>by simp only[Di,Cf,Ay,AS] at ht⊢;rcases ht with ht|((ht|ht)|ht)|ht<;>simp[ht])) E
     .cases A3
    .cases A3
  .cases A3
 |block id b ih=>
  intro n p K R σ h a w U Z Q A3 hr g;simp only[GA] at A3;refine wp_block (ih n p A3 hr λe f d σ' h' a' w' h1 h2 A=>?_);cases e with
  |normal=>exact g .normal f d σ' h' a' w' h1 h2 A
  |exit i=>
   simp only at h1;show if i=id then Q .normal a' w' else Q (.exit i) a' w'
   by_cases hi:i=id;.rw[Af hi] at h1⊢;exact g .normal f d σ' h' a' w' h1 h2 A
   .rw[Ad hi] at h1⊢;exact g (.exit i) f d σ' h' a' w' h1 h2 A
  |ret=>exact g .ret f d σ' h' a' w' h1 h2 A
 |loop b ih=>
  intro n p K R σ h a w U Z Q A3 hr g;simp only[GA] at A3;generalize hl:C.aCC fid ((GW b).getD 0)=l at A3;generalize aRo:(GW b).getD 0=key at A3;generalize h0:σ.clear (Di b++Cf b)=σ0 at A3;split at A3
  .rename_i hv;split at A3;.cases A3
   .rename_i init aGA;have aGB:σ0.length=σ.length:=by rw[<-h0,BU.Kx]
    have V8:∀s,s∈Di b++Cf b->σ0.at s= .undef:=λs hs=>by rw[<-h0,BU.IN,Af hs]
    refine eV (λm a w=>∃U Z o h vs,Df C U0 w0 U Z o h a w/\vp σ0 (Di b++Cf b) l o vs/\m<=n+1/\
     IT.run (Ca C) m (.loop key vs (λvs=>JU vs l 0 σ0 λk=>GA C fid b k λx σ'=>T8 σ0 l x σ') λx vs=>JU vs l 0 σ0 λσ'=>aBi K x σ') h=some R) ?_ (n+1) a w
     ⟨U,Z,σ,h,init,hr,⟨aGA,aGB.symm,λs _=>by rw[<-h0,BU.IN];split<;>simp,λs ver cs ow hb=>by
      rw[<-h0,BU.IN] at hb;split at hb;.cases hb
      .exact⟨ver,cs,ow,hb⟩⟩,Ag _,A3⟩
    rintro m a1 w1 ⟨U1,Z1,o,h1,vs,KQ,V,hmn,Jl⟩;cases m with
    |zero=>simp[IT.run] at Jl
    |succ m=>
     simp only[IT.run,IT.step] at Jl;have body:∀{x:DU} {Ia:List Aa} {h':Ai},IT.step (Ca C) (IT.run (Ca C) m) (JU vs l 0 σ0 λk=>GA C fid b k λx σ'=>T8 σ0 l x σ') h1=some (x,Ia,h')->∀{Q':Exit->Act->World->Prop},
       (∀f d σ' a' w',Df C U0 w0 f d σ' h' a' w'->vp σ0 (Di b++Cf b) l σ' Ia->Q' (vj x) a' w')->b.wp C.P Q' a1 w1:=by
      intro x Ia h' hb Q' X;obtain⟨k,F,E,L,J,I⟩:=V.next KQ hb;refine ih m (p.le Ac) F E λy f d σ' h2 a' w' z u q=>?_;obtain⟨vs2,eq,he⟩:=P5 z u L V8 (λs hs=> .inr (J s hs).symm) λs ver cs ow hb=>by obtain⟨v1,c1,o1,e1,_⟩:=I s ver cs ow hb;exact⟨v1,c1,o1,e1⟩
      cases eq;exact X f d σ' a' w' q he
     split at Jl;.rename_i Ia h' hb;exact body hb λf d σ' a' w' Gc P7=>⟨m,NQ m,f,d,σ',h',Ia,Gc,P7,Ac,Jl⟩
     .rename_i x Ia h' hne hb;refine body hb λf d σ' a' w' Gc P7=>?_;have Vj:=IT.J6 (λt h r=>IT.Ir (fn:=Ca C) (Ac:m<=n)) _ _ _ Jl;obtain⟨k,F,E,L,J,I⟩:=P7.next Gc Vj;have ho:=P6 h0.symm hv L J I λs hs=>hs;cases x with
      |normal=>exact absurd rfl hne
      |exit i=>exact g _ f d k h' a' w' F ho E
      |ret=>exact g _ f d k h' a' w' F ho E
     .cases Jl
  .cases A3
 |exit id=>intro n p K R σ h a w U Z Q A3 hr g;exact wp_exit (g (.exit id) U Z σ h a w A3 (.refl _ _) hr)
 |ret=>intro n p K R σ h a w U Z Q A3 hr g;exact wp_ret (g .ret U Z σ h a w A3 (.refl _ _) hr)
 |label l=>intro n p K R σ h a w U Z Q A3 hr g;exact wp_label (g .normal U Z σ h a w A3 (.refl _ _) hr)
 |scope b ih=>
  intro n p K R σ h a w U Z Q A3 hr g;simp only[GA] at A3;refine wp_scope_straight (ih n p A3 hr λe f d σ' h' a' w' h1 h2 A=>?_);cases e with
  |normal=>exact g .normal f d σ' h' a' w' h1 h2 A
  |exit i=>exact g (.exit i) f d σ' h' a' w' h1 h2 A
  |ret=>exact g .ret f d σ' h' a' w' h1 h2 A
 |_=>intros n p K R σ h a w U Z Q A3 hr g;cases A3
end
end Go.Am
end
section
namespace Go.Am
open Go
section
variable{C:Gb}{U0 U:Gh}{w0 w:World}{Z:Nat->Nat}{σ:BU}{h:Ai}{a:Act}{fid:FuncId}{run:IT->Ai->Option Km}
def IP(tmps:Array Value):ResultVar->Sem Value
 | .tmp t=>pure (tmps.getD t undef)
 | .cell a t=>do loadVar t (<-asAddr (tmps.getD a undef))
def S8{P:Program}{t:TypeId}{b o:Nat}{v:Value}(h:(Instr.loadAt t (.pointer (some ⟨b,o,none⟩))).run P w= .ok v w):(loadVar t ⟨b,o,none⟩).run P w= .ok v w:=by simpa[Instr.loadAt,Instr.sureAddr] using h
def Vl{K:List Aa->IT}{R:Km}:∀{rs:List ResultVar} {DZ:List Aa},IT.step (Ca C) run (GR C σ rs DZ K) h=some R->Df C U0 w0 U Z σ h a w->
  ∃vs us,(rs.mapM (IP a.tmps)).run C.P w= .ok us w/\Bl U vs us/\IT.step (Ca C) run (K (DZ.reverse++vs)) h=some R
 |[],DZ,A3,hr=>⟨[],[],AH,rfl,by simpa[GR] using A3⟩
 |f::rs,DZ,A3,hr=>by
  have one:∀(v:Aa) (u:Value),(IP a.tmps f).run C.P w= .ok u w->BQ U v u->IT.step (Ca C) run (GR C σ rs (v::DZ) K) h=some R->
    ∃vs us,((f::rs).mapM (IP a.tmps)).run C.P w= .ok us w/\Bl U vs us/\IT.step (Ca C) run (K (DZ.reverse++vs)) h=some R:=by
   intro v u h1 h2 m;obtain⟨vs,us,z,y,x⟩:=Vl m hr;refine⟨v::vs,u::us,?_,⟨u,us,rfl,h2,y⟩,by simpa using x⟩;simp[List.mapM_cons,h1,z]
  cases f with
  |tmp t=>
   simp only[GR] at A3;split at A3;.rename_i v hv;exact one v _ (by simp[IP]) (N1 (hr.fr.IB t) hv) A3
   .cases A3
  |cell p t=>
   have c:∀(b o:Nat) (v:Aa),a.tmps.getD p undef= .pointer (some ⟨b,o,none⟩)->(∃u,(Instr.loadAt t (.pointer (some ⟨b,o,none⟩))).run C.P w= .ok u w/\BQ U v u)->IT.step (Ca C) run (GR C σ rs (v::DZ) K) h=some R->
     ∃vs us,((ResultVar.cell p t::rs).mapM (IP a.tmps)).run C.P w= .ok us w/\Bl U vs us/\IT.step (Ca C) run (K (DZ.reverse++vs)) h=some R:=by
    intro b o v hp ⟨u,h1,h2⟩ m;refine one v u ?_ h2 m;simp only[IP,hp,asAddr,Sem.run_bind,Sem.run_pure,Result.andThen_ok];exact S8 h1
   simp only[GR] at A3;split at A3
   .rename_i s off ver cs ow ht ha;split at A3;.rename_i hlt;obtain⟨hs,hx⟩:=LK hr ha;obtain⟨u,i,g,_⟩:=Lt hr ht hs (r:=cs.getD off .nilIface) (off:=off) (by simp[Fu,List.getD,Ap hlt]);exact c _ _ _ hx ⟨u,i,g⟩ A3
    .cases A3
   .rename_i n s off ver cs ow ht ha;split at A3;.rename_i Er;obtain⟨hs,hx⟩:=LK hr ha;obtain⟨u,i,g,_⟩:=Lt hr ht hs (r:= .agg ((cs.drop off).take n)) (off:=off) (by simp[Fu,Er]);exact c _ _ _ hx ⟨u,i,g⟩ A3
    .cases A3
   .rename_i n p' ht ha;simp only[IT.step] at A3;split at A3
    .rename_i v hv;have zE:=RU hr ha;unfold A7 at hv;split at hv;.rename_i cs;obtain⟨b,k,oD,hm⟩:=zE;obtain⟨us,l,d⟩:=hm.values;exact c b k v oD (IM (w:=w) ht l (λj u hj=>(hr.D5.IF _ _ _ (d j u hj)).1) (λu hu=>by obtain⟨j,hj⟩:=CT hu;exact(hr.D5.IF _ _ _ (d j u hj)).2.1) hv) A3
     .rename_i id off;obtain⟨b,hb,oD⟩:=zE;split at hv
      .rename_i cs hcs;obtain⟨us,e,fr,l,pf,d,q⟩:=hr.D5.cells id cs hcs b hb;refine c b off v oD (IM (w:=w) (b:=b) (o:=off) ht (d.drop off) (λj u hj=>?_) (λu hu=>q u (BD hu)) (PZ hv)) A3;rw[cell_of_row w _ _ us e fr l];rw[Cr,Ci] at hj;split at hj;.simpa using hj
       .cases hj
      .cases hv
     .cases hv
    .cases A3
   .cases A3
def Df.PL(hr:Df C U0 w0 U Z σ h a w){p:Aa}{off:Nat}{u:Value}{h':Ai}(hp:BQ U p u)(hf:Mz h off p=some h'):∃t,Df C U0 w0 t Z σ h' a w:=by
 unfold Mz at hf;split at hf;.cases hf;exact⟨U,hr⟩
 .rename_i id r;generalize r+off=o at hf;obtain⟨b,hb,_⟩:=hp;split at hf
  .rename_i cs hcs;split at hf
   .rename_i v hv;obtain⟨us,e,fr,c,pf,n,B⟩:=hr.D5.cells id cs hcs b hb;obtain⟨x,hx,g⟩:=n.get hv;cases hq:KT h v with
    |none=>rw[hq] at hf;cases hf
    |some q=>
     obtain⟨h1,v'⟩:=q;rw[hq] at hf;simp only[Ct] at hf;split at hf
     .rename_i Hi aGC;cases hf;obtain⟨U1,Er,KQ,ö⟩:=hr.PH g hq;have TZ:=Er.mu _ _ hb;obtain⟨k,D,s,j,l,r2,m⟩:=KQ.D5.cells id Hi aGC b TZ;rw[c] at j;cases j;have kh:Bl U1 (Hi.set o v') (us.toList.take (Hi.set o v').length):=by
       rw[Bq];refine Bl.Hm (by simp[r2.length]) λi y z hy hz=>?_;by_cases hi:o=i
       .subst hi;by_cases hlt:o<Hi.length
        .rw[AO hlt] at hy;cases hy;have f:x=z:=by rw[C3 hlt] at hz;have aL0:o<cs.length:=(An.1 hv).1;rw[C3 aL0] at hx;rw[hx] at hz;exact D4 hz
         rw[<-f];exact ö
        .rw[Ec (by simpa using hlt)] at hy;cases hy
       .rw[As hi] at hy;obtain⟨A,ZV,d⟩:=r2.get hy;rw[hz] at ZV;cases ZV;exact d
      obtain⟨WG,Pz⟩:=NY KQ.D5 aGC TZ c us (Hi.set o v') rfl l kh (by rw[Bq];exact m);rw[setRow_self w b us e fr c] at WG Pz;exact⟨U1,KQ.Jj WG Pz⟩
     .cases hf
   .cases hf
  .cases hf
 .cases hf
def zN{t:IT}{R:Km}:∀{l:List (Nat×Nat)} {U:Gh} {h:Ai},IT.step (Ca C) run (yT C σ l t) h=some R->Df C U0 w0 U Z σ h a w->∃b h',Df C U0 w0 b Z σ h' a w/\IT.step (Ca C) run t h'=some R
 |[],U,h,A3,hr=>⟨U,h,hr,A3⟩
 |(s,off)::l,U,h,A3,hr=>by
  simp only[yT] at A3;split at A3
  .rename_i p hp;simp only[IT.step] at A3;split at A3;.rename_i h1 hf;obtain⟨U1,KQ⟩:=hr.PL (N1 (hr.fr.IB s) hp) hf;exact zN A3 KQ
   .cases A3
  .cases A3
def Ya{R:Km}:∀{vs DZ:List Aa} {U:Gh} {h:Ai} {us qj:List Value},IT.step (Ca C) run (PS vs DZ U5) h=some R->Df C U0 w0 U Z σ h a w->Bl U vs us->Bl U DZ.reverse qj->
  ∃c h' Ia,Df C U0 w0 c Z σ h' a w/\Bl c Ia (qj++us)/\IT.step (Ca C) run (U5 Ia) h'=some R
 |[],DZ,U,h,us,qj,A3,hr,h1,h2=>by rw[show us=[] from h1,By];exact⟨U,h,DZ.reverse,hr,h2,A3⟩
 |v::vs,DZ,U,h,us,qj,A3,hr,h1,h2=>by
  obtain⟨u,DQ,rfl,hv,h1⟩:=h1;simp only[PS,IT.step] at A3;split at A3
  .rename_i k v' hf;obtain⟨U1,Er,KQ,ö⟩:=hr.PH hv hf;have i:Bl U1 (v'::DZ).reverse (qj++[u]):=by rw[Ee];exact(Bl.mono Er _ _ h2).append ⟨u,[],rfl,ö,rfl⟩
   obtain⟨j,g,b,f,e,d⟩:=Ya A3 KQ (Bl.mono Er _ _ h1) i;exact⟨j,g,b,f,by rwa [AI] at e,d⟩
  .cases A3
def zO{R:Km}{vs:List Aa}{us:List Value}{U:Gh}{h:Ai}(A3:IT.step (Ca C) run (U5 vs) h=some R)(hv:Bl U vs us):
  ∃r,R=(.ret,[r],h)/\BQ U r (if c:us.toArray.size=1 then us.toArray[0] else .tuple us.toArray):=by
 unfold U5 at A3;split at A3;.rename_i v;obtain⟨u,DQ,rfl,b,hnil⟩:=hv;rw[show DQ=[] from hnil];simp only[IT.step] at A3;cases A3;exact⟨v,rfl,by simpa using b⟩
 .rename_i hne;simp only[IT.step] at A3;cases A3;have hlen:us.length≠1:=λe=>by have:=hv.length;rw[e] at this;obtain⟨v,hv⟩:=aFn.1 this.symm;exact hne v hv
  refine⟨_,rfl,?_⟩;rw[dif_neg (by simpa using hlen)];exact⟨us.toArray,rfl,by simpa using hv⟩
def Vm{fn:Func}{tmps:Array Value}{us:List Value}(h:(fn.results.toList.mapM (IP tmps)).run C.P w= .ok us w):(results fn tmps).run C.P w= .ok (if b:us.toArray.size=1 then us.toArray[0] else .tuple us.toArray) w:=by
 have e:fn.results.mapM (IP tmps)=(do let l<-fn.results.toList.mapM (IP tmps);pure l.toArray:Sem (Array Value)):=by rw[Array.mapM_eq_mapM_toList];simp
 have c:results fn tmps=(do let vs<-fn.results.mapM (IP tmps);pure (if b:vs.size=1 then vs[0] else .tuple vs):Sem Value):=by unfold results;congr 2
 rw[c,e];simp only[Sem.run_bind,h,Result.andThen_ok,Sem.run_pure]
def ą{fn:Func}{R:Km}(A3:IT.step (Ca C) run (nL C fid fn σ) h=some R)(hr:Df C U0 w0 U Z σ h a w):
  ∃r h' v f,R=(.ret,[r],h')/\(results fn a.tmps).run C.P w= .ok v w/\Hv f h' w/\LI U0 w0 f w/\BQ f r v/\(C.Jq fid=true->∃s c,I6 f w0.heap.size w s c v r):=by
 unfold nL at A3;split at A3;.cases A3
 .rename_i FJ;obtain⟨U1,h1,KQ,Jl⟩:=zN A3 hr;by_cases ho:C.Jq fid=true
  .have g:∃t x,fn.results.toList=[.tmp t]/\σ.at t= .Bs x:=by
    have:QE σ fn.results.toList=true:=by
     cases hq:QE σ fn.results.toList with
     |true=>rfl
     |false=>exact absurd (by simp[ho,hq]) FJ
    unfold QE at this;split at this
    .rename_i t KR;split at this;.rename_i x hx;exact⟨t,x,KR,hx⟩
     .cases this
    .cases this
   obtain⟨t,x,d,hx⟩:=g;have h0:=KQ.fr.IB t;rw[hx] at h0;have Ć:=Vm (C:=C) (w:=w) (fn:=fn) (tmps:=a.tmps) (us:=[a.tmps.getD t undef]) (by rw[d];simp[IP]);rw[d] at Jl;simp only[GR,hx,Ew.Hz,Ee,TS,BT] at Jl;have aGD:KT h1 x=some (h1,x):=by rcases h0.2 with(rfl|⟨_,rfl⟩)|⟨_,_,_,_,_,_,_,rfl,_⟩<;>rfl
   have hR:R=(.ret,[x],h1):=by
    split at Jl;.simp only[PS,IT.step,aGD,Ee,TS,BT,U5] at Jl;cases Jl;rfl
    .simp only[IT.step,U5] at Jl;cases Jl;rfl
   exact⟨x,h1,_,U1,hR,by simpa using Ć,KQ.D5,KQ.DZ,h0.1,λ_=>⟨t,none,h0.2⟩⟩
  .obtain⟨vs,us,n,k,Vj⟩:=Vl Jl KQ;simp only[TS,BT] at Vj;have Ć:=Vm (C:=C) n;split at Vj;.obtain⟨o,h2,l,j,i,m⟩:=Ya Vj KQ k (qj:=[]) rfl;rw[BT] at i;obtain⟨r,hR,b⟩:=zO m i;exact⟨r,h2,_,o,hR,Ć,j.D5,j.DZ,b,λe=>absurd e ho⟩
   .obtain⟨r,hR,b⟩:=zO Vj k;exact⟨r,h1,_,U1,hR,Ć,KQ.D5,KQ.DZ,b,λe=>absurd e ho⟩
def Df.start{U:Gh}{h:Ai}{w:World}(hi:Hv U h w)(hg:∀g cs,C.Hk g=some cs->C8 U cs g 0){args:List Aa}{cargs:Array Value}(ha:Bl U args cargs.toList)(n:Nat)(Z:Nat->Nat):
  Df C U w U Z (args.map .val++List.replicate (n-args.length) .undef) h {tmps:=cargs++Array.replicate (n-cargs.size) undef,defers:=[]} w:=by
 have hlen:cargs.size=args.length:=by have:=ha.length;simpa using this
 refine⟨hi,⟨by simp[hlen],λs=>?_⟩,LI.refl U w,rfl,hg⟩;by_cases hs:s<args.length
 .have h1:BU.at (args.map .val++List.replicate (n-args.length) .undef) s= .val args[s]:=by simp[BU.at,List.getD,Ak,hs]
  obtain⟨u,hu,hr⟩:=ha.get (Ap hs);have h2:(cargs++Array.replicate (n-cargs.size) undef).getD s undef=u:=by
   rw[Hs,Array.getElem?_append_left Ac];have:cargs[s]?=some u:=by simpa using hu
   rw[this];rfl
  rw[h1,h2];exact hr
 .have h1:BU.at (args.map .val++List.replicate (n-args.length) .undef) s= .undef:=by have hm:(args.map Ew.val).length=args.length:=AH;simp only[BU.at,List.getD];rw[Bk Ac,List.getElem?_replicate];split<;>rfl
  rw[h1];trivial
def eX(C:Gb):Prop:=
 (∀f,C.Na f=true->uh C f)/\∀(f:FuncId) (p:List Aa->IT),C.aCD f=some p->∀n,Fj C (IT.run (Ca C) n)->∀(args:List Aa) (h:Ai) (r:Aa) (h':Ai),IT.step (Ca C) (IT.run (Ca C) n) (p args) h=some (.ret,[r],h')->
  (∃fn c,C.P.funcs[EH f]?=some fn/\(fn.name== "runtime.NumGoroutine")=false/\fn.body=some c)/\
  ∀(U:Gh) (w:World) (cargs:Array Value),Hv U h w->(∀g cs,C.Hk g=some cs->C8 U cs g 0)->Bl U args cargs.toList->
   Calls C.P (EH f) cargs w λe w'=>match e with
    | .returned v=>∃b,Hv b h' w'/\LI U w b w'/\BQ b r v/\(C.Jq f=true->∃s c,I6 b w.heap.size w' s c v r)
    |_=>False
def oR(hm:C.P.follows .mixedOrders=true)(vr:∀g cs,C.Hk g=some cs->cs.all Aa.M9=true)(d:eX C):∀n,Fj C (IT.run (Ca C) n)
 |0=>⟨⟨vr,d.1⟩,λf args h r h' A3=>by simp[IT.run] at A3⟩
 |n+1=>⟨⟨vr,d.1⟩,λf args h r h' A3=>by
  have ih:=oR hm vr d n;simp only[IT.run] at A3;unfold Ca at A3;split at A3;.rename_i p hp;exact d.2 f p hp n ih args h r h' A3
  unfold aGd at A3;split at A3
  .rename_i fn hf;split at A3;.cases A3
   .rename_i hname;unfold sk at A3;split at A3;.cases A3
    .rename_i c hb;refine⟨⟨fn,c,hf,by simpa using hname,hb⟩,λU w cargs hi hg ha=>calls_of_wp hf hb ?_⟩;refine vq (C:=C) (fid:=f) hm c n ih A3 (Df.start hi hg ha fn.ntmps (λ_=>0)) λx y u σ' h1 a' w' j _ k=>?_;have HN:IT.step (Ca C) (IT.run (Ca C) n) (nL C f fn σ') h1=some (.ret,[r],h')->a'.defers=[]/\∃v,(results fn a'.tmps).run C.P w'= .ok v w'/\∃b,Hv b h' w'/\LI U w b w'/\BQ b r v/\(C.Jq f=true->∃s c,I6 b w.heap.size w' s c v r):=λaL2=>by obtain⟨r',h2,v,b,e,t,q,o,m,l⟩:=ą aL2 k;cases e;exact⟨k.defers,v,t,b,q,o,m,l⟩
     cases x with
     |normal=>exact HN j
     |ret=>exact HN j
     |exit i=>cases j
  .cases A3⟩
end
def Ev.calls{C:Gb}(hm:C.P.follows .mixedOrders=true)(vr:∀g cs,C.Hk g=some cs->cs.all Aa.M9=true)(c:eX C){f:FuncId}{args:List Aa}{h:Ai}{Q:Aa->Ai->Prop}(I9:Ev C f args h Q){U:Gh}{w:World}{cargs:Array Value}(hi:Hv U h w)(hg:∀g cs,C.Hk g=some cs->C8 U cs g 0)(ha:Bl U args cargs.toList):
  Calls C.P (EH f) cargs w λe w'=>match e with
   | .returned v=>∃r h' b,Q r h'/\Hv b h' w'/\LI U w b w'/\BQ b r v
   |_=>False:=by
 obtain⟨n,x,vs,h',A3,rfl,r,rfl,hQ⟩:=I9;refine(((oR hm vr c n).2 f args h r h' A3).2 U w cargs hi hg ha).mono λe w' he=>?_;cases e with
 |returned v=>obtain⟨b,j,i,d,_⟩:=he;exact⟨r,h',b,hQ,j,i,d⟩
 |_=>exact he
end Go.Am
end
section
namespace Go.Am
open Go
inductive Ty where
 |bool
 |int (k:IntKind)
 |str
 |sl (e:Ty)
 |st (fs:List Ty)
 deriving Inhabited
mutual
def Ty.size:Ty->Nat
 | .bool| .int _| .str| .sl _=>1
 | .st fs=>Ty.Nj fs
def Ty.Nj:List Ty->Nat
 |[]=>0
 |t::ts=>Ty.size t+Ty.Nj ts
end
mutual
def P8(P:Program):Ty->TypeId->Bool
 | .bool,t=>match P.underlying t with|some .bool=>true|_=>false
 | .int k,t=>match P.underlying t with|some (.int k')=>decide (k'=k)|_=>false
 | .str,t=>match P.underlying t with|some .string=>true|_=>false
 | .sl e,t=>match P.underlying t with
  |some (.slice b)=>P.cellsOf b==Ty.size e&&decide (0<Ty.size e)&&P8 P e b
  |_=>false
 | .st fs,t=>match P.underlying t with
  |some (.struct fields)=>P.cellsOf t==Ty.Nj fs&&P9 P fs fields.toList 0
  |_=>false
def P9(P:Program):List Ty->List Field->Nat->Bool
 |[],[],_=>true
 |ty::tys,f::fs,off=>f.offset==off&&P.cellsOf f.type==Ty.size ty&&P8 P ty f.type&&P9 P tys fs (off+Ty.size ty)
 |_,_,_=>false
end
mutual
def Z8:Ty->List Aa->Prop
 | .bool,l=>∃b,l=[.bool b]
 | .int k,l=>∃n,l=[.int k n]/\(Lit.int k n).wf=true
 | .str,l=>∃s:Aj,l=[.str s]/\s.length<=maxLen
 | .sl e,l=>l=[.slnil]\/∃AE:List (List Aa),l=[.sl (Ty.size e) AE]/\AE.length<=maxLen/\∀r∈AE,Z8 e r
 | .st fs,l=>ky fs l
def ky:List Ty->List Aa->Prop
 |[],l=>l=[]
 |ty::tys,l=>∃a b,l=a++b/\Z8 ty a/\ky tys b
end
def Ty.aDa:Ty->Bool
 | .st _=>true
 |_=>false
def oS(ty:Ty)(a:Aa):Prop:=if ty.aDa then∃cs,a= .agg cs/\Z8 ty cs else Z8 ty [a]
def WJ:List Ty->List Aa->Prop
 |[],l=>l=[]
 |ty::tys,l=>∃a b,l=a::b/\oS ty a/\WJ tys b
def GD(W:World):Gh:={IF:=λb o=>(W.cell? ⟨b,o,none⟩).filter (·.oneCell'),mu:=λ_=>none,Bs:=λ_=>none,sz:=λ_=>none}
def vt(W:World):Hv (GD W) [] W:=by refine⟨λb o v h=>?_,λid x h=>by simp at h,λid cs h=>by simp at h,λid es h=>by simp at h,λid b h=>(by cases h),λb x h=>(by cases h),λb n h=>(by cases h)⟩;simp only[GD,Rd] at h;exact⟨h.1,h.2,.inl rfl⟩
def Uh{W:World}{b o:Nat}{v:Value}(h:W.cell? ⟨b,o,none⟩=some v)(h1:v.oneCell'=true):(GD W).IF b o=some v:=by simp[GD,h,h1,Option.filter]
def Vn{V:Type}{p:Nat->V->Prop}:∀(n:Nat),(∀i,i<n->∃x,p i x)->∃l:List V,l.length=n/\∀i x,l[i]?=some x->p i x
 |0,_=>⟨[],rfl,AH⟩
 |n+1,h=>by
  obtain⟨l,hl,hp⟩:=Vn n λi hi=>h i Ac;obtain⟨x,hx⟩:=h n Ac;refine⟨l++[x],by simp[hl],λi y hy=>?_⟩;rw[aKs] at hy;split at hy;.exact hp i y hy
  .have:i-l.length=0:=by
    rcases Jw (i-l.length) with h0|h0
    .exact h0
    .rw[Ec Ei] at hy;cases hy
   rw[this] at hy;simp at hy;subst hy;have:i=n:=Ac;rw[this];exact hx
section
variable{H:Type}{enc:TypeId×Value->H}{P:Program}{W:World}
def Ro{a:Addr}{n:Nat}{cs:List Value}(h:W.cells? 0 a n=some cs)(hn:0<n):a.spot=none:=by
 obtain⟨_,hl,hc⟩:=World.cells?_some h;have h0:=hc 0 hn;have hlt:0<cs.length:=Ac;rw[Ap hlt] at h0;unfold World.cell? at h0;have ha:a.add 0=a:=by simp[Addr.add]
 rw[ha] at h0;split at h0
 .split at h0;.cases h0
  .rename_i hs;simpa using hs
 .cases h0
mutual
def eY:∀(ty:Ty) {t:TypeId} {fuel:Nat} {cs:List Value} {x:DataW H×List MemPlace},P8 P ty t=true->DataW.trod enc P W 0 (λ_=>true) true fuel t cs=some x->
  ∃as,Z8 ty as/\Bl (GD W) as cs/\(∀u∈cs,u.oneCell'=true)/\as.length=Ty.size ty
 | .bool,t,fuel,cs,x,Mc,h=>by
  unfold P8 at Mc;split at Mc;.rename_i ht;obtain⟨b,rfl,_⟩:=DataW.trod_bool ht h;exact⟨[.bool b],⟨b,rfl⟩,⟨_,[],rfl,rfl,rfl⟩,by simp[Value.oneCell'],rfl⟩
  .cases Mc
 | .int k,t,fuel,cs,x,Mc,h=>by
  unfold P8 at Mc;split at Mc
  .rename_i k' ht;have hk:k'=k:=by simpa using Mc
   subst hk;obtain⟨n,rfl,_,hw⟩:=DataW.trod_int ht h;exact⟨[.int k' n],⟨n,rfl,hw⟩,⟨_,[],rfl,rfl,rfl⟩,by simp[Value.oneCell'],rfl⟩
  .cases Mc
 | .str,t,fuel,cs,x,Mc,h=>by
  unfold P8 at Mc;split at Mc
  .rename_i ht;obtain⟨s,rfl,_,hs⟩:=DataW.trod_string ht h;refine⟨[.str s.data.toList],⟨_,rfl,by
    have e:s.data.toList.length=s.size:=by rw[Cg];rfl
    rw[e];exact hs⟩,⟨_,[],rfl,?_,rfl⟩,by simp[Value.oneCell'],rfl⟩
   show Value.string s= .string ⟨⟨s.data.toList⟩⟩;congr 1
  .cases Mc
 | .sl e,t,fuel,cs,x,Mc,h=>by
  unfold P8 at Mc;split at Mc
  .rename_i A ht;simp only[Bv,Ý,CO] at Mc;obtain⟨⟨hce,hpos⟩,aL3⟩:=Mc;rcases DataW.trod_slice ht h with⟨rfl,_⟩|⟨a,len,cap,elems,rest,n,_,rfl,_,_,hl,hm,hlen,c,hsp,_⟩
   .exact⟨[.slnil],.inl rfl,⟨_,[],rfl,rfl,rfl⟩,by simp[Value.oneCell'],rfl⟩
   .have spot:0<cap->a.spot=none:=λhc=>by
     have ha:a.add 0=a:=by simp[Addr.add]
     rcases Jw len with h0|h0
     .obtain⟨KQ,Mh⟩:=hsp rfl;have:=Mh 0 Ac;rw[Ap (Ac:0<rest.length)] at this;have z:(len+0)*P.cellsOf A=0:=by rw[h0];simp
      rw[z,ha] at this;obtain⟨vs,hv,_⟩:=TT.1 this;exact Ro hv Ac
     .have:=c 0 h0;rw[Ap (Ac:0<elems.length)] at this;rw[M1,ha] at this;obtain⟨vs,hv,_⟩:=TT.1 this;exact Ro hv Ac
    obtain⟨AE,sJ,oH⟩:=Vn (p:=λi (r:List Aa)=>Z8 e r/\r.length=Ty.size e/\C8 (GD W) r a.block (a.off+i*Ty.size e)) len λi hi=>by
     have:=c i hi;rw[Ap (Ac:i<elems.length)] at this;obtain⟨vs,hv,hd⟩:=TT.1 this;obtain⟨r,m,g,d,l⟩:=eY e aL3 hd;refine⟨r,m,l,C8.Hm λj y hj=>?_⟩;obtain⟨u,hu,q⟩:=g.get hj;obtain⟨_,hvl,v⟩:=World.cells?_some hv;have bK:j<P.cellsOf A:=by have:=(An.1 hu).1;omega
     have hc:=v j bK;rw[hu] at hc;have tJ:a=⟨a.block,a.off,none⟩:=by have:=spot Ac;cases a;simp_all
     have N2:(a.add (i*P.cellsOf A)).add j=⟨a.block,a.off+i*Ty.size e+j,none⟩:=by rw[hce];generalize a.block=b at*;generalize a.off=o at*;subst tJ;rw[Addr.add_lit,Addr.add_lit]
     rw[N2] at hc;exact⟨u,Uh hc (d u (CC hu)),q⟩
    refine⟨[.sl (Ty.size e) AE],.inr ⟨AE,rfl,Ac,λr hr=>?_⟩,⟨_,[],rfl,⟨a,cap,by rw[sJ],Ac,?_,E7.Hm λi r hr=>?_⟩,rfl⟩,by simp[Value.oneCell'],rfl⟩;.obtain⟨i,hi⟩:=CT hr;exact(oH i r hi).1
    .rcases Jw cap with h0|h0
     .exact .inr h0
     .exact .inl (spot h0)
    .exact⟨(oH i r hr).2.1,(oH i r hr).2.2⟩
  .cases Mc
 | .st fs,t,fuel,cs,x,Mc,h=>by
  unfold P8 at Mc;split at Mc
  .rename_i fields ht;simp only[Bv,Ý] at Mc;obtain⟨hct,hf⟩:=Mc;obtain⟨xs,n,_,_,hcl,B,eE⟩:=DataW.trod_struct ht h;obtain⟨as,m,g,d,l⟩:=Vo fs (fields:=fields.toList) (off:=0) (cs:=cs) (n:=n) hf (λi f hi=>by
    have:=eE i f (by simpa using hi);have hlt:i<fields.size:=by have:=(An.1 hi).1;simpa using this
    rw[Ap (Ac:i<xs.length)] at this;exact⟨_,this⟩) (by rw[hcl,hct];omega)
   have D:(cs.drop 0).take (Ty.Nj fs)=cs:=by rw[MZ];exact AF (by rw[hcl,hct];exact Ag _)
   rw[D] at g d;exact⟨as,m,g,d,l⟩
  .cases Mc
def Vo:∀(tys:List Ty) {fields:List Field} {off:Nat} {cs:List Value} {n:Nat},P9 P tys fields off=true->
  (∀(i:Nat) (f:Field),fields[i]?=some f->∃y,DataW.trod enc P W 0 (λ_=>true) true n f.type ((cs.drop f.offset).take (P.cellsOf f.type))=some y)->off+Ty.Nj tys<=cs.length->
  ∃as,ky tys as/\Bl (GD W) as ((cs.drop off).take (Ty.Nj tys))/\(∀u∈(cs.drop off).take (Ty.Nj tys),u.oneCell'=true)/\as.length=Ty.Nj tys
 |[],fields,off,cs,n,Mc,h,hl=>by refine⟨[],rfl,?_,?_,rfl⟩<;>simp[Ty.Nj,Bl]
 |ty::tys,fields,off,cs,n,Mc,h,hl=>by
  cases fields with
  |nil=>simp[P9] at Mc
  |cons f fs=>
   simp only[P9,Bv,Ý] at Mc;obtain⟨⟨⟨ho,hc⟩,bC⟩,uw⟩:=Mc;obtain⟨y,hy⟩:=h 0 f rfl;rw[ho,hc] at hy;obtain⟨as,m,l,k,j⟩:=eY ty bC hy;simp only[Ty.Nj] at hl;obtain⟨bs,e,d,c,b⟩:=Vo tys uw (λi g hi=>h (i+1) g (by simpa using hi)) Ac;have o:(cs.drop off).take (Ty.Nj (ty::tys))=(cs.drop off).take (Ty.size ty)++(cs.drop (off+Ty.size ty)).take (Ty.Nj tys):=by simp only[Ty.Nj];rw[aA7,Em]
   rw[o];refine⟨as++bs,⟨as,bs,rfl,m,e⟩,l.append d,λu hu=>?_,by simp[j,b,Ty.Nj]⟩;rcases Ay.1 hu with hu|hu
   .exact k u hu
   .exact c u hu
end
def eZ{ty:Ty}{t:TypeId}{v:Value}{base:Nat}(Mc:P8 P ty t=true)(hv:Value.okWide P W .any base t v):if ty.aDa then∃cs,v= .agg cs else v.cells=#[v]:=by
 cases ty with
 |st fs=>
  unfold P8 at Mc;split at Mc;.rename_i fields ht;unfold Value.okWide at hv;rw[ht] at hv;obtain⟨cs,e,_⟩:=hv;exact⟨cs,e⟩
  .cases Mc
 |_=>
  unfold P8 at Mc;split at Mc;.rename_i ht;unfold Value.okWide at hv;rw[ht] at hv;simp only[Cell.okWide,ht,Cell.ok] at hv;cases v<;>first|rfl|exact hv.elim
  .cases Mc
def bS:∀{tys:List Ty} {ts:List TypeId} {vs:List Value} {ds:List (DataW H)} {ps:List MemPlace} {base:Nat},DataW.TrodAll enc P W 0 (λ_=>true) true ts vs ds ps->tys.length=ts.length->(∀(i:Nat) (ty:Ty) (t:TypeId),tys[i]?=some ty->ts[i]?=some t->P8 P ty t=true)->
  (∀(i:Nat) (t:TypeId) (v:Value),ts[i]?=some t->vs[i]?=some v->Value.okWide P W .any base t v)->∃as,WJ tys as/\Bl (GD W) as vs
 |[],[],[],[],_,_,_,_,_,_=>⟨[],rfl,rfl⟩
 |ty::tys,t::ts,v::vs,d::ds,ps,base,⟨p,q,⟨fuel,h1⟩,h2,_⟩,hl,Mc,R2=>by
  have bC:=Mc 0 ty t rfl rfl;obtain⟨cells,f,b,k,l⟩:=eY ty bC h1;obtain⟨bs,j,g⟩:=bS h2 (by simpa using hl) (λi ty t h h'=>Mc (i+1) ty t (by simpa using h) (by simpa using h')) (λi t v h h'=>R2 (i+1) t v (by simpa using h) (by simpa using h'));have hc:=eZ bC (R2 0 t v rfl rfl);have:∃a,oS ty a/\BQ (GD W) a v:=by
   by_cases Ib:ty.aDa=true;.rw[Af Ib] at hc;obtain⟨us,rfl⟩:=hc;exact⟨.agg cells,(by unfold oS;rw[Af Ib];exact⟨cells,rfl,f⟩),us,rfl,by simpa[Value.cells] using b,by simpa[Value.cells] using k⟩
   .rw[Ad Ib] at hc;rw[hc] at b;obtain⟨u,us,e,hu,hnil⟩:∃c Hi,cells=c::Hi/\BQ (GD W) c v/\Hi=[]:=by
     cases cells with
     |nil=>cases b
     |cons c Hi=>obtain⟨u,DQ,e,h1,h2⟩:=b;simp at e;obtain⟨rfl,rfl⟩:=e;exact⟨c,Hi,rfl,h1,by cases Hi with|nil=>rfl|cons _ _=>obtain⟨_,_,e,_⟩:=h2;cases e⟩
    subst hnil;subst e;exact⟨u,(by unfold oS;rw[Ad Ib];exact f),hu⟩
  obtain⟨a,ha,hr⟩:=this;exact⟨a::bs,⟨a,bs,rfl,ha,j⟩,⟨v,vs,rfl,hr,g⟩⟩
 |[],_::_,_,_,_,_,_,hl,_,_=>by simp at hl
 |_::_,[],_,_,_,_,_,hl,_,_=>by simp at hl
 |[],[],_::_,_,_,_,h,_,_,_=>by cases h
 |[],[],[],_::_,_,_,h,_,_,_=>by cases h
 |_::_,_::_,[],_,_,_,h,_,_,_=>by cases h
 |_::_,_::_,_::_,[],_,_,h,_,_,_=>by cases h
def Yb{W':World}{may:MemPlace->Prop}(h1:W'.os=W.os)(h2:W'.output=W.output)(hb:∀i,i<W.heap.size->W'.heap[i]?=W.heap[i]?):W.keptBut W' may:=by
 refine⟨h1,h2,λi hi=>?_⟩;rw[hb i hi];split;.rename_i c t fr c' t' ji d b;rw[d] at b;cases b;exact⟨rfl,rfl,rfl,λ_ _=>rfl⟩
 .rename_i d b;rw[d] at b;cases b;exact .inr ⟨rfl,rfl⟩
 .rfl
def Rp(hl:laidOutB P=true){W':World}(hb:RowKit.Below W.heap.size W W'):∀{ts:List TypeId} {vs:List Value} {ds:List (DataW H)} {ps:List MemPlace},(∀t∈ts,P.readableRec t=true/\t<P.types.size)->
  DataW.TrodAll enc P W 0 (λ_=>true) true ts vs ds ps->(∀x∈ps,x.block<W.heap.size)->DataW.TrodAll enc P W' 0 (λb=>decide (b<W.heap.size)) true ts vs ds ps
 |[],[],[],ps,_,h,_=>h
 |t::ts,v::vs,d::ds,ps,eK,⟨p,q,h1,h2,e⟩,hlt=>by subst e;have ht:=eK t AH;exact⟨p,q,RowKit.Below.trod hl ht.1 ht.2 h1 hb λx hx=>hlt x (CD _ hx),Rp hl hb (λt' h'=>eK t' (by simp[h'])) h2 λx hx=>hlt x (BV _ hx),rfl⟩
 |[],[],_::_,_,_,h,_=>by cases h
 |[],_::_,_,_,_,h,_=>by cases h
 |_::_,[],_,_,_,h,_=>by cases h
 |_::_,_::_,[],_,_,h,_=>by cases h
end
def fA{C:Gb}(hm:C.P.follows .mixedOrders=true)(vr:∀g cs,C.Hk g=some cs->cs.all Aa.M9=true)(n:eX C)(hl:laidOutB C.P=true){f:FuncId}{fn:Func}{rt:TypeId}(l:f<=99999)(k:fn.resultTypes=#[rt])(m:C.P.underlying rt=some .bool){tys:List Ty}(hlen:tys.length=fn.params.size)
  (aL5:∀(i:Nat) (ty:Ty) (t:TypeId),tys[i]?=some ty->fn.params[i]?=some t->P8 C.P ty t=true) (aGE:∀t∈fn.params.toList,C.P.readableRec t=true/\t<C.P.types.size)
  (I9:∀as,WJ tys as->Ev C f as [] λr _=>r= .bool true) {s:ChangeSpec} (c:s.vars=[])
  {H:Type} (þ:∀ds:List (DataW H),ds.length=fn.params.size->s.fn H ds={results:=[.lit (.bool true)],args:=ds})
  {enc:TypeId×Value->H} {W:World} {base:Nat} {args:Array Value} {ds gs:List (DataW H)} {before:List MemPlace} (hg:∀g cs,C.Hk g=some cs->C8 (GD W) cs g 0)
  (R2:∀(j:Nat) (t:TypeId) (v:Value),fn.params[j]?=some t->args[j]?=some v->Value.okWide C.P W .any base t v) (hW:DataW.Whole enc C.P fn.params.toList s.vars false W args.toList ds gs before):
  Calls C.P f args W λe W'=>∃v,e= .returned v/\s.post enc C.P fn false true false false W args v W':=by
 have u:=hW;have hlt:=hW.lt;obtain⟨p,q,z,y,rfl,hfz,â⟩:=hW;rw[c] at y;have o:gs=[]/\q=[]:=by
  cases gs with
  |nil=>exact⟨rfl,y⟩
  |cons _ _=>cases y
 obtain⟨rfl,rfl⟩:=o;obtain⟨as,Z9,Pz⟩:=bS z (by simpa using hlen) (λi ty t h h'=>aL5 i ty t h (by simpa using h')) (λi t v h h'=>R2 i t v (by simpa using h) (by simpa using h'));have uE:ds.length=fn.params.size:=by
  have key:∀{ts:List TypeId} {vs:List Value} {ds:List (DataW H)} {ps:List MemPlace},DataW.TrodAll enc C.P W 0 (λ_=>true) true ts vs ds ps->ds.length=ts.length:=by
   intro ts;induction ts with
   |nil=>intro vs ds ps h;cases vs<;>cases ds<;>first|rfl|cases h
   |cons t ts ih=>
    intro vs ds ps h;cases vs with
    |nil=>cases h
    |cons v vs=>
     cases ds with
     |nil=>cases h
     |cons d ds=>obtain⟨_,_,_,h2,_⟩:=h;simp[ih h2]
  simpa using key z
 have WE:=(I9 as Z9).calls hm vr n (vt W) hg Pz;rw[show EH f=f from Af l] at WE;refine WE.mono λe W' he=>?_;cases e with
 |returned v=>
  obtain⟨r,h',A,rfl,hi,Kv,hv⟩:=he;have hvb:v= .bool true:=hv;subst hvb;have hold:∀i,i<W.heap.size->W'.heap[i]?=W.heap[i]?:=λi uq=>(Kv.OI i uq λid h0=>by cases h0).1;have b:RowKit.Below W.heap.size W W':=⟨Kv.os,Kv.tape,Kv.output,Kv.size,hold⟩;refine⟨_,rfl,ds,[],p++[],[],p,[],u,?_,?_,?_,Yb Kv.os Kv.output hold,λh0=>by cases h0⟩;.rw[By,þ ds uE,k];exact⟨[],[],RowKit.shut_bool m true,rfl,rfl⟩
  .rw[By,þ ds uE];exact Rp hl b aGE z λx hx=>hlt x (by simpa using hx)
  .rw[By,þ ds uE,c];rfl
 |_=>exact he.elim
end Go.Am
end
