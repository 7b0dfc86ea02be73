/- Lemmas -/
import Derived.Scope
import Derived.Test.YtmfdhadocnndiaaGreatDoorS6
import Derived.Carry
import Derived.ReadAgain
set_option linter.all false
section
namespace Go.Am
open Go
def iz(x y:DN):Prop:=
 match x with
 | .box ver cs ow=>∃Fh FU L5,y= .box Fh FU L5/\ver<=Fh/\(Fh=ver->FU=cs/\L5=ow)
 | .Eo t o=>y= .Eo t o\/y= .undef
 |x=>y=x
def iz.refl(x:DN):iz x x:=by
 cases x with
 |box ver cs ow=>exact⟨ver,cs,ow,rfl,Ae _,λ_=>⟨rfl,rfl⟩⟩
 |Eo t o=>exact .inl rfl
 |_=>rfl
def iz.trans{x y z:DN}(h:iz x y)(k:iz y z):iz x z:=by
 cases x with
 |box ver cs ow=>obtain⟨b,m,l,rfl,h1,h2⟩:=h;obtain⟨v2,j,c,rfl,f,d⟩:=k;refine⟨v2,j,c,rfl,Bj h1 f,λe=>?_⟩;have i:b=ver:=Ab;have g:v2=b:=Ab;obtain⟨rfl,rfl⟩:=d g;exact h2 i
 |Eo t o=>
  rcases h with rfl|rfl
  .exact k
  .exact .inr k
 |_=>rw[show y=_ from h] at k;exact k
def E7(W:List Nat)(σ O:Bu):Prop:=O.length=σ.length/\∀s,s∉W->iz (σ.at s) (O.at s)
def E7.refl(W:List Nat)(σ:Bu):E7 W σ σ:=⟨rfl,λ_ _=> .refl _⟩
def E7.trans{W:List Nat}{σ O J:Bu}(h:E7 W σ O)(k:E7 W O J):E7 W σ J:=⟨k.1.trans h.1,λs hs=>(h.2 s hs).trans (k.2 s hs)⟩
def E7.mono{W W':List Nat}{σ O:Bu}(h:E7 W σ O)(hw:∀s∈W,s∈W'):E7 W' σ O:=⟨h.1,λs hs=>h.2 s λhm=>hs (hw s hm)⟩
def E7.set{W:List Nat}{σ:Bu}{s:Nat}{x:DN}(hs:s∈W):E7 W σ (σ.set s x):=
 ⟨Av,λt ht=>by rw[Bu.E6 λe=>ht (by rw[<-e];exact hs)];exact .refl _⟩
def E7.put{W:List Nat}{σ:Bu}{d:Option Nat}{x:DN}(hs:∀s∈d.toList,s∈W):E7 W σ (σ.put d x):=by
 cases d with
 |none=>exact .refl _ _
 |some d=>exact .set (hs d Av)
section
variable{C:Fo}{fid:FuncId}{ops:List Oper}{run:IT->Ah->Option IW}{σ σ':Bu}{h h':Ah}{W:List Nat}
def E7.drop(σ:Bu)(ds:List Nat):E7 W σ (σ.drop ds):=by
 refine⟨Bu.length_drop σ ds,λs _=>?_⟩;rw[Bu.Pp];cases hx:σ.at s with
 |Eo t o=>
  simp only
  split;.exact .inr rfl
  .exact .inl rfl
 |_=>exact .refl _
def cG{r:D3}{ds:List Nat}(hd:r.LD C run (σ.drop ds) h σ' h')(hw:∀s∈r.wf,s∈W):E7 W σ σ':=by obtain⟨ws,rfl,h1,_⟩:=VI hd;refine(E7.drop σ ds).trans ⟨Bu.Ij ws _,λs hs=>?_⟩;rw[Bu.FG ws _ s λp hp e=>hs (hw s (by rw[<-e];exact h1 p hp))];exact .refl _
def NQ{x:Operand}{d:Nat}{take:Bool}{r:D3}(h:I3 C σ x d take=some r):∀s∈r.wf,s=d\/(take=true/\x= .tmp s):=by
 unfold I3 at h;split at h;.cases h;simp[D3.wf]
 .cases h;simp[D3.wf]
 .split at h
  .rename_i ht;cases h;intro s hs;simp only[D3.wf,BW,An] at hs;rcases hs with hs|hs
   .revert hs;generalize b:Pc _ _=c;intro hs;unfold Pc at b;split at b;.subst b;simp at hs;exact .inr ⟨ht,by rw[hs]⟩
    .subst b;simp at hs
   .exact .inl (by simpa using hs)
  .cases hc:GX _ with
   |none=>rw[hc] at h;cases h
   |some sl=>rw[hc] at h;cases h;simp[D3.wf]
 .cases hc:GX _ with
  |none=>rw[hc] at h;cases h
  |some sl=>rw[hc] at h;cases h;simp[D3.wf]
 .cases h
def Py{x:Operand}{p:Nat×Aa}(h:CP σ x=some p):x= .tmp p.1:=by
 cases x with
 |tmp t=>
  simp only[CP] at h;cases hx:σ.at t with
  |BB v=>rw[hx] at h;cases h;rfl
  |_=>rw[hx] at h;cases h
 |_=>cases h
def YW{t:TypeId}{v:Aa}{d:Nat}{r:D3}(h:Rg C fid t v d=some r):r.wf=[d]:=by
 unfold Rg at h;split at h;.cases h
 .split at h;.cases h
  .split at h<;>(cases h;rfl)
def Lm:∀{xs:List Operand} {vs:List Aa} {fz:List (Nat×List Aa)},Ff C σ xs=some (vs,fz)->∀p∈fz,p.1∈Iv xs
 |[],vs,fz,hc=>by cases hc;simp
 |x::xs,vs,fz,hc=>by
  unfold Ff at hc;split at hc;.cases hc
  .rename_i GJ c b;have ih:=Lm b;have up:∀p∈c,p.1∈Iv (x::xs):=λp hp=>by obtain⟨y,hy,he⟩:=BU.1 (ih p hp);exact BU.2 ⟨y,IM _ hy,he⟩
   split at hc
   .rename_i s ver cs ow hs;split at hc;.cases hc
    .cases hc;intro p hp;rcases Az.1 hp with rfl|hp
     .simp[Iv]
     .exact up p hp
   .rename_i sl _ hs;cases hv:sl.Ga with
    |none=>rw[hv] at hc;cases hc
    |some u=>rw[hv] at hc;cases hc;exact up
   .cases hc
def iA{o:Oper}{r:D3}(hc:Fg C fid ops σ o=some r)(hd:r.LD C run (σ.drop r.news) h σ' h'):E7 (DQ ops o) σ σ':=by
 have Px:∀s∈o.dst.toList,s∈DQ ops o:=λs hs=>B5 _ hs
 have hwf:(∀s∈r.wf,s∈DQ ops o)->E7 (DQ ops o) σ σ':=cG hd
 have UD:r.wf=o.dst.toList->E7 (DQ ops o) σ σ':=λe=>hwf (by rw[e];exact Px)
 have Rs:∀{m x},Qr m o.dst x=some r->E7 (DQ ops o) σ σ':=λ{m x} he=>by
  obtain⟨_,_,rfl⟩:=Gf he
  exact UD rfl
 have Gn:∀{p x},Qq p o.dst x=some r->E7 (DQ ops o) σ σ':=λ{p x} he=>by
  obtain⟨args,_,rfl⟩:=Dj he
  exact UD (by simp[D3.wf])
 unfold Fg at hc
 split at hc
 .rename_i x ho
  split at hc
  .rename_i d E4
   refine hwf λs hs=>?_
   rcases NQ hc s hs with rfl|⟨ht,rfl⟩
   .exact Px s (by rw[E4];simp)
   .refine Bw _ ?_
    simp[ho,E4,ht]
  .cases hc
 .rename_i x ho
  split at hc
  .rename_i d E4
   refine hwf λs hs=>?_
   rcases NQ hc s hs with rfl|⟨ht,rfl⟩
   .exact Px s (by rw[E4];simp)
   .refine Bw _ ?_
    simp[ho]
  .cases hc
 .rename_i c x y ho
  split at hc
  .rename_i d _ E4
   refine hwf λs hs=>?_
   rcases NQ hc s hs with rfl|⟨ht,rfl⟩
   .exact Px s (by rw[E4];simp)
   .cases ht
  .rename_i d _ E4
   refine hwf λs hs=>?_
   rcases NQ hc s hs with rfl|⟨ht,rfl⟩
   .exact Px s (by rw[E4];simp)
   .cases ht
  .exact Gn hc
 .split at hc
  .rename_i d z E4 hz
   split at hc
   .split at hc
    .cases hc;exact UD (by rw[E4];rfl)
    .cases hc
   .exact UD (by rw[YW hc,E4];rfl)
  .cases hc
 .split at hc
  .rename_i d v E4 hz
   exact UD (by rw[YW hc,E4];rfl)
  .cases hc
 .split at hc
  .split at hc
   .exact Gn hc
   .cases hc
  .cases hc
 .split at hc
  .split at hc
   .split at hc
    .split at hc
     .cases hc;exact UD (by simp[D3.wf])
     .cases ha:A9 C σ _ with
      |none=>rw[ha] at hc;cases hc
      |some args=>rw[ha] at hc;cases hc;exact UD (by simp[D3.wf])
    .cases hc
   .cases hc
  .cases hc
 .split at hc
  .rename_i d E4
   unfold JO at hc
   split at hc
   .cases hc;exact UD (by rw[E4];rfl)
   .rename_i s off ver cs ow ht ha
    split at hc
    .simp only at hc
     split at hc
     .cases hc
      rw[Mb Av] at hd
      obtain⟨rfl,rfl⟩:=hd
      have hs:σ.at s= .box ver cs ow:=by
       unfold Fe at ha
       split at ha
       .rename_i hs;cases ha;exact FY hs
       .split at ha
        .rename_i hb;cases ha;exact hb
        .cases ha
       .exact absurd ha (by cases hv:DN.Ga _<;>simp)
       .cases ha
      refine⟨by simp[Bu.drop,Bu.DE],λt b=>?_⟩
      have f:t≠d:=λe=>b (Px t (by rw[E4,e];simp))
      have zK:s<σ.length:=Bu.M3 (by rw[hs];simp)
      show iz (σ.at t) (Bu.at ((σ.set s _).set d _) t)
      rw[Bu.E6 (λe=>f e.symm)]
      by_cases WD:s=t
      .subst WD
       rw[Bu.EB zK,hs]
       exact⟨_,_,_,rfl,EL _,λe=>absurd e Ab⟩
      .rw[Bu.E6 WD];exact .refl _
     .cases hc;exact UD (by rw[E4];rfl)
    .cases hc
   .split at hc
    .cases hc;exact UD (by rw[E4];rfl)
    .cases hc
   .cases hc
  .cases hc
 .rename_i t x y ho
  split at hc
  .rename_i E4
   unfold HS at hc
   split at hc
   .cases hc;exact hwf (by simp[D3.wf])
   .rename_i m g s off ver cs ow v hsz aJ ha hv
    split at hc
    .cases hc
     obtain⟨_,rfl,rfl⟩:=hd
     have hs:σ.at s= .box ver cs ow:=by
      unfold Fe at ha
      split at ha
      .rename_i hs;cases ha;exact FY hs
      .split at ha
       .rename_i hb;cases ha;exact hb
       .cases ha
      .exact absurd ha (by cases hv:DN.Ga _<;>simp)
      .cases ha
     have UM:∀(D:Option (Nat×Aa)),(∀p,D=some p->p.1∈DQ ops o/\p.1≠s)->∀X:List Aa×List Nat,E7 (DQ ops o) σ ((σ.C7 D).set s (.box (ver+1) X.1 X.2)):=by
      intro D j X
      refine⟨by cases D<;>simp[Bu.C7],λt b=>?_⟩
      have hlen:s<(σ.C7 D).length:=by
       have:s<σ.length:=Bu.M3 (by rw[hs];simp)
       cases D<;>simpa[Bu.C7] using this
      by_cases WD:s=t
      .subst WD
       rw[Bu.EB hlen,hs]
       exact⟨_,_,_,rfl,EL _,λe=>absurd e Ab⟩
      .rw[Bu.E6 WD]
       cases D with
       |none=>exact .refl _
       |some p=>
        obtain⟨i,k⟩:=j p rfl
        simp only[Bu.C7]
        rw[Bu.E6 (λe=>b (by rw[<-e];exact i))]
        exact .refl _
     refine UM _ (λp hp=>?_) (_,_)
     split at hp
     .have hy:=Py hp
      subst hy
      refine⟨Bw _ (by simp[ho]),λe=>?_⟩
      simp only[CP] at hp
      rw[e,hs] at hp
      cases hp
     .cases hp
    .cases hc
   .cases hc
  .cases hc
 .split at hc
  .rename_i E4 _ _
   cases hc;exact UD (by rw[E4];rfl)
  .rename_i E4 _ _
   cases hc;exact UD (by rw[E4];rfl)
  .exact Gn hc
 .split at hc
  .exact Gn hc
  .cases hc
 .exact Gn hc
 .split at hc
  .cases hv:Ed C σ _ with
   |none=>rw[hv] at hc;cases hc
   |some v=>rw[hv] at hc;cases hc;exact UD rfl
  .split at hc
   .cases hv:Ed C σ _ with
    |none=>rw[hv] at hc;cases hc
    |some v=>rw[hv] at hc;cases hc;exact UD rfl
   .exact Gn hc
  .exact Gn hc
  .cases hc
 .rename_i fn first captured ho
  split at hc
  .rename_i d as bs fz E4 ha hb
   cases hc
   refine hwf λs hs=>?_
   simp only[D3.wf,Az] at hs
   rcases hs with rfl|hs
   .exact Px s (by rw[E4];simp)
   .obtain⟨p,hp,rfl⟩:=A3.1 hs
    refine Bw _ ?_
    simp only[ho]
    exact Lm hb p hp
  .cases hc
 .cases hc;exact UD rfl
 .split at hc
  .split at hc
   .cases hc;exact UD rfl
   .cases hc
  .cases hc
 .split at hc
  .split at hc
   .cases hc;exact hwf (by simp[D3.wf])
   .cases hc;exact hwf (by simp[D3.wf])
   .cases hc
  .cases hc
 .split at hc
  .split at hc
   .cases hc;exact hwf (by simp[D3.wf])
   .cases hc;exact hwf (by simp[D3.wf])
   .cases hc
  .cases hc
 .split at hc
  .split at hc
   .cases hc;exact UD rfl
   .cases hc;exact UD rfl
   .cases hc
  .cases hc
 .split at hc
  .split at hc
   .exact Rs hc
   .cases hc
  .cases hc
 .split at hc
  .cases hc
  .exact Rs hc
  .cases hc
 .split at hc
  .split at hc<;>first|exact Rs hc|cases hc
  .cases hc
 .split at hc
  .rename_i E4
   exact Rs (by rw[E4];exact hc)
  .cases hc
 .split at hc
  .exact Gn hc
  .split at hc
   .split at hc
    .exact Rs hc
    .exact Gn hc
   .cases hc
  .cases hc
 .split at hc
  .rename_i off g d hf E4
   split at hc
   .cases hc;exact UD (by rw[E4];rfl)
   .cases hc;exact UD (by rw[E4];rfl)
   .exact Gn (by rw[E4];exact hc)
  .cases hc
 .split at hc
  .exact Gn hc
  .cases hc
 .split at hc
  .split at hc
   .exact Gn hc
   .cases hc
  .split at hc
   .split at hc
    .cases hc
    .exact Gn hc
   .cases hc
  .cases hc
 .split at hc
  .exact Gn hc
  .split at hc
   .exact Gn hc
   .cases hc
  .cases hc
 .exact Gn hc
 .rename_i c ho
  unfold OA at hc
  split at hc
  .split at hc
   .split at hc
    .exact Gn hc
    .exact Gn hc
    .cases hc
   .cases hc
  .rename_i hcl
   split at hc
   .rename_i t t' s x h0 h1 D6
    have UM:∀p,CP σ s=some p->p.1∈DQ ops o:=λp hp=>by
     have:=Py hp
     subst this
     refine Bw _ ?_
     simp only[ho,hcl,D6]
     simp[Iv]
    split at hc
    all_goals first
     |(cases hc;done)
     | (split at hc
        . split at hc
          . split at hc
            . split at hc
              . split at hc
                . cases hc
                  refine hwf fun q hq => ?_
                  simp only [D3.wf, An] at hq
                  rcases hq with hq | hq
                  . exact Px q hq
                  . cases Yf : CP σ s with
                    | none => rw [Yf] at hq; simp at hq
                    | some p => rw [Yf] at hq; simp at hq; rw [hq]; exact UM p Yf
                . split at hc
                  . cases hc
                    refine hwf fun q hq => ?_
                    simp only [D3.wf, An] at hq
                    rcases hq with hq | hq
                    . exact Px q hq
                    . cases Yf : CP σ s with
                      | none => rw [Yf] at hq; simp at hq
                      | some p => rw [Yf] at hq; simp at hq; rw [hq]; exact UM p Yf
                  . cases hc
                    refine hwf fun q hq => ?_
                    simp only [D3.wf, An] at hq
                    rcases hq with hq | hq
                    . exact Px q hq
                    . cases Yf : CP σ s with
                      | none => rw [Yf] at hq; simp at hq
                      | some p => rw [Yf] at hq; simp at hq; rw [hq]; exact UM p Yf
              . split at hc
                . cases hc
                  refine hwf fun q hq => Px q (by simpa [D3.wf] using hq)
                . cases hc
            . cases hc
          . cases hc
        . cases hc)
   .cases hc
  .split at hc
   .split at hc
    all_goals first
     |(cases hc;done)
     | (split at hc
        . exact Rs hc
        . cases hc)
   .cases hc
  .split at hc
   .split at hc
    .split at hc
     .exact Rs hc
     .cases hc
    .cases hc
   .cases hc
  .split at hc
   .exact Gn hc
   .cases hc
  .split at hc
   .exact Gn hc
   .cases hc
  .split at hc
   .split at hc
    .split at hc
     .exact Rs hc
     .cases hc
    .cases hc
   split at hc
   .cases ha:A9 C σ c.args.toList with
    |none=>rw[ha] at hc;cases hc
    |some args=>
     rw[ha] at hc
     simp only[BO,Bs] at hc
     split at hc<;>(cases hc;exact UD rfl)
   .cases hc
  .split at hc
   .cases hc;exact UD rfl
   .cases hc
  .cases hc
 .cases hc
end
end Go.Am
end
section
namespace Go.Am
open Go
def sQ:Fc->Exit
 | .normal=> .normal
 | .exit i=> .exit i
 | .ret=> .ret
def Mm:∀{l m:List Nat},l.Nodup->(∀x∈l,x∈m)->l.length<=m.length
 |[],_,_,_=>AZ _
 |x::l,m,hn,hs=>by have hx:=hs x Av;have h1:=Mm (l:=l) (m:=m.erase x) (BC.1 hn).2 λy hy=>(List.mem_erase_of_ne λe=>(BC.1 hn).1 (by rw[<-e];exact hy)).2 (hs y (by simp[hy]));rw[List.length_erase_of_mem hx] at h1;have:0<m.length:=List.length_pos_of_mem hx;simp;omega
def WQ{P:Program}{c:Code}{Q:Exit->Act->World->Prop}(T:Nat->Act->World->Prop)(round:∀n a w,T n a w->c.wp P (Exit.then (λa' w'=>∃m,m<n/\T m a' w') Q) a w)(n:Nat)(a:Act)(w:World)(h0:T n a w):(Code.loop c).wp P Q a w:=by
 intro b k cs;have key:∀n a w,T n a w->∃e a' w',Q e a' w'/\Arrives P (lone (b.at a (.code c:: .inLoop c::k)) cs w) b k cs e a' w':=by
  intro n;induction n using Nat.strongRecOn with
  |_ n ih=>
   intro a w i;obtain⟨e,a1,w1,hq,zU⟩:=round n a w i b (.inLoop c::k) cs;by_cases he:e= .normal;.subst he;obtain⟨m,hm,d⟩:=hq;obtain⟨j,a2,f,g,r2⟩:=ih m hm a1 w1 d;exact⟨j,a2,f,g,.of_steps (Go.Steps.trans zU (.one step_inLoop)) r2⟩
   .exact⟨e,a1,w1,by cases e<;>first|exact hq|exact absurd rfl he,.pass (x:= .inLoop c) rfl (λ_ _=> .inl he) zU⟩
 obtain⟨e,a',w',hq,zU⟩:=key n a w h0;exact⟨e,a',w',hq,.of_steps (.one step_loop) zU⟩
section
variable{C:Fo}{U0 U:Gh}{w0 w:World}{Z:Nat->Nat}{σ:Bu}{h:Ah}{a:Act}{fid:FuncId}{run:IT->Ah->Option IW}
def WR{ops:List Oper}{o:Oper}{K:Bu->IT}{R:IW}(hr:IT.step (BY C) run (Qs C fid ops σ o K) h=some R):
  ∃d,(d=σ\/∃s b,s∈EH ops o/\σ.at s= .val (.bool b)/\d=σ.set s (.MO b))/\
   ((Ho ops d o= .LA true/\IT.step (BY C) run (qX C fid ops d o K) h=some R)\/(Ho ops d o= .LA false/\IT.step (BY C) run (K (d.put o.dst .skip)) h=some R)):=by
 unfold Qs at hr;split at hr;.rename_i hg;exact⟨σ,.inl rfl,.inl ⟨hg,hr⟩⟩
 .rename_i hg;exact⟨σ,.inl rfl,.inr ⟨hg,hr⟩⟩
 .rename_i s v want hg;have ot:s∈EH ops o/\σ.at s= .val v/\∀b,Ho ops (σ.set s (.MO b)) o= .LA (b==want):=by
   unfold Ho at hg⊢;unfold EH;cases ho:o.guard with
   |none=>rw[ho] at hg;cases hg
   |some g=>
    obtain⟨j,want'⟩:=g;rw[ho] at hg;simp only at hg⊢;cases hd:(ops[j]?).bind (·.dst) with
    |none=>rw[hd] at hg;cases hg
    |some s'=>
     rw[hd] at hg;simp only at hg⊢;cases hx:σ.at s' with
     |val v'=>rw[hx] at hg;cases hg;refine⟨Av,hx,λb=>?_⟩;rw[Bu.EB (Bu.M3 (by rw[hx];simp))]
     |MO c=>rw[hx] at hg;cases hg
     |skip=>rw[hx] at hg;cases hg
     |_=>rw[hx] at hg;cases hg
  obtain⟨g1,g2,g3⟩:=ot;simp only[IT.step] at hr;split at hr
  .refine⟨σ.set s (.MO true),.inr ⟨s,true,g1,g2,rfl⟩,?_⟩;rw[g3];cases want with
   |true=>exact .inl ⟨rfl,hr⟩
   |false=>exact .inr ⟨rfl,hr⟩
  .refine⟨σ.set s (.MO false),.inr ⟨s,false,g1,g2,rfl⟩,?_⟩;rw[g3];cases want with
   |true=>exact .inr ⟨rfl,hr⟩
   |false=>exact .inl ⟨rfl,hr⟩
  .cases hr
 .cases hr
def nM(a:Act){ops:List Oper}{o:Oper}:(∀p∈Pe C σ o,∃ver ow,σ.at p.1= .box ver p.2 ow)/\((Pe C σ o).map (·.1)).Nodup/\∀p∈Pe C σ o,p.1∈DQ ops o:=by
 have no:∀l:List (Nat×List Aa),l=[]->(∀p∈l,∃ver ow,σ.at p.1= .box ver p.2 ow)/\(l.map (·.1)).Nodup/\∀p∈l,p.1∈DQ ops o:=by rintro l rfl;exact⟨(λp hp=>nomatch hp),IN,λp hp=>nomatch hp⟩
 cases ho:o.op with
 |call c=>
  cases hc:c.callee with
  |value g=>
   cases g with
   |func f=>
    cases hf:Qt f with
    |true=>
     cases hx:Ff C σ c.args.toList with
     |some q=>
      obtain⟨vs,fz⟩:=q;have e:Pe C σ o=fz:=by unfold Pe;simp only[ho,hc,hf,hx,BE]
      rw[e];obtain⟨h1,h2,_⟩:=Ll (a:=a) hx;refine⟨h1,h2,λp hp=>Bw _ ?_⟩;simp only[ho,hc,hf,BE];exact Lm hx p hp
     |none=>exact no _ (by unfold Pe;simp only[ho,hc,hf,hx,BE])
    |false=>exact no _ (by unfold Pe;simp[ho,hc,hf])
   |_=>exact no _ (by unfold Pe;simp only[ho,hc])
  |_=>exact no _ (by unfold Pe;simp only[ho,hc])
 |_=>exact no _ (by unfold Pe;simp only[ho])
def E7.DE{W:List Nat}:∀{l:List (Nat×DN)} {σ:Bu},(∀p∈l,p.1∈W)->E7 W σ (σ.DE l)
 |[],σ,_=> .refl _ _
 |(s,x)::l,σ,h=>(E7.set (h (s,x) Av)).trans (E7.DE λp hp=>h p (by simp[hp]))
def sR{ops:List Oper}{o:Oper}{W:List Nat}(hr:CF C U0 w0 U Z σ h a w)(hw:∀s∈DQ ops o,s∈W):∃b,CF C U0 w0 b Z (mr C σ o) h a w/\E7 W σ (mr C σ o):=by
 obtain⟨h1,h2,h3⟩:=nM (C:=C) (σ:=σ) a (ops:=ops) (o:=o);obtain⟨b,_,F6,_⟩:=(hr.drop ((Pe C σ o).map (·.1))).QA (fz:=Pe C σ o) (λp hp=>by obtain⟨ver,ow,hs⟩:=h1 p hp;exact⟨ver,ow,by rw[Bu.Pp,hs]⟩) h2
 refine⟨b,F6,(E7.drop σ _).trans (E7.DE λp hp=>?_)⟩;obtain⟨q,hq,rfl⟩:=A3.1 hp;exact hw _ (h3 q hq)
def iB(l:Ej C run){ops:Array Oper}{Q:Exit->Act->World->Prop}{W:List Nat}{K:Bu->IT}{R:IW}:∀(rest:List Oper) (k:Nat) (U:Gh) (Z:Nat->Nat) (σ:Bu) (h:Ah) (a:Act) (w:World),
  ops.toList.drop k=rest->(∀o∈rest,(∀s∈DQ ops.toList o,s∈W)/\∀s∈EH ops.toList o,s∈W)->IT.step (BY C) run (gL C fid ops.toList rest σ K) h=some R->CF C U0 w0 U Z σ h a w->
  (∀g f σ' h' a' w',IT.step (BY C) run (K σ') h'=some R->E7 W σ σ'->CF C U0 w0 g f σ' h' a' w'->Q .normal a' w')->wpOps C.P ops Q (List.range' k rest.length) a w
 |[],k,U,Z,σ,h,a,w,_,_,AH,hr,hQ=>by simp only[Bq,List.range'_zero,wpOps];exact hQ U Z σ h a w AH (.refl _ _) hr
 |o::rest,k,U,Z,σ,h,a,w,hk,hW,AH,hr,hQ=>by
  have ho:ops[k]?=some o:=by
   have:ops.toList[k]?=some o:=by have h0:=B8 (·[0]?) hk;simpa[Ci] using h0
   simpa using this
  have i_:ops.toList.drop (k+1)=rest:=by have h0:=B8 (List.drop 1) hk;simpa[Eb] using h0
  obtain⟨ja,nK⟩:=hW o Av;simp only[AO,List.range'_succ,wpOps,ho];obtain⟨U1,e,c⟩:=sR hr ja;obtain⟨i,j,Gq⟩:=WR AH;have Iz:CF C U0 w0 U1 Z i h a w/\E7 W σ i:=by
   rcases j with rfl|⟨s,b,g1,g2,rfl⟩
   .exact⟨e,c⟩
   .have h0:=e.fr.GO s;rw[g2] at h0;exact⟨e.Yt h0,c.trans (.set (nK s g1))⟩
  obtain⟨Iz,Ô⟩:=Iz;have next:∀g f σ' h' a' w',IT.step (BY C) run (gL C fid ops.toList rest σ' K) h'=some R->E7 W σ σ'->CF C U0 w0 g f σ' h' a' w'->wpOps C.P ops Q (List.range' (k+1) rest.length) a' w':=λg f σ' h' a' w' Tn mV F6=>iB l rest (k+1) g f σ' h' a' w' i_ (λo ho=>hW o (by simp[ho])) Tn F6 λp n d h2 a2 m KT aBv Õ=>hQ p n d h2 a2 m KT (mV.trans aBv) Õ
  rcases Gq with⟨hg,Hy⟩|⟨hg,Hy⟩
  .rw[Ad (J7 Iz hg)];unfold qX at Hy;split at Hy;.rename_i r hc;obtain⟨d,h2,hd,Rt⟩:=Vr Hy;exact .inl (sJ l hc hd Iz λg f a' w' F6=>next g f d h2 a' w' Rt (Ô.trans ((iA hc hd).mono ja)) F6)
   .cases Hy
  .rw[Ac (by rw[J7 Iz hg];simp)];exact next U1 Z _ h _ w Hy (Ô.trans (.put λs hs=>ja s (B5 _ hs))) (Iz.put λ_ _=>rfl)
def cH{W:List Nat}{d:Option Nat}{σ σ':Bu}(h:KU d σ σ')(hd:∀s∈d.toList,s∈W):E7 W σ σ':=by
 unfold KU at h;cases d with
 |none=>simp only at h;rw[h];exact .refl _ _
 |some d=>
  simp only at h;split at h;.obtain⟨b,_,rfl⟩:=h;exact .set (hd d Av)
  .rw[h];exact .refl _ _
def cI{ops:List Oper}{an:List Nat}{W:List Nat}(hW:∀o∈ops,∀s∈DQ ops o,s∈W){fl:List IX}{L:List St}{σ σf:Bu}{h hf:Ah}(hs:Steps C fid ops run an fl L σ h σf hf):E7 W σ σf:=by
 induction hs with
 |nil=>exact .refl _ _
 |cons h1 _ _ ih=>
  refine E7.trans ?_ ih;obtain⟨o,ho,⟨_,_,_,rfl,rfl⟩|⟨r,b,hg,hc,_,hd,_,ha⟩⟩:=h1;.exact .put λs hs=>hW o (Ca ho) s (B5 _ hs)
  .refine((iA hc hd).mono λs hs=>hW o (Ca ho) s hs).trans (cH ha λs hs=>?_);split at hs;.exact hW o (Ca ho) s (B5 _ hs)
   .simp at hs
def To(hm:C.P.follows .mixedOrders=true)(d:Ej C run){id:Nat}{ops:Array Oper}{draw:Bool}{Q:Exit->Act->World->Prop}{K:Bu->IT}{R:IW}(AH:IT.step (BY C) run (Ph C fid ops.toList draw σ K) h=some R)(hr:CF C U0 w0 U Z σ h a w)
  (hQ:∀c b σ' h' a' w',IT.step (BY C) run (K σ') h'=some R->E7 (ops.toList.flatMap (DQ ops.toList)++ops.toList.flatMap (EH ops.toList)) σ σ'->CF C U0 w0 c b σ' h' a' w'->Q .normal a' w'):(Code.region id ops draw).wp C.P Q a w:=by
 unfold Ph at AH;cases draw with
 |false=>refine wp_region ?_;have:=iB (W:=ops.toList.flatMap (DQ ops.toList)++ops.toList.flatMap (EH ops.toList)) d ops.toList 0 U Z σ h a w rfl (λo ho=>⟨λs hs=>B5 _ (gC.2 ⟨o,ho,hs⟩),λs hs=>Bw _ (gC.2 ⟨o,ho,hs⟩)⟩) AH hr hQ;simpa[Ž] using this
 |true=>
  simp only[BE] at AH;split at AH
  .rename_i E4;obtain⟨L,σf,hf,h1,h2,h3⟩:=OK AH;refine wp_region_any hm ?_;have ou:=h2;unfold SQ at ou;simp only[Qg,Bt,Bf] at ou;have Ö:hC (SO ops.toList) L:=by have:=VK ou.1;rw[aG6] at this;exact this
   have hlt:=h1.lt;have Qw:∀i,i<ops.size->i∈L.map (·.idx):=λi hi=>by have:=Dq.1 ou.2 i (by simpa using hi);simpa using this
   have zJ:(L.map (·.idx)).Nodup:=by rw[List.Nodup,aG6];exact Ö.imp λh=>h.1
   have hlen:L.length=ops.size:=by
    have g:(L.map (·.idx)).length<=(List.range ops.size).length:=Mm zJ (λi hi=>by obtain⟨s,hs,rfl⟩:=A3.1 hi;simpa using hlt s hs)
    have f:(List.range ops.size).length<=(L.map (·.idx)).length:=Mm List.nodup_range λi hi=>Qw i (by simpa using hi);simp at g f;omega
   have mV:=cI (W:=ops.toList.flatMap (DQ ops.toList)++ops.toList.flatMap (EH ops.toList)) (λo ho s hs=>B5 _ (gC.2 ⟨o,ho,hs⟩)) h1;refine nL d E4 (λc b a' w' F6=>hQ c b σf hf a' w' h3 mV F6) ops.size L _ U Z σ h a w.drew hlen h1 Ö ⟨Av,λi hi=>⟨λ_=>Qw i hi,λ_=>by simp[Array.getD,hi]⟩,λj hj e _=>?_⟩ hr.drew;exfalso;rcases A8 j ops.size with hlt|GR
   .simp[Array.getD,hlt] at hj
   .simp[Array.getD,Nat.not_lt.2 GR] at hj
  .cases AH
end
end Go.Am
end
section
namespace Go.Am
open Go
def NR(x y:DN):Prop:=
 (∃u,x.Ga=some u/\y= .val u)\/(∃v,x= .BB v/\y= .BB v)\/∃ver cs ow Fh L5,x= .box ver cs ow/\y= .box Fh cs L5/\∀o∈L5,o∈ow
def Bu.GZ:∀(ws:List Nat) (σ:Bu) (s:Nat),(σ.clear ws).at s=if s∈ws then .undef else σ.at s
 |[],σ,s=>by simp[Bu.clear]
 |t::ws,σ,s=>by
  rw[Bu.clear,Bu.GZ ws];by_cases h:s∈ws;.simp[h]
  .by_cases h2:s=t
   .subst h2;rw[Bu.Ti];by_cases hl:s<σ.length;.simp[hl]
    .have:σ.at s= .undef:=by simp[Bu.at,List.getD,hl]
     simp[h,hl,this]
   .rw[Bu.E6 λe=>h2 e.symm];simp[h,h2]
def Bu.ID:∀(ws:List Nat) (σ:Bu),(σ.clear ws).length=σ.length
 |[],σ=>rfl
 |t::ws,σ=>by rw[Bu.clear,Bu.ID ws];simp
section
variable{C:Fo}{U0 U:Gh}{w0 w:World}{Z:Nat->Nat}{σ:Bu}{h:Ah}{a:Act}{fid:FuncId}{run:IT->Ah->Option IW}
def NR.rel{B s:Nat}{x y:DN}{v:Value}(hx:JP U Z B w s x v)(hf:NR x y):JP U Z B w s y v:=by
 rcases hf with⟨u,hu,rfl⟩|⟨u,rfl,rfl⟩|⟨ver,cs,ow,Fh,L5,rfl,rfl,Tm⟩
 .exact LF hx hu
 .exact hx
 .obtain⟨j,i,g,us,e,f,d,c,b⟩:=hx;exact⟨j,i,g,us,e,f,d,c,λo ho=>b o (Tm o ho)⟩
def Ru{σs:Bu}{G:Bu->IT}{R:IW}{vs:List Aa}:∀{l:List (Nat×Sh)} {i:Nat} {σa:Bu},SR σs l=some (vs.drop i)->σa.length=σs.length->IT.step (BY C) run (HY vs l i σa G) h=some R->
  ∃b,IT.step (BY C) run (G b) h=some R/\b.length=σa.length/\(∀s,s∉l.map (·.1)->b.at s=σa.at s)/\(∀s,s∈l.map (·.1)->NR (σs.at s) (b.at s)/\
   ((∃Fh FU L5,b.at s= .box Fh FU L5/\Vp (σa.at s)<Fh)\/∀ver cs ow,σs.at s≠ .box ver cs ow))
 |[],i,σa,_,_,hr=>⟨σa,hr,rfl,λ_ _=>rfl,Av⟩
 |(s,c)::l,i,σa,hv,hl,hr=>by
  have hd:∃v GJ,vs.drop i=v::GJ/\vs.drop (i+1)=GJ/\vs.getD i .nilIface=v/\SR σs l=some GJ/\
    (match(generalizing:=false) c,σs.at s with| .val,x=>x.Ga| .BB,.BB v=>some v| .box n ow,.box _ cs L5=>if cs.length=n/\ow.all (L5.contains ·) then some (.agg cs) else none|_,_=>none)=some v:=by
   unfold SR at hv;simp only at hv;split at hv
   .rename_i v GJ h1 h2;simp only[Bs] at hv;refine⟨v,GJ,hv.symm,?_,?_,h2,h1⟩;.have:=B8 (List.drop 1) hv;simpa[Eb] using this.symm
    .have:=B8 (·[0]?) hv;simp only[J1,Ci,Bb] at this;simp[List.getD,<-this]
   .cases hv
  obtain⟨v,GJ,z,aBw,WI,YJ,Pz⟩:=hd;have hlt:s<σa.length:=by rw[hl];refine Bu.M3 λe=>?_;rw[e] at Pz;cases c<;>simp[DN.Ga] at Pz
  have go:∀(y:DN),NR (σs.at s) y->((∃Fh FU L5,y= .box Fh FU L5/\Vp (σa.at s)<Fh)\/∀ver cs ow,σs.at s≠ .box ver cs ow)->IT.step (BY C) run (HY vs l (i+1) (σa.set s y) G) h=some R->
    ∃b,IT.step (BY C) run (G b) h=some R/\b.length=σa.length/\(∀t,t∉((s,c)::l).map (·.1)->b.at t=σa.at t)/\(∀t,t∈((s,c)::l).map (·.1)->NR (σs.at t) (b.at t)/\
     ((∃Fh FU L5,b.at t= .box Fh FU L5/\Vp (σa.at t)<Fh)\/∀ver cs ow,σs.at t≠ .box ver cs ow)):=by
   intro y hy d F6;obtain⟨b,r,q,k,p⟩:=Ru (l:=l) (i:=i+1) (σa:=σa.set s y) (by rw[aBw];exact YJ) (by simpa using hl) F6;refine⟨b,r,by simpa using q,λt ht=>?_,λt ht=>?_⟩;.simp only[Be,Az,O2] at ht;rw[k t ht.2,Bu.E6 λe=>ht.1 e.symm]
   .by_cases hm:t∈l.map (·.1)
    .obtain⟨j,m⟩:=p t hm;refine⟨j,m.imp (λ⟨Fh,FU,L5,g,f⟩=>⟨Fh,FU,L5,g,?_⟩) id⟩;by_cases WD:s=t
     .subst WD;rw[Bu.EB hlt] at f;rcases d with⟨A,D,B,rfl,h1⟩|hn
      .simp only[Vp] at f;omega
      .rcases j with⟨u,_,e⟩|⟨u,_,e⟩|⟨ver,cs,ow,_,_,e,_⟩
       .rw[g] at e;cases e
       .rw[g] at e;cases e
       .exact absurd e (hn _ _ _)
     .rwa [Bu.E6 WD] at f
    .have WD:t=s:=by simp only[Be,Az] at ht;exact ht.resolve_right hm
     subst WD;rw[k t hm,Bu.EB hlt];exact⟨hy,d⟩
  cases c with
  |val=>
   simp only[HY,WI] at hr;have sS:(σs.at s).Ga=some v:=by simpa using Pz
   refine go (.val v) (.inl ⟨v,sS,rfl⟩) (.inr λver cs ow e=>?_) hr;rw[e] at sS;cases sS
  |BB=>
   simp only[HY,WI] at hr;cases hx:σs.at s with
   |BB u=>rw[hx] at Pz;cases Pz;exact go (.BB v) (.inr (.inl ⟨v,hx,rfl⟩)) (.inr λver cs ow e=>by rw[hx] at e;cases e) hr
   |_=>rw[hx] at Pz;cases Pz
  |box n ow=>
   simp only[HY,WI,IT.step] at hr;cases hx:σs.at s with
   |box ver cs L5=>
    rw[hx] at Pz;simp only at Pz;split at Pz
    .rename_i Gx;cases Pz;split at hr;.rename_i hn;rw[Qx hn] at hr;refine go (.box (Vp (σa.at s)+1) cs ow) (.inr (.inr ⟨ver,cs,L5,_,ow,hx,rfl,λo ho=>?_⟩)) (.inl ⟨_,_,_,rfl,Qh _⟩) hr;have:=Dq.1 Gx.2 o ho;simpa using this
     .cases hr
    .cases Pz
   |_=>rw[hx] at Pz;cases Pz
def CF.ov(hr:CF C U0 w0 U Z σ h a w){O:Bu}(hl:O.length=σ.length)(hs:∀s,O.at s= .undef\/O.at s=σ.at s\/NR (σ.at s) (O.at s)):CF C U0 w0 U Z O h a w:=by
 refine⟨hr.Dr,⟨by rw[hl];exact hr.fr.size,λs=>?_⟩,hr.Dh,hr.defers,hr.FV⟩;have h0:=hr.fr.GO s;rcases hs s with e|e|e
 .rw[e];trivial
 .rw[e];exact h0
 .exact e.rel h0
structure sT(σ0:Bu)(ws:List Nat)(l:List (Nat×Sh))(σ':Bu)(vs:List Aa):Prop where
 vec:SR σ' l=some vs
 len:σ'.length=σ0.length
 same:∀s,s∉l.map (·.1)->σ0.at s= .undef\/σ0.at s=σ'.at s
 box:∀s ver cs ow,σ0.at s= .box ver cs ow->∃Fh FU L5,σ'.at s= .box Fh FU L5
def YX{σ0 σ':Bu}{l:List (Nat×Sh)}(hk:bC σ0 σ' l=true){s:Nat}(hs:s∉l.map (·.1)):(∀ver cs ow,σ0.at s= .box ver cs ow->∃FU L5,σ'.at s= .box ver FU L5)/\(∀t o,σ0.at s= .Eo t o->∃t' o',σ'.at s= .Eo t' o'):=by
 have hc:(l.map (·.1)).contains s=false:=by
  cases hc:(l.map (·.1)).contains s with
  |false=>rfl
  |true=>exact absurd (by simpa using hc) hs
 have nN:s<σ0.length->(match σ0.at s with
   | .box ver _ _=>(l.map (·.1)).contains s||(match σ'.at s with| .box Fh _ _=>Fh==ver|_=>false)
   | .Eo _ _=>(l.map (·.1)).contains s||(match σ'.at s with| .Eo _ _=>true|_=>false)
   |_=>true)=true:=λhl=>by
  unfold bC at hk;exact Dq.1 hk s (by simpa using hl)
 constructor
 .intro ver cs ow hx;have:=nN (Bu.M3 (by rw[hx];simp));rw[hx] at this;simp only[hc,O3] at this;split at this
  .rename_i Fh FU L5 hy;have e:Fh=ver:=by simpa using this
   subst e;exact⟨FU,L5,hy⟩
  .cases this
 .intro t o hx;have:=nN (Bu.M3 (by rw[hx];simp));rw[hx] at this;simp only[hc,O3] at this;split at this;.rename_i t' o' hy;exact⟨t',o',hy⟩
  .cases this
def Nc{σ0 b σ':Bu}{ws:List Nat}{l:List (Nat×Sh)}{x:Fc}{R:IW}(R5:IT.step (BY C) run (finish σ0 l x σ') h=some R)(mV:E7 ws b σ')(hlen:b.length=σ0.length)
  (UC:∀s,s∈ws->σ0.at s= .undef) (LC:∀s,s∉l.map (·.1)->σ0.at s= .undef\/σ0.at s=b.at s) (aBx:∀s ver cs ow,σ0.at s= .box ver cs ow->∃Fh FU L5,b.at s= .box Fh FU L5):
  ∃vs,R=(x,vs,h)/\sT σ0 ws l σ' vs:=by
 unfold finish at R5;split at R5
 .rename_i hk;split at R5
  .rename_i vs hv;cases R5;refine⟨vs,rfl,hv,mV.1.trans hlen,λs hs=>?_,λs ver cs ow hb=>?_⟩
   .by_cases hw:s∈ws;.exact .inl (UC s hw)
    .rcases LC s hs with e|e
     .exact .inl e
     .right;have O7:=mV.2 s hw;obtain⟨i,g⟩:=YX hk hs;rw[e] at i g⊢;cases hx:b.at s with
      |box ver cs ow=>rw[hx] at O7;obtain⟨m,p,n,c,_,d⟩:=O7;obtain⟨k,f,j⟩:=i ver cs ow hx;rw[c] at j;cases j;obtain⟨rfl,rfl⟩:=d rfl;exact c.symm
      |Eo t o=>
       rw[hx] at O7;rcases O7 with c|c
       .exact c.symm
       .obtain⟨t',o',d⟩:=g t o hx;rw[c] at d;cases d
      |_=>rw[hx] at O7;exact(show σ'.at s=_ from O7).symm
   .have hw:s∉ws:=λhw=>by rw[UC s hw] at hb;cases hb
    obtain⟨m,p,n,c⟩:=aBx s ver cs ow hb;have O7:=mV.2 s hw;rw[c] at O7;obtain⟨v2,k,f,d,_⟩:=O7;exact⟨v2,k,f,d⟩
  .cases R5
 .cases R5
def sT.next{σ0 σ':Bu}{ws:List Nat}{l:List (Nat×Sh)}{vs:List Aa}(he:sT σ0 ws l σ' vs){G:Bu->IT}{R:IW}(hr:CF C U0 w0 U Z σ' h a w)(AH:IT.step (BY C) run (HY vs l 0 σ0 G) h=some R):
  ∃b,IT.step (BY C) run (G b) h=some R/\CF C U0 w0 U Z b h a w/\b.length=σ0.length/\(∀s,s∉l.map (·.1)->b.at s=σ0.at s)/\(∀s ver cs ow,σ0.at s= .box ver cs ow->∃Fh FU L5,b.at s= .box Fh FU L5/\(s∈l.map (·.1)->ver<Fh)):=by
 obtain⟨b,i,f,c,d⟩:=Ru (σs:=σ') (by simpa using he.vec) he.len.symm AH;refine⟨b,i,hr.ov (f.trans he.len.symm) λs=>?_,f,c,λs ver cs ow hb=>?_⟩
 .by_cases hm:s∈l.map (·.1);.exact .inr (.inr (d s hm).1)
  .rw[c s hm];rcases he.same s hm with e|e
   .exact .inl e
   .exact .inr (.inl e)
 .by_cases hm:s∈l.map (·.1)
  .obtain⟨_,q⟩:=d s hm;obtain⟨m,o,n,k⟩:=he.box s ver cs ow hb;rcases q with⟨Fh,FU,L5,j,g⟩|q
   .exact⟨Fh,FU,L5,j,λ_=>by rw[hb] at g;exact g⟩
   .exact absurd k (q _ _ _)
  .exact⟨ver,cs,ow,by rw[c s hm];exact hb,λh=>absurd h hm⟩
def Nd{σ σ0 b:Bu}{ws W:List Nat}{l:List (Nat×Sh)}(h0:σ0=σ.clear ws)(hv:qY l ws σ=true)(hl:b.length=σ0.length)(h1:∀s,s∉l.map (·.1)->b.at s=σ0.at s)
  (h2:∀s ver cs ow,σ0.at s= .box ver cs ow->∃Fh FU L5,b.at s= .box Fh FU L5/\(s∈l.map (·.1)->ver<Fh)) (hW:∀s∈ws,s∈W):E7 W σ b:=by
 refine⟨by rw[hl,h0,Bu.ID],λs hs=>?_⟩;have c:s∉ws:=λhm=>hs (hW s hm);have e0:σ0.at s=σ.at s:=by rw[h0,Bu.GZ,Ac c]
 by_cases hm:s∈l.map (·.1)
 .obtain⟨p,hp,rfl⟩:=A3.1 hm;have:=Dq.1 hv p hp;simp only[RP,Q_] at this;rcases this with this|this
  .exact absurd this c
  .cases hx:σ.at p.1 with
   |box ver cs ow=>obtain⟨d,j,f,i,g⟩:=h2 p.1 ver cs ow (by rw[e0];exact hx);have:=g hm;exact⟨d,j,f,i,Ab,λe=>Ab⟩
   |_=>rw[hx] at this;cases this
 .rw[h1 s hm,e0];exact .refl _
def Ej.le{n m:Nat}(h:Ej C (IT.run (BY C) n))(jb:m<=n):Ej C (IT.run (BY C) m):=⟨h.1,λf args h0 r h' AH=>h.2 f args h0 r h' (IT.HA jb AH)⟩
def sU(hm:C.P.follows .mixedOrders=true):∀(c:Code) (n:Nat),Ej C (IT.run (BY C) n)->∀{K:Fc->Bu->IT} {R:IW} {σ:Bu} {h:Ah} {a:Act} {w:World} {U:Gh} {Z:Nat->Nat} {Q:Exit->Act->World->Prop},
  IT.step (BY C) (IT.run (BY C) n) (Fi C fid c σ K) h=some R->CF C U0 w0 U Z σ h a w->
  (∀x f d σ' h' a' w',IT.step (BY C) (IT.run (BY C) n) (K x σ') h'=some R->E7 (CH c++BQ c) σ σ'->CF C U0 w0 f d σ' h' a' w'->Q (sQ x) a' w')->c.wp C.P Q a w:=by
 intro c;induction c with
 |skip=>intro n o K R σ h a w U Z Q AH hr hK;exact wp_skip (hK .normal U Z σ h a w AH (.refl _ _) hr)
 |region id ops draw=>
  intro n o K R σ h a w U Z Q AH hr hK;simp only[Fi] at AH;split at AH;.exact To hm o AH hr λf d σ' h' a' w' h1 h2 h3=>hK .normal f d σ' h' a' w' h1 h2 h3
  .rename_i l hl;unfold Wy at AH;simp only at AH;split at AH
   .rename_i hv;simp only[IT.step] at AH;split at AH
    .rename_i x vs h1 Nf;refine To hm o Nf hr λf d σ' h' a' w' u q p=>?_;obtain⟨GJ,e,he⟩:=Nc (h:=h') u q (by rw[Bu.ID]) (λs hs=>by rw[Bu.GZ,Ad hs]) (λs _=>by rw[Bu.GZ];split<;>simp) (λs ver cs ow hb=>by
      rw[Bu.GZ] at hb;split at hb;.cases hb
      .exact⟨ver,cs,ow,hb⟩)
     cases e;obtain⟨j,D,B,I,G,F⟩:=he.next p AH;exact hK .normal f d j h1 a' w' D (Nd rfl hv I G F (λs hs=>hs)) B
    .cases AH
   .cases AH
 |seq x y A z=>
  intro n o K R σ h a w U Z Q AH hr hK;simp only[Fi] at AH;refine wp_seq (A n o AH hr λe f d σ' h' a' w' h1 h2 h3=>?_);have up:∀g,E7 (CH x++BQ x) σ g->E7 (CH (.seq x y)++BQ (.seq x y)) σ g:=λg ho=>ho.mono λs hs=>by simp only[CH,BQ,An] at hs⊢;rcases hs with hs|hs<;>simp[hs]
  cases e with
  |normal=>refine z n o h1 h3 λT U2 Z2 g Yd a2 V u q p=>hK T U2 Z2 g Yd a2 V u ((up _ h2).trans (q.mono λs hs=>?_)) p;simp only[CH,BQ,An] at hs⊢;rcases hs with hs|hs<;>simp[hs]
  |exit i=>exact hK (.exit i) f d σ' h' a' w' h1 (up _ h2) h3
  |ret=>exact hK .ret f d σ' h' a' w' h1 (up _ h2) h3
 |cond c x y A z=>
  intro n o K R σ h a w U Z Q AH hr hK;have L:∀{k g:Bu},E7 (CH x++BQ x) k g->E7 (CH (.cond c x y)++BQ (.cond c x y)) k g:=λ{k g} ho=>ho.mono λs hs=>by cases c<;>simp only[CH,BQ,An,Az] at hs⊢<;>rcases hs with hs|hs<;>simp[hs]
  have J:∀{k g:Bu},E7 (CH y++BQ y) k g->E7 (CH (.cond c x y)++BQ (.cond c x y)) k g:=λ{k g} ho=>ho.mono λs hs=>by cases c<;>simp only[CH,BQ,An,Az] at hs⊢<;>rcases hs with hs|hs<;>simp[hs]
  simp only[Fi] at AH;split at AH;.rename_i hc;obtain⟨s,h1,_⟩:=Fj hr hc;exact wp_cond_true h1 (A n o AH hr λe f d σ' h' a' w' u q p=>hK e f d σ' h' a' w' u (L q) p)
  .rename_i hc;obtain⟨s,h1,_⟩:=Fj hr hc;exact wp_cond_false h1 (z n o AH hr λe f d σ' h' a' w' u q p=>hK e f d σ' h' a' w' u (J q) p)
  .rename_i s v hc;have gx:σ.at s= .val v:=FY hc;have h0:=hr.fr.GO s;rw[gx] at h0;have E:∀{N:Fc->Bu->IT} {R':IW} {Q':Exit->Act->World->Prop},IT.step (BY C) (IT.run (BY C) n) (.AM v (Fi C fid x (σ.set s (.MO true)) N) (Fi C fid y (σ.set s (.MO false)) N)) h=some R'->
     (∀e f d σ' h' a' w',IT.step (BY C) (IT.run (BY C) n) (N e σ') h'=some R'->E7 (CH (.cond (.tmp s) x y)++BQ (.cond (.tmp s) x y)) σ σ'->CF C U0 w0 f d σ' h' a' w'->Q' (sQ e) a' w')->(Code.cond (.tmp s) x y).wp C.P Q' a w:=by
    intro N R' Q' Tn M;have nE:∀b:Bool,E7 (CH (.cond (.tmp s) x y)++BQ (.cond (.tmp s) x y)) σ (σ.set s (.MO b)):=λb=> .set (by simp[BQ]);simp only[IT.step] at Tn;split at Tn;.have hv:a.eval (.tmp s)= .bool true:=h0;exact wp_cond_true hv (A n o Tn (hr.Yt h0) λe f d σ' h' a' w' u q p=>M e f d σ' h' a' w' u ((nE true).trans (L q)) p)
    .have hv:a.eval (.tmp s)= .bool false:=h0;exact wp_cond_false hv (z n o Tn (hr.Yt h0) λe f d σ' h' a' w' u q p=>M e f d σ' h' a' w' u ((nE false).trans (J q)) p)
    .cases Tn
   split at AH;.exact E AH hK
   .rename_i l hl;unfold Wy at AH;simp only at AH;split at AH
    .rename_i hv;simp only[IT.step] at AH;split at AH
     .rename_i e vs h1 Nf;refine E Nf λT f d σ' h' a' w' u q p=>?_;obtain⟨GJ,eq,he⟩:=Nc (h:=h') (ws:=s::(CH x++CH y++BQ x++BQ y)) u (q.mono λt ht=>by
        simp only[CH,BQ,An,Az] at ht⊢;rcases ht with(ht|ht)|ht|ht|ht<;>simp[ht]) (by rw[Bu.ID]) (λt ht=>by rw[Bu.GZ,Ad ht]) (λt _=>by rw[Bu.GZ];split<;>simp) (λt ver cs ow hb=>by
       rw[Bu.GZ] at hb;split at hb;.cases hb
       .exact⟨ver,cs,ow,hb⟩)
      cases eq;obtain⟨j,D,B,I,G,F⟩:=he.next p AH;exact hK e f d j h1 a' w' D (Nd rfl hv I G F (λt ht=>by simp only[CH,BQ,An,Az] at ht⊢;rcases ht with ht|((ht|ht)|ht)|ht<;>simp[ht])) B
     .cases AH
    .cases AH
  .cases AH
 |block id b ih=>
  intro n o K R σ h a w U Z Q AH hr hK;simp only[Fi] at AH;refine wp_block (ih n o AH hr λe f d σ' h' a' w' h1 h2 h3=>?_);cases e with
  |normal=>exact hK .normal f d σ' h' a' w' h1 h2 h3
  |exit i=>
   simp only at h1;show if i=id then Q .normal a' w' else Q (.exit i) a' w'
   by_cases hi:i=id;.rw[Ad hi] at h1⊢;exact hK .normal f d σ' h' a' w' h1 h2 h3
   .rw[Ac hi] at h1⊢;exact hK (.exit i) f d σ' h' a' w' h1 h2 h3
  |ret=>exact hK .ret f d σ' h' a' w' h1 h2 h3
 |loop b ih=>
  intro n o K R σ h a w U Z Q AH hr hK;simp only[Fi] at AH;generalize hl:C.mm fid ((FE b).getD 0)=l at AH;generalize aHE:(FE b).getD 0=key at AH;generalize h0:σ.clear (CH b++BQ b)=σ0 at AH;split at AH
  .rename_i hv;split at AH;.cases AH
   .rename_i init Ø;have Ù:σ0.length=σ.length:=by rw[<-h0,Bu.ID]
    have UC:∀s,s∈CH b++BQ b->σ0.at s= .undef:=λs hs=>by rw[<-h0,Bu.GZ,Ad hs]
    refine WQ (λm a w=>∃U Z k h vs,CF C U0 w0 U Z k h a w/\sT σ0 (CH b++BQ b) l k vs/\m<=n+1/\
     IT.run (BY C) m (.loop key vs (λvs=>HY vs l 0 σ0 λj=>Fi C fid b j λx σ'=>finish σ0 l x σ') λx vs=>HY vs l 0 σ0 λσ'=>gr K x σ') h=some R) ?_ (n+1) a w
     ⟨U,Z,σ,h,init,hr,⟨Ø,Ù.symm,λs _=>by rw[<-h0,Bu.GZ];split<;>simp,λs ver cs ow hb=>by
      rw[<-h0,Bu.GZ] at hb;split at hb;.cases hb
      .exact⟨ver,cs,ow,hb⟩⟩,Ae _,AH⟩
    rintro m a1 w1 ⟨U1,Z1,k,h1,vs,Iz,O,jb,Hy⟩;cases m with
    |zero=>simp[IT.run] at Hy
    |succ m=>
     simp only[IT.run,IT.step] at Hy;have body:∀{x:Fc} {GJ:List Aa} {h':Ah},IT.step (BY C) (IT.run (BY C) m) (HY vs l 0 σ0 λj=>Fi C fid b j λx σ'=>finish σ0 l x σ') h1=some (x,GJ,h')->∀{Q':Exit->Act->World->Prop},
       (∀f d σ' a' w',CF C U0 w0 f d σ' h' a' w'->sT σ0 (CH b++BQ b) l σ' GJ->Q' (sQ x) a' w')->b.wp C.P Q' a1 w1:=by
      intro x GJ h' hb Q' S;obtain⟨j,D,B,I,G,F⟩:=O.next Iz hb;refine ih m (o.le Ab) D B λy f d σ' h2 a' w' u q p=>?_;obtain⟨X,eq,he⟩:=Nc u q I UC (λs hs=> .inr (G s hs).symm) λs ver cs ow hb=>by obtain⟨Y,c1,o1,e1,_⟩:=F s ver cs ow hb;exact⟨Y,c1,o1,e1⟩
      cases eq;exact S f d σ' a' w' p he
     split at Hy;.rename_i GJ h' hb;exact body hb λf d σ' a' w' F6 YY=>⟨m,Qh m,f,d,σ',h',GJ,F6,YY,Ab,Hy⟩
     .rename_i x GJ h' hne hb;refine body hb λf d σ' a' w' F6 YY=>?_;have Rt:=IT.I4 (λt h r=>IT.HA (fn:=BY C) (Ab:m<=n)) _ _ _ Hy;obtain⟨j,D,B,I,G,F⟩:=YY.next F6 Rt;have ho:=Nd h0.symm hv I G F λs hs=>hs;cases x with
      |normal=>exact absurd rfl hne
      |exit i=>exact hK _ f d j h' a' w' D ho B
      |ret=>exact hK _ f d j h' a' w' D ho B
     .cases Hy
  .cases AH
 |exit id=>intro n o K R σ h a w U Z Q AH hr hK;exact wp_exit (hK (.exit id) U Z σ h a w AH (.refl _ _) hr)
 |ret=>intro n o K R σ h a w U Z Q AH hr hK;exact wp_ret (hK .ret U Z σ h a w AH (.refl _ _) hr)
 |label l=>intro n o K R σ h a w U Z Q AH hr hK;exact wp_label (hK .normal U Z σ h a w AH (.refl _ _) hr)
 |scope b ih=>
  intro n o K R σ h a w U Z Q AH hr hK;simp only[Fi] at AH;refine wp_scope_straight (ih n o AH hr λe f d σ' h' a' w' h1 h2 h3=>?_);cases e with
  |normal=>exact hK .normal f d σ' h' a' w' h1 h2 h3
  |exit i=>exact hK (.exit i) f d σ' h' a' w' h1 h2 h3
  |ret=>exact hK .ret f d σ' h' a' w' h1 h2 h3
 |_=>intros n o K R σ h a w U Z Q AH hr hK;cases AH
end
end Go.Am
end
section
namespace Go.Am
open Go
section
variable{C:Fo}{U0 U:Gh}{w0 w:World}{Z:Nat->Nat}{σ:Bu}{h:Ah}{a:Act}{fid:FuncId}{run:IT->Ah->Option IW}
def Ha(tmps:Array Value):ResultVar->Sem Value
 | .tmp t=>pure (tmps.getD t undef)
 | .cell a t=>do loadVar t (<-asAddr (tmps.getD a undef))
def PC{P:Program}{t:TypeId}{b o:Nat}{v:Value}(h:(Instr.loadAt t (.pointer (some ⟨b,o,none⟩))).run P w= .ok v w):(loadVar t ⟨b,o,none⟩).run P w= .ok v w:=by simpa[Instr.loadAt,Instr.sureAddr] using h
def Rv{K:List Aa->IT}{R:IW}:∀{rs:List ResultVar} {Dh:List Aa},IT.step (BY C) run (Fx C σ rs Dh K) h=some R->CF C U0 w0 U Z σ h a w->
  ∃vs us,(rs.mapM (Ha a.tmps)).run C.P w= .ok us w/\AQ U vs us/\IT.step (BY C) run (K (Dh.reverse++vs)) h=some R
 |[],Dh,AH,hr=>⟨[],[],Av,rfl,by simpa[Fx] using AH⟩
 |d::rs,Dh,AH,hr=>by
  have one:∀(v:Aa) (u:Value),(Ha a.tmps d).run C.P w= .ok u w->Bv U v u->IT.step (BY C) run (Fx C σ rs (v::Dh) K) h=some R->
    ∃vs us,((d::rs).mapM (Ha a.tmps)).run C.P w= .ok us w/\AQ U vs us/\IT.step (BY C) run (K (Dh.reverse++vs)) h=some R:=by
   intro v u h1 h2 h3;obtain⟨vs,us,x,q,m⟩:=Rv h3 hr;refine⟨v::vs,u::us,?_,⟨u,us,rfl,h2,q⟩,by simpa using m⟩;simp[List.mapM_cons,h1,x]
  cases d with
  |tmp t=>
   simp only[Fx] at AH;split at AH;.rename_i v hv;exact one v _ (by simp[Ha]) (LF (hr.fr.GO t) hv) AH
   .cases AH
  |cell p t=>
   have oz:∀(b o:Nat) (v:Aa),a.tmps.getD p undef= .pointer (some ⟨b,o,none⟩)->(∃u,(Instr.loadAt t (.pointer (some ⟨b,o,none⟩))).run C.P w= .ok u w/\Bv U v u)->IT.step (BY C) run (Fx C σ rs (v::Dh) K) h=some R->
     ∃vs us,((ResultVar.cell p t::rs).mapM (Ha a.tmps)).run C.P w= .ok us w/\AQ U vs us/\IT.step (BY C) run (K (Dh.reverse++vs)) h=some R:=by
    intro b o v hp ⟨u,h1,h2⟩ h3;refine one v u ?_ h2 h3;simp only[Ha,hp,asAddr,Sem.run_bind,Sem.run_pure,Result.andThen_ok];exact PC h1
   simp only[Fx] at AH;split at AH
   .rename_i s off ver cs ow ht ha;split at AH;.rename_i hlt;obtain⟨hs,hx⟩:=Jy hr ha;obtain⟨u,g,f,_⟩:=Jm hr ht hs (r:=cs.getD off .nilIface) (off:=off) (by simp[Ez,List.getD,Ak hlt]);exact oz _ _ _ hx ⟨u,g,f⟩ AH
    .cases AH
   .rename_i n s off ver cs ow ht ha;split at AH;.rename_i D0;obtain⟨hs,hx⟩:=Jy hr ha;obtain⟨u,g,f,_⟩:=Jm hr ht hs (r:= .agg ((cs.drop off).take n)) (off:=off) (by simp[Ez,D0]);exact oz _ _ _ hx ⟨u,g,f⟩ AH
    .cases AH
   .rename_i n p' ht ha;simp only[IT.step] at AH;split at AH
    .rename_i v hv;have gT:=OH hr ha;unfold Bk at hv;split at hv;.rename_i cs;obtain⟨b,k,YL,hm⟩:=gT;obtain⟨us,i,c⟩:=hm.values;exact oz b k v YL (GY (w:=w) ht i (λj u hj=>(hr.Dr.GQ _ _ _ (c j u hj)).1) (λu hu=>by obtain⟨j,hj⟩:=Cq hu;exact(hr.Dr.GQ _ _ _ (c j u hj)).2.1) hv) AH
     .rename_i id off;obtain⟨b,hb,YL⟩:=gT;split at hv
      .rename_i cs hcs;obtain⟨us,e,fr,i,pf,c,l⟩:=hr.Dr.cells id cs hcs b hb;refine oz b off v YL (GY (w:=w) (b:=b) (o:=off) ht (c.drop off) (λj u hj=>?_) (λu hu=>l u (Bc hu)) (M7 hv)) AH;rw[cell_of_row w _ _ us e fr i];rw[Ci,B2] at hj;split at hj;.simpa using hj
       .cases hj
      .cases hv
     .cases hv
    .cases AH
   .cases AH
def CF.HJ(hr:CF C U0 w0 U Z σ h a w){p:Aa}{off:Nat}{u:Value}{h':Ah}(hp:Bv U p u)(hf:Kk h off p=some h'):∃r,CF C U0 w0 r Z σ h' a w:=by
 unfold Kk at hf;split at hf;.cases hf;exact⟨U,hr⟩
 .rename_i id m;generalize m+off=o at hf;obtain⟨b,hb,_⟩:=hp;split at hf
  .rename_i cs hcs;split at hf
   .rename_i v hv;obtain⟨us,e,fr,c,pf,l,t⟩:=hr.Dr.cells id cs hcs b hb;obtain⟨x,hx,ny⟩:=l.get hv;cases hq:Lf h v with
    |none=>rw[hq] at hf;cases hf
    |some q=>
     obtain⟨h1,v'⟩:=q;rw[hq] at hf;simp only[BZ] at hf;split at hf
     .rename_i FU Ú;cases hf;obtain⟨U1,D0,Iz,rM⟩:=hr.SC ny hq;have O8:=D0.mu _ _ hb;obtain⟨zl,A,n,g,j,r2,k⟩:=Iz.Dr.cells id FU Ú b O8;rw[c] at g;cases g;have nE:AQ U1 (FU.set o v') (us.toList.take (FU.set o v').length):=by
       rw[BJ];refine AQ.FX (by simp[r2.length]) λi y z hy hz=>?_;by_cases hi:o=i
       .subst hi;by_cases hlt:o<FU.length
        .rw[AJ hlt] at hy;cases hy;have f:x=z:=by rw[Ch hlt] at hz;have aBz:o<cs.length:=(Ai.1 hv).1;rw[Ch aBz] at hx;rw[hx] at hz;exact DC hz
         rw[<-f];exact rM
        .rw[CZ (by simpa using hlt)] at hy;cases hy
       .rw[Ao hi] at hy;obtain⟨s,UG,d⟩:=r2.get hy;rw[hz] at UG;cases UG;exact d
      obtain⟨VF,Pw⟩:=LB Iz.Dr Ú O8 c us (FU.set o v') rfl j nE (by rw[BJ];exact k);rw[setRow_self w b us e fr c] at VF Pw;exact⟨U1,Iz.world VF Pw⟩
     .cases hf
   .cases hf
  .cases hf
 .cases hf
def iC{t:IT}{R:IW}:∀{l:List (Nat×Nat)} {U:Gh} {h:Ah},IT.step (BY C) run (gO C σ l t) h=some R->CF C U0 w0 U Z σ h a w->∃b h',CF C U0 w0 b Z σ h' a w/\IT.step (BY C) run t h'=some R
 |[],U,h,AH,hr=>⟨U,h,hr,AH⟩
 |(s,off)::l,U,h,AH,hr=>by
  simp only[gO] at AH;split at AH
  .rename_i p hp;simp only[IT.step] at AH;split at AH;.rename_i h1 hf;obtain⟨U1,Iz⟩:=hr.HJ (LF (hr.fr.GO s) hp) hf;exact iC AH Iz
   .cases AH
  .cases AH
def Tp{R:IW}:∀{vs Dh:List Aa} {U:Gh} {h:Ah} {us qE:List Value},IT.step (BY C) run (M1 vs Dh Ri) h=some R->CF C U0 w0 U Z σ h a w->AQ U vs us->AQ U Dh.reverse qE->
  ∃c h' GJ,CF C U0 w0 c Z σ h' a w/\AQ c GJ (qE++us)/\IT.step (BY C) run (Ri GJ) h'=some R
 |[],Dh,U,h,us,qE,AH,hr,h1,h2=>by rw[show us=[] from h1,Bi];exact⟨U,h,Dh.reverse,hr,h2,AH⟩
 |v::vs,Dh,U,h,us,qE,AH,hr,h1,h2=>by
  obtain⟨u,C4,rfl,hv,h1⟩:=h1;simp only[M1,IT.step] at AH;split at AH
  .rename_i h3 v' hf;obtain⟨U1,D0,Iz,rM⟩:=hr.SC hv hf;have i:AQ U1 (v'::Dh).reverse (qE++[u]):=by rw[GD];exact(AQ.mono D0 _ _ h2).append ⟨u,[],rfl,rM,rfl⟩
   obtain⟨j,g,b,f,e,d⟩:=Tp AH Iz (AQ.mono D0 _ _ h1) i;exact⟨j,g,b,f,by rwa [AA] at e,d⟩
  .cases AH
def iD{R:IW}{vs:List Aa}{us:List Value}{U:Gh}{h:Ah}(AH:IT.step (BY C) run (Ri vs) h=some R)(hv:AQ U vs us):
  ∃r,R=(.ret,[r],h)/\Bv U r (if c:us.toArray.size=1 then us.toArray[0] else .tuple us.toArray):=by
 unfold Ri at AH;split at AH;.rename_i v;obtain⟨u,C4,rfl,b,hnil⟩:=hv;rw[show C4=[] from hnil];simp only[IT.step] at AH;cases AH;exact⟨v,rfl,by simpa using b⟩
 .rename_i hne;simp only[IT.step] at AH;cases AH;have hlen:us.length≠1:=λe=>by have:=hv.length;rw[e] at this;obtain⟨v,hv⟩:=yv.1 this.symm;exact hne v hv
  refine⟨_,rfl,?_⟩;rw[dif_neg (by simpa using hlen)];exact⟨us.toArray,rfl,by simpa using hv⟩
def Rw{fn:Func}{tmps:Array Value}{us:List Value}(h:(fn.results.toList.mapM (Ha tmps)).run C.P w= .ok us w):(results fn tmps).run C.P w= .ok (if b:us.toArray.size=1 then us.toArray[0] else .tuple us.toArray) w:=by
 have e:fn.results.mapM (Ha tmps)=(do let l<-fn.results.toList.mapM (Ha tmps);pure l.toArray:Sem (Array Value)):=by rw[Array.mapM_eq_mapM_toList];simp
 have c:results fn tmps=(do let vs<-fn.results.mapM (Ha tmps);pure (if b:vs.size=1 then vs[0] else .tuple vs):Sem Value):=by unfold results;congr 2
 rw[c,e];simp only[Sem.run_bind,h,Result.andThen_ok,Sem.run_pure]
def zV{fn:Func}{R:IW}(AH:IT.step (BY C) run (Ys C fid fn σ) h=some R)(hr:CF C U0 w0 U Z σ h a w):
  ∃r h' v d,R=(.ret,[r],h')/\(results fn a.tmps).run C.P w= .ok v w/\Gm d h' w/\Kf U0 w0 d w/\Bv d r v/\(C.HX fid=true->∃s c,HB d w0.heap.size w s c v r):=by
 unfold Ys at AH;split at AH;.cases AH
 .rename_i hown;obtain⟨U1,h1,Iz,Hy⟩:=iC AH hr;by_cases ho:C.HX fid=true
  .have f:∃t x,fn.results.toList=[.tmp t]/\σ.at t= .BB x:=by
    have:NM σ fn.results.toList=true:=by
     cases hq:NM σ fn.results.toList with
     |true=>rfl
     |false=>exact absurd (by simp[ho,hq]) hown
    unfold NM at this;split at this
    .rename_i t IS;split at this;.rename_i x hx;exact⟨t,x,IS,hx⟩
     .cases this
    .cases this
   obtain⟨t,x,zn,hx⟩:=f;have h0:=Iz.fr.GO t;rw[hx] at h0;have zW:=Rw (C:=C) (w:=w) (fn:=fn) (tmps:=a.tmps) (us:=[a.tmps.getD t undef]) (by rw[zn];simp[Ha]);rw[zn] at Hy;simp only[Fx,hx,DN.Ga,GD,Qg,Bt] at Hy;have Û:Lf h1 x=some (h1,x):=by rcases h0.2 with(rfl|⟨_,rfl⟩)|⟨_,_,_,_,_,_,_,rfl,_⟩<;>rfl
   have hR:R=(.ret,[x],h1):=by
    split at Hy;.simp only[M1,IT.step,Û,GD,Qg,Bt,Ri] at Hy;cases Hy;rfl
    .simp only[IT.step,Ri] at Hy;cases Hy;rfl
   exact⟨x,h1,_,U1,hR,by simpa using zW,Iz.Dr,Iz.Dh,h0.1,λ_=>⟨t,none,h0.2⟩⟩
  .obtain⟨vs,us,m,j,Rt⟩:=Rv Hy Iz;simp only[Qg,Bt] at Rt;have zW:=Rw (C:=C) m;split at Rt;.obtain⟨n,h2,k,i,g,l⟩:=Tp Rt Iz j (qE:=[]) rfl;rw[Bt] at g;obtain⟨r,hR,b⟩:=iD l g;exact⟨r,h2,_,n,hR,zW,i.Dr,i.Dh,b,λe=>absurd e ho⟩
   .obtain⟨r,hR,b⟩:=iD Rt j;exact⟨r,h1,_,U1,hR,zW,Iz.Dr,Iz.Dh,b,λe=>absurd e ho⟩
def CF.start{U:Gh}{h:Ah}{w:World}(hi:Gm U h w)(hg:∀g cs,C.FV g=some cs->Cz U cs g 0){args:List Aa}{cargs:Array Value}(ha:AQ U args cargs.toList)(n:Nat)(Z:Nat->Nat):
  CF C U w U Z (args.map .val++List.replicate (n-args.length) .undef) h {tmps:=cargs++Array.replicate (n-cargs.size) undef,defers:=[]} w:=by
 have hlen:cargs.size=args.length:=by have:=ha.length;simpa using this
 refine⟨hi,⟨by simp[hlen],λs=>?_⟩,Kf.refl U w,rfl,hg⟩;by_cases hs:s<args.length
 .have h1:Bu.at (args.map .val++List.replicate (n-args.length) .undef) s= .val args[s]:=by simp[Bu.at,List.getD,Al,hs]
  obtain⟨u,hu,hr⟩:=ha.get (Ak hs);have h2:(cargs++Array.replicate (n-cargs.size) undef).getD s undef=u:=by
   rw[F3,Array.getElem?_append_left Ab];have:cargs[s]?=some u:=by simpa using hu
   rw[this];rfl
  rw[h1,h2];exact hr
 .have h1:Bu.at (args.map .val++List.replicate (n-args.length) .undef) s= .undef:=by have hm:(args.map DN.val).length=args.length:=Av;simp only[Bu.at,List.getD];rw[BD Ab,List.getElem?_replicate];split<;>rfl
  rw[h1];trivial
def WS(C:Fo):Prop:=
 (∀f,C.MZ f=true->rT C f)/\∀(f:FuncId) (p:List Aa->IT),C.mn f=some p->∀n,Ej C (IT.run (BY C) n)->∀(args:List Aa) (h:Ah) (r:Aa) (h':Ah),IT.step (BY C) (IT.run (BY C) n) (p args) h=some (.ret,[r],h')->
  (∃fn c,C.P.funcs[DX f]?=some fn/\(fn.name== "runtime.NumGoroutine")=false/\fn.body=some c)/\
  ∀(U:Gh) (w:World) (cargs:Array Value),Gm U h w->(∀g cs,C.FV g=some cs->Cz U cs g 0)->AQ U args cargs.toList->
   Calls C.P (DX f) cargs w λe w'=>match e with
    | .returned v=>∃b,Gm b h' w'/\Kf U w b w'/\Bv b r v/\(C.HX f=true->∃s c,HB b w.heap.size w' s c v r)
    |_=>False
def YZ(hm:C.P.follows .mixedOrders=true)(zX:∀g cs,C.FV g=some cs->cs.all Aa.KK=true)(jd:WS C):∀n,Ej C (IT.run (BY C) n)
 |0=>⟨⟨zX,jd.1⟩,λf args h r h' AH=>by simp[IT.run] at AH⟩
 |n+1=>⟨⟨zX,jd.1⟩,λf args h r h' AH=>by
  have ih:=YZ hm zX jd n;simp only[IT.run] at AH;unfold BY at AH;split at AH;.rename_i p hp;exact jd.2 f p hp n ih args h r h' AH
  unfold W_ at AH;split at AH
  .rename_i fn hf;split at AH;.cases AH
   .rename_i hname;unfold qZ at AH;split at AH;.cases AH
    .rename_i c hb;refine⟨⟨fn,c,hf,by simpa using hname,hb⟩,λU w cargs hi hg ha=>calls_of_wp hf hb ?_⟩;refine sU (C:=C) (fid:=f) hm c n ih AH (CF.start hi hg ha fn.ntmps (λ_=>0)) λx u t σ' h1 a' w' d _ j=>?_;have HT:IT.step (BY C) (IT.run (BY C) n) (Ys C f fn σ') h1=some (.ret,[r],h')->a'.defers=[]/\∃v,(results fn a'.tmps).run C.P w'= .ok v w'/\∃b,Gm b h' w'/\Kf U w b w'/\Bv b r v/\(C.HX f=true->∃s c,HB b w.heap.size w' s c v r):=λaBB=>by obtain⟨r',h2,v,b,e,q,o,m,l,k⟩:=zV aBB j;cases e;exact⟨j.defers,v,q,b,o,m,l,k⟩
     cases x with
     |normal=>exact HT d
     |ret=>exact HT d
     |exit i=>cases d
  .cases AH⟩
end
def Ev.calls{C:Fo}(hm:C.P.follows .mixedOrders=true)(zX:∀g cs,C.FV g=some cs->cs.all Aa.KK=true)(jd:WS C){f:FuncId}{args:List Aa}{h:Ah}{Q:Aa->Ah->Prop}(Ng:Ev C f args h Q){U:Gh}{w:World}{cargs:Array Value}(hi:Gm U h w)(hg:∀g cs,C.FV g=some cs->Cz U cs g 0)(ha:AQ U args cargs.toList):
  Calls C.P (DX f) cargs w λe w'=>match e with
   | .returned v=>∃r h' b,Q r h'/\Gm b h' w'/\Kf U w b w'/\Bv b r v
   |_=>False:=by
 obtain⟨n,x,vs,h',AH,rfl,r,rfl,hQ⟩:=Ng;refine(((YZ hm zX jd n).2 f args h r h' AH).2 U w cargs hi hg ha).mono λe w' he=>?_;cases e with
 |returned v=>obtain⟨b,i,d,c,_⟩:=he;exact⟨r,h',b,hQ,i,d,c⟩
 |_=>exact he
end Go.Am
end
section
namespace Go.Am
open Go
inductive Ty where
 |bool
 |int (k:IntKind)
 |str
 |sl (e:Ty)
 |st (fs:List Ty)
 deriving Inhabited
mutual
def Ty.size:Ty->Nat
 | .bool| .int _| .str| .sl _=>1
 | .st fs=>Ty.KV fs
def Ty.KV:List Ty->Nat
 |[]=>0
 |t::ts=>Ty.size t+Ty.KV ts
end
mutual
def OL(P:Program):Ty->TypeId->Bool
 | .bool,t=>match P.underlying t with|some .bool=>true|_=>false
 | .int k,t=>match P.underlying t with|some (.int k')=>decide (k'=k)|_=>false
 | .str,t=>match P.underlying t with|some .string=>true|_=>false
 | .sl e,t=>match P.underlying t with
  |some (.slice b)=>P.cellsOf b==Ty.size e&&decide (0<Ty.size e)&&OL P e b
  |_=>false
 | .st fs,t=>match P.underlying t with
  |some (.struct fields)=>P.cellsOf t==Ty.KV fs&&Nh P fs fields.toList 0
  |_=>false
def Nh(P:Program):List Ty->List Field->Nat->Bool
 |[],[],_=>true
 |ty::tys,f::fs,off=>f.offset==off&&P.cellsOf f.type==Ty.size ty&&OL P ty f.type&&Nh P tys fs (off+Ty.size ty)
 |_,_,_=>false
end
mutual
def WT:Ty->List Aa->Prop
 | .bool,l=>∃b,l=[.bool b]
 | .int k,l=>∃n,l=[.int k n]/\(Lit.int k n).wf=true
 | .str,l=>∃s:Au,l=[.str s]/\s.length<=maxLen
 | .sl e,l=>l=[.slnil]\/∃Af:List (List Aa),l=[.sl (Ty.size e) Af]/\Af.length<=maxLen/\∀r∈Af,WT e r
 | .st fs,l=>nO fs l
def nO:List Ty->List Aa->Prop
 |[],l=>l=[]
 |ty::tys,l=>∃a b,l=a++b/\WT ty a/\nO tys b
end
def Ty.o_:Ty->Bool
 | .st _=>true
 |_=>false
def nQ(ty:Ty)(a:Aa):Prop:=if ty.o_ then∃cs,a= .agg cs/\WT ty cs else WT ty [a]
def Sp:List Ty->List Aa->Prop
 |[],l=>l=[]
 |ty::tys,l=>∃a b,l=a::b/\nQ ty a/\Sp tys b
def Fk(W:World):Gh:={GQ:=λb o=>(W.cell? ⟨b,o,none⟩).filter (·.oneCell'),mu:=λ_=>none,BB:=λ_=>none,sz:=λ_=>none}
def sV(W:World):Gm (Fk W) [] W:=by refine⟨λb o v h=>?_,λid x h=>by simp at h,λid cs h=>by simp at h,λid es h=>by simp at h,λid b h=>(by cases h),λb x h=>(by cases h),λb n h=>(by cases h)⟩;simp only[Fk,Oa] at h;exact⟨h.1,h.2,.inl rfl⟩
def QF{W:World}{b o:Nat}{v:Value}(h:W.cell? ⟨b,o,none⟩=some v)(h1:v.oneCell'=true):(Fk W).GQ b o=some v:=by simp[Fk,h,h1,Option.filter]
def Rx{V:Type}{p:Nat->V->Prop}:∀(n:Nat),(∀i,i<n->∃x,p i x)->∃l:List V,l.length=n/\∀i x,l[i]?=some x->p i x
 |0,_=>⟨[],rfl,Av⟩
 |n+1,h=>by
  obtain⟨l,hl,hp⟩:=Rx n λi hi=>h i Ab;obtain⟨x,hx⟩:=h n Ab;refine⟨l++[x],by simp[hl],λi y hy=>?_⟩;rw[ż] at hy;split at hy;.exact hp i y hy
  .have:i-l.length=0:=by
    rcases JX (i-l.length) with h0|h0
    .exact h0
    .rw[CZ Ew] at hy;cases hy
   rw[this] at hy;simp at hy;subst hy;have:i=n:=Ab;rw[this];exact hx
section
variable{H:Type}{enc:TypeId×Value->H}{P:Program}{W:World}
def Ol{a:Addr}{n:Nat}{cs:List Value}(h:W.cells? 0 a n=some cs)(hn:0<n):a.spot=none:=by
 obtain⟨_,hl,hc⟩:=World.cells?_some h;have h0:=hc 0 hn;have hlt:0<cs.length:=Ab;rw[Ak hlt] at h0;unfold World.cell? at h0;have ha:a.add 0=a:=by simp[Addr.add]
 rw[ha] at h0;split at h0
 .split at h0;.cases h0
  .rename_i hs;simpa using hs
 .cases h0
mutual
def WU:∀(ty:Ty) {t:TypeId} {fuel:Nat} {cs:List Value} {x:DataW H×List MemPlace},OL P ty t=true->DataW.trod enc P W 0 (λ_=>true) true fuel t cs=some x->
  ∃as,WT ty as/\AQ (Fk W) as cs/\(∀u∈cs,u.oneCell'=true)/\as.length=Ty.size ty
 | .bool,t,fuel,cs,x,JZ,h=>by
  unfold OL at JZ;split at JZ;.rename_i ht;obtain⟨b,rfl,_⟩:=DataW.trod_bool ht h;exact⟨[.bool b],⟨b,rfl⟩,⟨_,[],rfl,rfl,rfl⟩,by simp[Value.oneCell'],rfl⟩
  .cases JZ
 | .int k,t,fuel,cs,x,JZ,h=>by
  unfold OL at JZ;split at JZ
  .rename_i k' ht;have hk:k'=k:=by simpa using JZ
   subst hk;obtain⟨n,rfl,_,hw⟩:=DataW.trod_int ht h;exact⟨[.int k' n],⟨n,rfl,hw⟩,⟨_,[],rfl,rfl,rfl⟩,by simp[Value.oneCell'],rfl⟩
  .cases JZ
 | .str,t,fuel,cs,x,JZ,h=>by
  unfold OL at JZ;split at JZ
  .rename_i ht;obtain⟨s,rfl,_,hs⟩:=DataW.trod_string ht h;refine⟨[.str s.data.toList],⟨_,rfl,by
    have e:s.data.toList.length=s.size:=by rw[BR];rfl
    rw[e];exact hs⟩,⟨_,[],rfl,?_,rfl⟩,by simp[Value.oneCell'],rfl⟩
   show Value.string s= .string ⟨⟨s.data.toList⟩⟩;congr 1
  .cases JZ
 | .sl e,t,fuel,cs,x,JZ,h=>by
  unfold OL at JZ;split at JZ
  .rename_i z ht;simp only[Bf,yG,C6] at JZ;obtain⟨⟨hce,hpos⟩,aBC⟩:=JZ;rcases DataW.trod_slice ht h with⟨rfl,_⟩|⟨a,len,cap,elems,rest,n,_,rfl,_,_,hl,hm,hlen,c,hsp,_⟩
   .exact⟨[.slnil],.inl rfl,⟨_,[],rfl,rfl,rfl⟩,by simp[Value.oneCell'],rfl⟩
   .have spot:0<cap->a.spot=none:=λhc=>by
     have ha:a.add 0=a:=by simp[Addr.add]
     rcases JX len with h0|h0
     .obtain⟨Iz,KT⟩:=hsp rfl;have:=KT 0 Ab;rw[Ak (Ab:0<rest.length)] at this;have je:(len+0)*P.cellsOf z=0:=by rw[h0];simp
      rw[je,ha] at this;obtain⟨vs,hv,_⟩:=J2.1 this;exact Ol hv Ab
     .have:=c 0 h0;rw[Ak (Ab:0<elems.length)] at this;rw[KI,ha] at this;obtain⟨vs,hv,_⟩:=J2.1 this;exact Ol hv Ab
    obtain⟨Af,bW,YP⟩:=Rx (p:=λi (r:List Aa)=>WT e r/\r.length=Ty.size e/\Cz (Fk W) r a.block (a.off+i*Ty.size e)) len λi hi=>by
     have:=c i hi;rw[Ak (Ab:i<elems.length)] at this;obtain⟨vs,hv,hd⟩:=J2.1 this;obtain⟨r,m,g,d,l⟩:=WU e aBC hd;refine⟨r,m,l,Cz.FX λj y hj=>?_⟩;obtain⟨u,hu,q⟩:=g.get hj;obtain⟨_,hvl,v⟩:=World.cells?_some hv;have rS:j<P.cellsOf z:=by have:=(Ai.1 hu).1;omega
     have hc:=v j rS;rw[hu] at hc;have bN:a=⟨a.block,a.off,none⟩:=by have:=spot Ab;cases a;simp_all
     have LG:(a.add (i*P.cellsOf z)).add j=⟨a.block,a.off+i*Ty.size e+j,none⟩:=by rw[hce];generalize a.block=b at*;generalize a.off=o at*;subst bN;rw[Addr.add_lit,Addr.add_lit]
     rw[LG] at hc;exact⟨u,QF hc (d u (Ca hu)),q⟩
    refine⟨[.sl (Ty.size e) Af],.inr ⟨Af,rfl,Ab,λr hr=>?_⟩,⟨_,[],rfl,⟨a,cap,by rw[bW],Ab,?_,DY.FX λi r hr=>?_⟩,rfl⟩,by simp[Value.oneCell'],rfl⟩;.obtain⟨i,hi⟩:=Cq hr;exact(YP i r hi).1
    .rcases JX cap with h0|h0
     .exact .inr h0
     .exact .inl (spot h0)
    .exact⟨(YP i r hr).2.1,(YP i r hr).2.2⟩
  .cases JZ
 | .st fs,t,fuel,cs,x,JZ,h=>by
  unfold OL at JZ;split at JZ
  .rename_i fields ht;simp only[Bf,yG] at JZ;obtain⟨hct,hf⟩:=JZ;obtain⟨xs,n,_,_,hcl,A,Qw⟩:=DataW.trod_struct ht h;obtain⟨as,m,g,d,l⟩:=Ry fs (fields:=fields.toList) (off:=0) (cs:=cs) (n:=n) hf (λi f hi=>by
    have:=Qw i f (by simpa using hi);have hlt:i<fields.size:=by have:=(Ai.1 hi).1;simpa using this
    rw[Ak (Ab:i<xs.length)] at this;exact⟨_,this⟩) (by rw[hcl,hct];omega)
   have B:(cs.drop 0).take (Ty.KV fs)=cs:=by rw[KG];exact AT (by rw[hcl,hct];exact Ae _)
   rw[B] at g d;exact⟨as,m,g,d,l⟩
  .cases JZ
def Ry:∀(tys:List Ty) {fields:List Field} {off:Nat} {cs:List Value} {n:Nat},Nh P tys fields off=true->
  (∀(i:Nat) (f:Field),fields[i]?=some f->∃y,DataW.trod enc P W 0 (λ_=>true) true n f.type ((cs.drop f.offset).take (P.cellsOf f.type))=some y)->off+Ty.KV tys<=cs.length->
  ∃as,nO tys as/\AQ (Fk W) as ((cs.drop off).take (Ty.KV tys))/\(∀u∈(cs.drop off).take (Ty.KV tys),u.oneCell'=true)/\as.length=Ty.KV tys
 |[],fields,off,cs,n,JZ,h,hl=>by refine⟨[],rfl,?_,?_,rfl⟩<;>simp[Ty.KV,AQ]
 |ty::tys,fields,off,cs,n,JZ,h,hl=>by
  cases fields with
  |nil=>simp[Nh] at JZ
  |cons f fs=>
   simp only[Nh,Bf,yG] at JZ;obtain⟨⟨⟨ho,hc⟩,Vt⟩,sE⟩:=JZ;obtain⟨y,hy⟩:=h 0 f rfl;rw[ho,hc] at hy;obtain⟨as,m,l,k,j⟩:=WU ty Vt hy;simp only[Ty.KV] at hl;obtain⟨bs,e,d,c,b⟩:=Ry tys sE (λi g hi=>h (i+1) g (by simpa using hi)) Ab;have o:(cs.drop off).take (Ty.KV (ty::tys))=(cs.drop off).take (Ty.size ty)++(cs.drop (off+Ty.size ty)).take (Ty.KV tys):=by simp only[Ty.KV];rw[gg,Eb]
   rw[o];refine⟨as++bs,⟨as,bs,rfl,m,e⟩,l.append d,λu hu=>?_,by simp[j,b,Ty.KV]⟩;rcases An.1 hu with hu|hu
   .exact k u hu
   .exact c u hu
end
def WV{ty:Ty}{t:TypeId}{v:Value}{base:Nat}(JZ:OL P ty t=true)(hv:Value.okWide P W .any base t v):if ty.o_ then∃cs,v= .agg cs else v.cells=#[v]:=by
 cases ty with
 |st fs=>
  unfold OL at JZ;split at JZ;.rename_i fields ht;unfold Value.okWide at hv;rw[ht] at hv;obtain⟨cs,e,_⟩:=hv;exact⟨cs,e⟩
  .cases JZ
 |_=>
  unfold OL at JZ;split at JZ;.rename_i ht;unfold Value.okWide at hv;rw[ht] at hv;simp only[Cell.okWide,ht,Cell.ok] at hv;cases v<;>first|rfl|exact hv.elim
  .cases JZ
def VL:∀{tys:List Ty} {ts:List TypeId} {vs:List Value} {ds:List (DataW H)} {ps:List MemPlace} {base:Nat},DataW.TrodAll enc P W 0 (λ_=>true) true ts vs ds ps->tys.length=ts.length->(∀(i:Nat) (ty:Ty) (t:TypeId),tys[i]?=some ty->ts[i]?=some t->OL P ty t=true)->
  (∀(i:Nat) (t:TypeId) (v:Value),ts[i]?=some t->vs[i]?=some v->Value.okWide P W .any base t v)->∃as,Sp tys as/\AQ (Fk W) as vs
 |[],[],[],[],_,_,_,_,_,_=>⟨[],rfl,rfl⟩
 |ty::tys,t::ts,v::vs,d::ds,ps,base,⟨p,q,⟨fuel,h1⟩,h2,_⟩,hl,JZ,OM=>by
  have Vt:=JZ 0 ty t rfl rfl;obtain⟨cells,f,b,k,l⟩:=WU ty Vt h1;obtain⟨bs,j,g⟩:=VL h2 (by simpa using hl) (λi ty t h h'=>JZ (i+1) ty t (by simpa using h) (by simpa using h')) (λi t v h h'=>OM (i+1) t v (by simpa using h) (by simpa using h'));have hc:=WV Vt (OM 0 t v rfl rfl);have:∃a,nQ ty a/\Bv (Fk W) a v:=by
   by_cases Hw:ty.o_=true;.rw[Ad Hw] at hc;obtain⟨us,rfl⟩:=hc;exact⟨.agg cells,(by unfold nQ;rw[Ad Hw];exact⟨cells,rfl,f⟩),us,rfl,by simpa[Value.cells] using b,by simpa[Value.cells] using k⟩
   .rw[Ac Hw] at hc;rw[hc] at b;obtain⟨u,us,e,hu,hnil⟩:∃c FU,cells=c::FU/\Bv (Fk W) c v/\FU=[]:=by
     cases cells with
     |nil=>cases b
     |cons c FU=>obtain⟨u,C4,e,h1,h2⟩:=b;simp at e;obtain⟨rfl,rfl⟩:=e;exact⟨c,FU,rfl,h1,by cases FU with|nil=>rfl|cons _ _=>obtain⟨_,_,e,_⟩:=h2;cases e⟩
    subst hnil;subst e;exact⟨u,(by unfold nQ;rw[Ac Hw];exact f),hu⟩
  obtain⟨a,ha,hr⟩:=this;exact⟨a::bs,⟨a,bs,rfl,ha,j⟩,⟨v,vs,rfl,hr,g⟩⟩
 |[],_::_,_,_,_,_,_,hl,_,_=>by simp at hl
 |_::_,[],_,_,_,_,_,hl,_,_=>by simp at hl
 |[],[],_::_,_,_,_,h,_,_,_=>by cases h
 |[],[],[],_::_,_,_,h,_,_,_=>by cases h
 |_::_,_::_,[],_,_,_,h,_,_,_=>by cases h
 |_::_,_::_,_::_,[],_,_,h,_,_,_=>by cases h
def Tq{W':World}{may:MemPlace->Prop}(h1:W'.os=W.os)(h2:W'.output=W.output)(hb:∀i,i<W.heap.size->W'.heap[i]?=W.heap[i]?):W.keptBut W' may:=by
 refine⟨h1,h2,λi hi=>?_⟩;rw[hb i hi];split;.rename_i c t fr c' t' mI d b;rw[d] at b;cases b;exact⟨rfl,rfl,rfl,λ_ _=>rfl⟩
 .rename_i d b;rw[d] at b;cases b;exact .inr ⟨rfl,rfl⟩
 .rfl
def Om(hl:laidOutB P=true){W':World}(hb:RowKit.Below W.heap.size W W'):∀{ts:List TypeId} {vs:List Value} {ds:List (DataW H)} {ps:List MemPlace},(∀t∈ts,P.readableRec t=true/\t<P.types.size)->
  DataW.TrodAll enc P W 0 (λ_=>true) true ts vs ds ps->(∀x∈ps,x.block<W.heap.size)->DataW.TrodAll enc P W' 0 (λb=>decide (b<W.heap.size)) true ts vs ds ps
 |[],[],[],ps,_,h,_=>h
 |t::ts,v::vs,d::ds,ps,WD,⟨p,q,h1,h2,e⟩,hlt=>by subst e;have ht:=WD t Av;exact⟨p,q,RowKit.Below.trod hl ht.1 ht.2 h1 hb λx hx=>hlt x (B5 _ hx),Om hl hb (λt' h'=>WD t' (by simp[h'])) h2 λx hx=>hlt x (Bw _ hx),rfl⟩
 |[],[],_::_,_,_,h,_=>by cases h
 |[],_::_,_,_,_,h,_=>by cases h
 |_::_,[],_,_,_,h,_=>by cases h
 |_::_,_::_,[],_,_,h,_=>by cases h
end
def WW{C:Fo}(hm:C.P.follows .mixedOrders=true)(zX:∀g cs,C.FV g=some cs->cs.all Aa.KK=true)(jd:WS C)(hl:laidOutB C.P=true){f:FuncId}{fn:Func}{rt:TypeId}(k:f<=99999)(c:fn.resultTypes=#[rt])(l:C.P.underlying rt=some .bool){tys:List Ty}(hlen:tys.length=fn.params.size)
  (aBD:∀(i:Nat) (ty:Ty) (t:TypeId),tys[i]?=some ty->fn.params[i]?=some t->OL C.P ty t=true) (Ü:∀t∈fn.params.toList,C.P.readableRec t=true/\t<C.P.types.size)
  (Ng:∀as,Sp tys as->Ev C f as [] λr _=>r= .bool true) {s:ChangeSpec} (gx:s.vars=[])
  {H:Type} (rV:∀ds:List (DataW H),ds.length=fn.params.size->s.fn H ds={results:=[.lit (.bool true)],args:=ds})
  {enc:TypeId×Value->H} {W:World} {base:Nat} {args:Array Value} {ds gs:List (DataW H)} {before:List MemPlace} (hg:∀g cs,C.FV g=some cs->Cz (Fk W) cs g 0)
  (OM:∀(j:Nat) (t:TypeId) (v:Value),fn.params[j]?=some t->args[j]?=some v->Value.okWide C.P W .any base t v) (hW:DataW.Whole enc C.P fn.params.toList s.vars false W args.toList ds gs before):
  Calls C.P f args W λe W'=>∃v,e= .returned v/\s.post enc C.P fn false true false false W args v W':=by
 have m:=hW;have hlt:=hW.lt;obtain⟨p,q,o,n,rfl,hfz,zJ⟩:=hW;rw[gx] at n;have ot:gs=[]/\q=[]:=by
  cases gs with
  |nil=>exact⟨rfl,n⟩
  |cons _ _=>cases n
 obtain⟨rfl,rfl⟩:=ot;obtain⟨as,sW,Pw⟩:=VL o (by simpa using hlen) (λi ty t h h'=>aBD i ty t h (by simpa using h')) (λi t v h h'=>OM i t v (by simpa using h) (by simpa using h'));have Yf:ds.length=fn.params.size:=by
  have key:∀{ts:List TypeId} {vs:List Value} {ds:List (DataW H)} {ps:List MemPlace},DataW.TrodAll enc C.P W 0 (λ_=>true) true ts vs ds ps->ds.length=ts.length:=by
   intro ts;induction ts with
   |nil=>intro vs ds ps h;cases vs<;>cases ds<;>first|rfl|cases h
   |cons t ts ih=>
    intro vs ds ps h;cases vs with
    |nil=>cases h
    |cons v vs=>
     cases ds with
     |nil=>cases h
     |cons d ds=>obtain⟨_,_,_,h2,_⟩:=h;simp[ih h2]
  simpa using key o
 have Sn:=(Ng as sW).calls hm zX jd (sV W) hg Pw;rw[show DX f=f from Ad k] at Sn;refine Sn.mono λe W' he=>?_;cases e with
 |returned v=>
  obtain⟨r,h',u,rfl,hi,IC,hv⟩:=he;have hvb:v= .bool true:=hv;subst hvb;have hold:∀i,i<W.heap.size->W'.heap[i]?=W.heap[i]?:=λi sB=>(IC.Iy i sB λid h0=>by cases h0).1;have b:RowKit.Below W.heap.size W W':=⟨IC.os,IC.tape,IC.output,IC.size,hold⟩;refine⟨_,rfl,ds,[],p++[],[],p,[],m,?_,?_,?_,Tq IC.os IC.output hold,λh0=>by cases h0⟩;.rw[Bi,rV ds Yf,c];exact⟨[],[],RowKit.shut_bool l true,rfl,rfl⟩
  .rw[Bi,rV ds Yf];exact Om hl b Ü o λx hx=>hlt x (by simpa using hx)
  .rw[Bi,rV ds Yf,gx];rfl
 |_=>exact he.elim
end Go.Am
end
