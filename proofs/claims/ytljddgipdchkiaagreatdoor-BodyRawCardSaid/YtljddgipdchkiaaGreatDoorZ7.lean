/- Lemmas -/
import Derived.Scope
import Derived.Test.YtljddgipdchkiaaGreatDoorZ6
import Derived.Carry
import Derived.ReadAgain
set_option linter.all false
section
namespace Go.Am
open Go
def Į(x y:Er):Prop:=
 match x with
 | .box ver cs ow=>∃Gm GW NR,y= .box Gm GW NR/\ver<=Gm/\(Gm=ver->GW=cs/\NR=ow)
 | .Fl t o=>y= .Fl t o\/y= .undef
 |x=>y=x
def Į.refl(x:Er):Į x x:=by
 cases x with
 |box ver cs ow=>exact⟨ver,cs,ow,rfl,Ag _,λ_=>⟨rfl,rfl⟩⟩
 |Fl t o=>exact .inl rfl
 |_=>rfl
def Į.trans{x y z:Er}(h:Į x y)(k:Į y z):Į x z:=by
 cases x with
 |box ver cs ow=>obtain⟨b,m,l,rfl,h1,h2⟩:=h;obtain⟨v2,j,c,rfl,f,d⟩:=k;refine⟨v2,j,c,rfl,Bu h1 f,λe=>?_⟩;have i:b=ver:=Ab;have g:v2=b:=Ab;obtain⟨rfl,rfl⟩:=d g;exact h2 i
 |Fl t o=>
  rcases h with rfl|rfl
  .exact k
  .exact .inr k
 |_=>rw[show y=_ from h] at k;exact k
def Gd(W:List Nat)(σ O:BW):Prop:=O.length=σ.length/\∀s,s∉W->Į (σ.at s) (O.at s)
def Gd.refl(W:List Nat)(σ:BW):Gd W σ σ:=⟨rfl,λ_ _=> .refl _⟩
def Gd.trans{W:List Nat}{σ O J:BW}(h:Gd W σ O)(k:Gd W O J):Gd W σ J:=⟨k.1.trans h.1,λs hs=>(h.2 s hs).trans (k.2 s hs)⟩
def Gd.mono{W W':List Nat}{σ O:BW}(h:Gd W σ O)(hw:∀s∈W,s∈W'):Gd W' σ O:=⟨h.1,λs hs=>h.2 s λhm=>hs (hw s hm)⟩
def Gd.set{W:List Nat}{σ:BW}{s:Nat}{x:Er}(hs:s∈W):Gd W σ (σ.set s x):=
 ⟨AK,λt ht=>by rw[BW.Gc λe=>ht (by rw[<-e];exact hs)];exact .refl _⟩
def Gd.put{W:List Nat}{σ:BW}{d:Option Nat}{x:Er}(hs:∀s∈d.toList,s∈W):Gd W σ (σ.put d x):=by
 cases d with
 |none=>exact .refl _ _
 |some d=>exact .set (hs d AK)
section
variable{C:FZ}{fid:FuncId}{ops:List Oper}{run:IT->Ah->Option J1}{σ σ':BW}{h h':Ah}{W:List Nat}
def Gd.drop(σ:BW)(ds:List Nat):Gd W σ (σ.drop ds):=by
 refine⟨BW.length_drop σ ds,λs _=>?_⟩;rw[BW.RG];cases hx:σ.at s with
 |Fl t o=>
  simp only
  split;.exact .inr rfl
  .exact .inl rfl
 |_=>exact .refl _
def lF{r:EO}{ds:List Nat}(hd:r.Nj C run (σ.drop ds) h σ' h')(hw:∀s∈r.wf,s∈W):Gd W σ σ':=by obtain⟨ws,rfl,h1,_⟩:=Y1 hd;refine(Gd.drop σ ds).trans ⟨BW.JT ws _,λs hs=>?_⟩;rw[BW.GO ws _ s λp hp e=>hs (hw s (by rw[<-e];exact h1 p hp))];exact .refl _
def PV{x:Operand}{d:Nat}{take:Bool}{r:EO}(h:KC C σ x d take=some r):∀s∈r.wf,s=d\/(take=true/\x= .tmp s):=by
 unfold KC at h;split at h;.cases h;simp[EO.wf]
 .cases h;simp[EO.wf]
 .split at h
  .rename_i ht;cases h;intro s hs;simp only[EO.wf,BL,Av] at hs;rcases hs with hs|hs
   .revert hs;generalize b:Rs _ _=c;intro hs;unfold Rs at b;split at b;.subst b;simp at hs;exact .inr ⟨ht,by rw[hs]⟩
    .subst b;simp at hs
   .exact .inl (by simpa using hs)
  .cases hc:Iv _ with
   |none=>rw[hc] at h;cases h
   |some sl=>rw[hc] at h;cases h;simp[EO.wf]
 .cases hc:Iv _ with
  |none=>rw[hc] at h;cases h
  |some sl=>rw[hc] at h;cases h;simp[EO.wf]
 .cases h
def RP{x:Operand}{p:Nat×Aa}(h:Dk σ x=some p):x= .tmp p.1:=by
 cases x with
 |tmp t=>
  simp only[Dk] at h;cases hx:σ.at t with
  |Bw v=>rw[hx] at h;cases h;rfl
  |_=>rw[hx] at h;cases h
 |_=>cases h
def fF{t:TypeId}{v:Aa}{d:Nat}{r:EO}(h:TJ C fid t v d=some r):r.wf=[d]:=by
 unfold TJ at h;split at h;.cases h
 .split at h;.cases h
  .split at h<;>(cases h;rfl)
def M4:∀{xs:List Operand} {vs:List Aa} {fz:List (Nat×List Aa)},Gk C σ xs=some (vs,fz)->∀p∈fz,p.1∈J7 xs
 |[],vs,fz,hc=>by cases hc;simp
 |x::xs,vs,fz,hc=>by
  unfold Gk at hc;split at hc;.cases hc
  .rename_i HS c b;have ih:=M4 b;have up:∀p∈c,p.1∈J7 (x::xs):=λp hp=>by obtain⟨y,hy,he⟩:=Ck.1 (ih p hp);exact Ck.2 ⟨y,X0 _ hy,he⟩
   split at hc
   .rename_i s ver cs ow hs;split at hc;.cases hc
    .cases hc;intro p hp;rcases AS.1 hp with rfl|hp
     .simp[J7]
     .exact up p hp
   .rename_i sl _ hs;cases hv:sl.Ho with
    |none=>rw[hv] at hc;cases hc
    |some u=>rw[hv] at hc;cases hc;exact up
   .cases hc
def p8{o:Oper}{r:EO}(hc:Gl C fid ops σ o=some r)(hd:r.Nj C run (σ.drop r.news) h σ' h'):Gd (Eu ops o) σ σ':=by
 have RO:∀s∈o.dst.toList,s∈Eu ops o:=λs hs=>CC _ hs
 have hwf:(∀s∈r.wf,s∈Eu ops o)->Gd (Eu ops o) σ σ':=lF hd
 have X5:r.wf=o.dst.toList->Gd (Eu ops o) σ σ':=λe=>hwf (by rw[e];exact RO)
 have TW:∀{m x},SV m o.dst x=some r->Gd (Eu ops o) σ σ':=λ{m x} he=>by
  obtain⟨_,_,rfl⟩:=Hr he
  exact X5 rfl
 have HD:∀{p x},SU p o.dst x=some r->Gd (Eu ops o) σ σ':=λ{p x} he=>by
  obtain⟨args,_,rfl⟩:=DZ he
  exact X5 (by simp[EO.wf])
 unfold Gl at hc
 split at hc
 .rename_i x ho
  split at hc
  .rename_i d Ga
   refine hwf λs hs=>?_
   rcases PV hc s hs with rfl|⟨ht,rfl⟩
   .exact RO s (by rw[Ga];simp)
   .refine BY _ ?_
    simp[ho,Ga,ht]
  .cases hc
 .rename_i x ho
  split at hc
  .rename_i d Ga
   refine hwf λs hs=>?_
   rcases PV hc s hs with rfl|⟨ht,rfl⟩
   .exact RO s (by rw[Ga];simp)
   .refine BY _ ?_
    simp[ho]
  .cases hc
 .rename_i c x y ho
  split at hc
  .rename_i d _ Ga
   refine hwf λs hs=>?_
   rcases PV hc s hs with rfl|⟨ht,rfl⟩
   .exact RO s (by rw[Ga];simp)
   .cases ht
  .rename_i d _ Ga
   refine hwf λs hs=>?_
   rcases PV hc s hs with rfl|⟨ht,rfl⟩
   .exact RO s (by rw[Ga];simp)
   .cases ht
  .exact HD hc
 .split at hc
  .rename_i d z Ga hz
   split at hc
   .split at hc
    .cases hc;exact X5 (by rw[Ga];rfl)
    .cases hc
   .exact X5 (by rw[fF hc,Ga];rfl)
  .cases hc
 .split at hc
  .rename_i d v Ga hz
   exact X5 (by rw[fF hc,Ga];rfl)
  .cases hc
 .split at hc
  .split at hc
   .exact HD hc
   .cases hc
  .cases hc
 .split at hc
  .split at hc
   .split at hc
    .split at hc
     .cases hc;exact X5 (by simp[EO.wf])
     .cases ha:BC C σ _ with
      |none=>rw[ha] at hc;cases hc
      |some args=>rw[ha] at hc;cases hc;exact X5 (by simp[EO.wf])
    .cases hc
   .cases hc
  .cases hc
 .split at hc
  .rename_i d Ga
   unfold Lt at hc
   split at hc
   .cases hc;exact X5 (by rw[Ga];rfl)
   .rename_i s off ver cs ow ht ha
    split at hc
    .simp only at hc
     split at hc
     .cases hc
      rw[NZ AK] at hd
      obtain⟨rfl,rfl⟩:=hd
      have hs:σ.at s= .box ver cs ow:=by
       unfold Gj at ha
       split at ha
       .rename_i hs;cases ha;exact Hb hs
       .split at ha
        .rename_i hb;cases ha;exact hb
        .cases ha
       .exact absurd ha (by cases hv:Er.Ho _<;>simp)
       .cases ha
      refine⟨by simp[BW.drop,BW.Ej],λt b=>?_⟩
      have f:t≠d:=λe=>b (RO t (by rw[Ga,e];simp))
      have dx:s<σ.length:=BW.O2 (by rw[hs];simp)
      show Į (σ.at t) (BW.at ((σ.set s _).set d _) t)
      rw[BW.Gc (λe=>f e.symm)]
      by_cases ZY:s=t
      .subst ZY
       rw[BW.Fv dx,hs]
       exact⟨_,_,_,rfl,Fj _,λe=>absurd e Ab⟩
      .rw[BW.Gc ZY];exact .refl _
     .cases hc;exact X5 (by rw[Ga];rfl)
    .cases hc
   .split at hc
    .cases hc;exact X5 (by rw[Ga];rfl)
    .cases hc
   .cases hc
  .cases hc
 .rename_i t x y ho
  split at hc
  .rename_i Ga
   unfold Jw at hc
   split at hc
   .cases hc;exact hwf (by simp[EO.wf])
   .rename_i m sh s off ver cs ow v KR jM ha hv
    split at hc
    .cases hc
     obtain⟨_,rfl,rfl⟩:=hd
     have hs:σ.at s= .box ver cs ow:=by
      unfold Gj at ha
      split at ha
      .rename_i hs;cases ha;exact Hb hs
      .split at ha
       .rename_i hb;cases ha;exact hb
       .cases ha
      .exact absurd ha (by cases hv:Er.Ho _<;>simp)
      .cases ha
     have Yi:∀(D:Option (Nat×Aa)),(∀p,D=some p->p.1∈Eu ops o/\p.1≠s)->∀X:List Aa×List Nat,Gd (Eu ops o) σ ((σ.DO D).set s (.box (ver+1) X.1 X.2)):=by
      intro D i X
      refine⟨by cases D<;>simp[BW.DO],λt b=>?_⟩
      have hlen:s<(σ.DO D).length:=by
       have:s<σ.length:=BW.O2 (by rw[hs];simp)
       cases D<;>simpa[BW.DO] using this
      by_cases ZY:s=t
      .subst ZY
       rw[BW.Fv hlen,hs]
       exact⟨_,_,_,rfl,Fj _,λe=>absurd e Ab⟩
      .rw[BW.Gc ZY]
       cases D with
       |none=>exact .refl _
       |some p=>
        obtain⟨g,j⟩:=i p rfl
        simp only[BW.DO]
        rw[BW.Gc (λe=>b (by rw[<-e];exact g))]
        exact .refl _
     refine Yi _ (λp hp=>?_) (_,_)
     split at hp
     .have hy:=RP hp
      subst hy
      refine⟨BY _ (by simp[ho]),λe=>?_⟩
      simp only[Dk] at hp
      rw[e,hs] at hp
      cases hp
     .cases hp
    .cases hc
   .cases hc
  .cases hc
 .split at hc
  .rename_i Ga _ _
   cases hc;exact X5 (by rw[Ga];rfl)
  .rename_i Ga _ _
   cases hc;exact X5 (by rw[Ga];rfl)
  .exact HD hc
 .split at hc
  .exact HD hc
  .cases hc
 .exact HD hc
 .split at hc
  .cases hv:E6 C σ _ with
   |none=>rw[hv] at hc;cases hc
   |some v=>rw[hv] at hc;cases hc;exact X5 rfl
  .split at hc
   .cases hv:E6 C σ _ with
    |none=>rw[hv] at hc;cases hc
    |some v=>rw[hv] at hc;cases hc;exact X5 rfl
   .exact HD hc
  .exact HD hc
  .cases hc
 .rename_i fn first captured ho
  split at hc
  .rename_i d as bs fz Ga ha hb
   cases hc
   refine hwf λs hs=>?_
   simp only[EO.wf,AS] at hs
   rcases hs with rfl|hs
   .exact RO s (by rw[Ga];simp)
   .obtain⟨p,hp,rfl⟩:=Bl.1 hs
    refine BY _ ?_
    simp only[ho]
    exact M4 hb p hp
  .cases hc
 .cases hc;exact X5 rfl
 .split at hc
  .split at hc
   .cases hc;exact X5 rfl
   .cases hc
  .cases hc
 .split at hc
  .split at hc
   .cases hc;exact hwf (by simp[EO.wf])
   .cases hc;exact hwf (by simp[EO.wf])
   .cases hc
  .cases hc
 .split at hc
  .split at hc
   .cases hc;exact hwf (by simp[EO.wf])
   .cases hc;exact hwf (by simp[EO.wf])
   .cases hc
  .cases hc
 .split at hc
  .split at hc
   .cases hc;exact X5 rfl
   .cases hc;exact X5 rfl
   .cases hc
  .cases hc
 .split at hc
  .split at hc
   .exact TW hc
   .cases hc
  .cases hc
 .split at hc
  .cases hc
  .exact TW hc
  .cases hc
 .split at hc
  .split at hc<;>first|exact TW hc|cases hc
  .cases hc
 .split at hc
  .rename_i Ga
   exact TW (by rw[Ga];exact hc)
  .cases hc
 .split at hc
  .exact HD hc
  .split at hc
   .split at hc
    .exact TW hc
    .exact HD hc
   .cases hc
  .cases hc
 .split at hc
  .rename_i off sh d hf Ga
   split at hc
   .cases hc;exact X5 (by rw[Ga];rfl)
   .cases hc;exact X5 (by rw[Ga];rfl)
   .exact HD (by rw[Ga];exact hc)
  .cases hc
 .split at hc
  .exact HD hc
  .cases hc
 .split at hc
  .split at hc
   .exact HD hc
   .cases hc
  .split at hc
   .split at hc
    .cases hc
    .exact HD hc
   .cases hc
  .cases hc
 .split at hc
  .exact HD hc
  .split at hc
   .exact HD hc
   .cases hc
  .cases hc
 .exact HD hc
 .rename_i c ho
  unfold QM at hc
  split at hc
  .split at hc
   .split at hc
    .exact HD hc
    .exact HD hc
    .cases hc
   .cases hc
  .rename_i hcl
   split at hc
   .rename_i t t' s x h0 h1 ES
    have Yi:∀p,Dk σ s=some p->p.1∈Eu ops o:=λp hp=>by
     have:=RP hp
     subst this
     refine BY _ ?_
     simp only[ho,hcl,ES]
     simp[J7]
    split at hc
    all_goals first
     |(cases hc;done)
     | (split at hc
        . split at hc
          . split at hc
            . split at hc
              . split at hc
                . cases hc
                  refine hwf fun q hq => ?_
                  simp only [EO.wf, Av] at hq
                  rcases hq with hq | hq
                  . exact RO q hq
                  . cases lG : Dk σ s with
                    | none => rw [lG] at hq; simp at hq
                    | some p => rw [lG] at hq; simp at hq; rw [hq]; exact Yi p lG
                . split at hc
                  . cases hc
                    refine hwf fun q hq => ?_
                    simp only [EO.wf, Av] at hq
                    rcases hq with hq | hq
                    . exact RO q hq
                    . cases lG : Dk σ s with
                      | none => rw [lG] at hq; simp at hq
                      | some p => rw [lG] at hq; simp at hq; rw [hq]; exact Yi p lG
                  . cases hc
                    refine hwf fun q hq => ?_
                    simp only [EO.wf, Av] at hq
                    rcases hq with hq | hq
                    . exact RO q hq
                    . cases lG : Dk σ s with
                      | none => rw [lG] at hq; simp at hq
                      | some p => rw [lG] at hq; simp at hq; rw [hq]; exact Yi p lG
              . split at hc
                . cases hc
                  refine hwf fun q hq => RO q (by simpa [EO.wf] using hq)
                . cases hc
            . cases hc
          . cases hc
        . cases hc)
   .cases hc
  .split at hc
   .split at hc
    all_goals first
     |(cases hc;done)
     | (split at hc
        . exact TW hc
        . cases hc)
   .cases hc
  .split at hc
   .split at hc
    .split at hc
     .exact TW hc
     .cases hc
    .cases hc
   .cases hc
  .split at hc
   .exact HD hc
   .cases hc
  .split at hc
   .exact HD hc
   .cases hc
  .split at hc
   .split at hc
    .split at hc
     .exact TW hc
     .cases hc
    .cases hc
   split at hc
   .cases ha:BC C σ c.args.toList with
    |none=>rw[ha] at hc;cases hc
    |some args=>
     rw[ha] at hc
     simp only[Cc,BE] at hc
     split at hc<;>(cases hc;exact X5 rfl)
   .cases hc
  .split at hc
   .cases hc;exact X5 rfl
   .cases hc
  .cases hc
 .cases hc
end
end Go.Am
end
section
namespace Go.Am
open Go
def gl:Fp->Exit
 | .normal=> .normal
 | .exit i=> .exit i
 | .ret=> .ret
def Oa:∀{l m:List Nat},l.Nodup->(∀x∈l,x∈m)->l.length<=m.length
 |[],_,_,_=>AU _
 |x::l,m,hn,hs=>by have hx:=hs x AK;have h1:=Oa (l:=l) (m:=m.erase x) (B8.1 hn).2 λy hy=>(List.mem_erase_of_ne λe=>(B8.1 hn).1 (by rw[<-e];exact hy)).2 (hs y (by simp[hy]));rw[List.length_erase_of_mem hx] at h1;have:0<m.length:=List.length_pos_of_mem hx;simp;omega
def aA{P:Program}{c:Code}{Q:Exit->Act->World->Prop}(T:Nat->Act->World->Prop)(round:∀n a w,T n a w->c.wp P (Exit.then (λa' w'=>∃m,m<n/\T m a' w') Q) a w)(n:Nat)(a:Act)(w:World)(h0:T n a w):(Code.loop c).wp P Q a w:=by
 intro b k cs;have key:∀n a w,T n a w->∃e a' w',Q e a' w'/\Arrives P (lone (b.at a (.code c:: .inLoop c::k)) cs w) b k cs e a' w':=by
  intro n;induction n using Nat.strongRecOn with
  |_ n ih=>
   intro a w i;obtain⟨e,a1,w1,hq,su⟩:=round n a w i b (.inLoop c::k) cs;by_cases he:e= .normal;.subst he;obtain⟨m,hm,d⟩:=hq;obtain⟨j,a2,f,g,r2⟩:=ih m hm a1 w1 d;exact⟨j,a2,f,g,.of_steps (Go.Steps.trans su (.one step_inLoop)) r2⟩
   .exact⟨e,a1,w1,by cases e<;>first|exact hq|exact absurd rfl he,.pass (x:= .inLoop c) rfl (λ_ _=> .inl he) su⟩
 obtain⟨e,a',w',hq,su⟩:=key n a w h0;exact⟨e,a',w',hq,.of_steps (.one step_loop) su⟩
section
variable{C:FZ}{U0 U:Gh}{w0 w:World}{Z:Nat->Nat}{σ:BW}{h:Ah}{a:Act}{fid:FuncId}{run:IT->Ah->Option J1}
def aB{ops:List Oper}{o:Oper}{K:BW->IT}{R:J1}(hr:IT.step (Cd C) run (SW C fid ops σ o K) h=some R):
  ∃d,(d=σ\/∃s b,s∈FD ops o/\σ.at s= .val (.bool b)/\d=σ.set s (.OM b))/\
   ((IP ops d o= .Ng true/\IT.step (Cd C) run (cm C fid ops d o K) h=some R)\/(IP ops d o= .Ng false/\IT.step (Cd C) run (K (d.put o.dst .skip)) h=some R)):=by
 unfold SW at hr;split at hr;.rename_i hg;exact⟨σ,.inl rfl,.inl ⟨hg,hr⟩⟩
 .rename_i hg;exact⟨σ,.inl rfl,.inr ⟨hg,hr⟩⟩
 .rename_i s v want hg;have e:s∈FD ops o/\σ.at s= .val v/\∀b,IP ops (σ.set s (.OM b)) o= .Ng (b==want):=by
   unfold IP at hg⊢;unfold FD;cases ho:o.guard with
   |none=>rw[ho] at hg;cases hg
   |some g=>
    obtain⟨j,want'⟩:=g;rw[ho] at hg;simp only at hg⊢;cases hd:(ops[j]?).bind (·.dst) with
    |none=>rw[hd] at hg;cases hg
    |some s'=>
     rw[hd] at hg;simp only at hg⊢;cases hx:σ.at s' with
     |val v'=>rw[hx] at hg;cases hg;refine⟨AK,hx,λb=>?_⟩;rw[BW.Fv (BW.O2 (by rw[hx];simp))]
     |OM c=>rw[hx] at hg;cases hg
     |skip=>rw[hx] at hg;cases hg
     |_=>rw[hx] at hg;cases hg
  obtain⟨g1,g2,g3⟩:=e;simp only[IT.step] at hr;split at hr
  .refine⟨σ.set s (.OM true),.inr ⟨s,true,g1,g2,rfl⟩,?_⟩;rw[g3];cases want with
   |true=>exact .inl ⟨rfl,hr⟩
   |false=>exact .inr ⟨rfl,hr⟩
  .refine⟨σ.set s (.OM false),.inr ⟨s,false,g1,g2,rfl⟩,?_⟩;rw[g3];cases want with
   |true=>exact .inr ⟨rfl,hr⟩
   |false=>exact .inl ⟨rfl,hr⟩
  .cases hr
 .cases hr
def xV(a:Act){ops:List Oper}{o:Oper}:(∀p∈Ru C σ o,∃ver ow,σ.at p.1= .box ver p.2 ow)/\((Ru C σ o).map (·.1)).Nodup/\∀p∈Ru C σ o,p.1∈Eu ops o:=by
 have no:∀l:List (Nat×List Aa),l=[]->(∀p∈l,∃ver ow,σ.at p.1= .box ver p.2 ow)/\(l.map (·.1)).Nodup/\∀p∈l,p.1∈Eu ops o:=by rintro l rfl;exact⟨(λp hp=>nomatch hp),My,λp hp=>nomatch hp⟩
 cases ho:o.op with
 |call c=>
  cases hc:c.callee with
  |value g=>
   cases g with
   |func f=>
    cases hf:SX f with
    |true=>
     cases hx:Gk C σ c.args.toList with
     |some q=>
      obtain⟨vs,fz⟩:=q;have e:Ru C σ o=fz:=by unfold Ru;simp only[ho,hc,hf,hx,BT]
      rw[e];obtain⟨h1,h2,_⟩:=M3 (a:=a) hx;refine⟨h1,h2,λp hp=>BY _ ?_⟩;simp only[ho,hc,hf,BT];exact M4 hx p hp
     |none=>exact no _ (by unfold Ru;simp only[ho,hc,hf,hx,BT])
    |false=>exact no _ (by unfold Ru;simp[ho,hc,hf])
   |_=>exact no _ (by unfold Ru;simp only[ho,hc])
  |_=>exact no _ (by unfold Ru;simp only[ho,hc])
 |_=>exact no _ (by unfold Ru;simp only[ho])
def Gd.Ej{W:List Nat}:∀{l:List (Nat×Er)} {σ:BW},(∀p∈l,p.1∈W)->Gd W σ (σ.Ej l)
 |[],σ,_=> .refl _ _
 |(s,x)::l,σ,h=>(Gd.set (h (s,x) AK)).trans (Gd.Ej λp hp=>h p (by simp[hp]))
def gm{ops:List Oper}{o:Oper}{W:List Nat}(hr:Dc C U0 w0 U Z σ h a w)(hw:∀s∈Eu ops o,s∈W):∃b,Dc C U0 w0 b Z (ű C σ o) h a w/\Gd W σ (ű C σ o):=by
 obtain⟨h1,h2,c⟩:=xV (C:=C) (σ:=σ) a (ops:=ops) (o:=o);obtain⟨b,_,F0,_⟩:=(hr.drop ((Ru C σ o).map (·.1))).S3 (fz:=Ru C σ o) (λp hp=>by obtain⟨ver,ow,hs⟩:=h1 p hp;exact⟨ver,ow,by rw[BW.RG,hs]⟩) h2
 refine⟨b,F0,(Gd.drop σ _).trans (Gd.Ej λp hp=>?_)⟩;obtain⟨q,hq,rfl⟩:=Bl.1 hp;exact hw _ (c q hq)
def p9(m:Fg C run){ops:Array Oper}{Q:Exit->Act->World->Prop}{W:List Nat}{K:BW->IT}{R:J1}:∀(rest:List Oper) (k:Nat) (U:Gh) (Z:Nat->Nat) (σ:BW) (h:Ah) (a:Act) (w:World),
  ops.toList.drop k=rest->(∀o∈rest,(∀s∈Eu ops.toList o,s∈W)/\∀s∈FD ops.toList o,s∈W)->IT.step (Cd C) run (pC C fid ops.toList rest σ K) h=some R->Dc C U0 w0 U Z σ h a w->
  (∀g f σ' h' a' w',IT.step (Cd C) run (K σ') h'=some R->Gd W σ σ'->Dc C U0 w0 g f σ' h' a' w'->Q .normal a' w')->wpOps C.P ops Q (List.range' k rest.length) a w
 |[],k,U,Z,σ,h,a,w,_,_,A3,hr,hQ=>by simp only[B1,List.range'_zero,wpOps];exact hQ U Z σ h a w A3 (.refl _ _) hr
 |o::rest,k,U,Z,σ,h,a,w,hk,hW,A3,hr,hQ=>by
  have ho:ops[k]?=some o:=by
   have:ops.toList[k]?=some o:=by have h0:=Ce (·[0]?) hk;simpa[Ct] using h0
   simpa using this
  have l:ops.toList.drop (k+1)=rest:=by have h0:=Ce (List.drop 1) hk;simpa[Ei] using h0
  obtain⟨lH,f_⟩:=hW o AK;simp only[Be,List.range'_succ,wpOps,ho];obtain⟨U1,e,c⟩:=gm hr lH;obtain⟨i,j,I6⟩:=aB A3;have Ko:Dc C U0 w0 U1 Z i h a w/\Gd W σ i:=by
   rcases j with rfl|⟨s,b,g1,g2,rfl⟩
   .exact⟨e,c⟩
   .have h0:=e.fr.Ij s;rw[g2] at h0;exact⟨e.eB h0,c.trans (.set (f_ s g1))⟩
  obtain⟨Ko,aFx⟩:=Ko;have next:∀g f σ' h' a' w',IT.step (Cd C) run (pC C fid ops.toList rest σ' K) h'=some R->Gd W σ σ'->Dc C U0 w0 g f σ' h' a' w'->wpOps C.P ops Q (List.range' (k+1) rest.length) a' w':=λg f σ' h' a' w' Qt xH F0=>p9 m rest (k+1) g f σ' h' a' w' l (λo ho=>hW o (by simp[ho])) Qt F0 λq p d h2 a2 n LL aMA aFy=>hQ q p d h2 a2 n LL (xH.trans aMA) aFy
  rcases I6 with⟨hg,I7⟩|⟨hg,I7⟩
  .rw[Ae (LO Ko hg)];unfold cm at I7;split at I7;.rename_i r hc;obtain⟨d,h2,hd,TX⟩:=YN I7;exact .inl (fy m hc hd Ko λg f a' w' F0=>next g f d h2 a' w' TX (aFx.trans ((p8 hc hd).mono lH)) F0)
   .cases I7
  .rw[Ac (by rw[LO Ko hg];simp)];exact next U1 Z _ h _ w I7 (aFx.trans (.put λs hs=>lH s (CC _ hs))) (Ko.put λ_ _=>rfl)
def lI{W:List Nat}{d:Option Nat}{σ σ':BW}(h:ML d σ σ')(hd:∀s∈d.toList,s∈W):Gd W σ σ':=by
 unfold ML at h;cases d with
 |none=>simp only at h;rw[h];exact .refl _ _
 |some d=>
  simp only at h;split at h;.obtain⟨b,_,rfl⟩:=h;exact .set (hd d AK)
  .rw[h];exact .refl _ _
def lJ{ops:List Oper}{an:List Nat}{W:List Nat}(hW:∀o∈ops,∀s∈Eu ops o,s∈W){fl:List Kw}{L:List St}{σ σf:BW}{h hf:Ah}(hs:Steps C fid ops run an fl L σ h σf hf):Gd W σ σf:=by
 induction hs with
 |nil=>exact .refl _ _
 |cons h1 _ _ ih=>
  refine Gd.trans ?_ ih;obtain⟨o,ho,⟨_,_,_,rfl,rfl⟩|⟨r,b,hg,hc,_,hd,_,ha⟩⟩:=h1;.exact .put λs hs=>hW o (CB ho) s (CC _ hs)
  .refine((p8 hc hd).mono λs hs=>hW o (CB ho) s hs).trans (lI ha λs hs=>?_);split at hs;.exact hW o (CB ho) s (CC _ hs)
   .simp at hs
def Wt(hm:C.P.follows .mixedOrders=true)(f:Fg C run){id:Nat}{ops:Array Oper}{draw:Bool}{Q:Exit->Act->World->Prop}{K:BW->IT}{R:J1}(A3:IT.step (Cd C) run (Rx C fid ops.toList draw σ K) h=some R)(hr:Dc C U0 w0 U Z σ h a w)
  (hQ:∀d c σ' h' a' w',IT.step (Cd C) run (K σ') h'=some R->Gd (ops.toList.flatMap (Eu ops.toList)++ops.toList.flatMap (FD ops.toList)) σ σ'->Dc C U0 w0 d c σ' h' a' w'->Q .normal a' w'):(Code.region id ops draw).wp C.P Q a w:=by
 unfold Rx at A3;cases draw with
 |false=>refine wp_region ?_;have:=p9 (W:=ops.toList.flatMap (Eu ops.toList)++ops.toList.flatMap (FD ops.toList)) f ops.toList 0 U Z σ h a w rfl (λo ho=>⟨λs hs=>CC _ (oW.2 ⟨o,ho,hs⟩),λs hs=>BY _ (oW.2 ⟨o,ho,hs⟩)⟩) A3 hr hQ;simpa[aK6] using this
 |true=>
  simp only[BT] at A3;split at A3
  .rename_i Ga;obtain⟨L,σf,hf,h1,h2,l⟩:=QY A3;refine wp_region_any hm ?_;have b:=h2;unfold VV at b;simp only[SH,BV,Bx] at b;have aFz:pZ (VT ops.toList) L:=by have:=Y4 b.1;rw[aR8] at this;exact this
   have hlt:=h1.lt;have ZT:∀i,i<ops.size->i∈L.map (·.idx):=λi hi=>by have:=DK.1 b.2 i (by simpa using hi);simpa using this
   have qk:(L.map (·.idx)).Nodup:=by rw[List.Nodup,aR8];exact aFz.imp λh=>h.1
   have hlen:L.length=ops.size:=by
    have k:(L.map (·.idx)).length<=(List.range ops.size).length:=Oa qk (λi hi=>by obtain⟨s,hs,rfl⟩:=Bl.1 hi;simpa using hlt s hs)
    have g:(List.range ops.size).length<=(L.map (·.idx)).length:=Oa List.nodup_range λi hi=>ZT i (by simpa using hi);simp at k g;omega
   have xH:=lJ (W:=ops.toList.flatMap (Eu ops.toList)++ops.toList.flatMap (FD ops.toList)) (λo ho s hs=>CC _ (oW.2 ⟨o,ho,hs⟩)) h1;refine xU f Ga (λd c a' w' F0=>hQ d c σf hf a' w' l xH F0) ops.size L _ U Z σ h a w.drew hlen h1 aFz ⟨AK,λi hi=>⟨λ_=>ZT i hi,λ_=>by simp[Array.getD,hi]⟩,λj hj e _=>?_⟩ hr.drew;exfalso;rcases AO j ops.size with hlt|Ef
   .simp[Array.getD,hlt] at hj
   .simp[Array.getD,Nat.not_lt.2 Ef] at hj
  .cases A3
end
end Go.Am
end
section
namespace Go.Am
open Go
def PX(x y:Er):Prop:=
 (∃u,x.Ho=some u/\y= .val u)\/(∃v,x= .Bw v/\y= .Bw v)\/∃ver cs ow Gm NR,x= .box ver cs ow/\y= .box Gm cs NR/\∀o∈NR,o∈ow
def BW.Iy:∀(ws:List Nat) (σ:BW) (s:Nat),(σ.clear ws).at s=if s∈ws then .undef else σ.at s
 |[],σ,s=>by simp[BW.clear]
 |t::ws,σ,s=>by
  rw[BW.clear,BW.Iy ws];by_cases h:s∈ws;.simp[h]
  .by_cases h2:s=t
   .subst h2;rw[BW.Wo];by_cases hl:s<σ.length;.simp[hl]
    .have:σ.at s= .undef:=by simp[BW.at,List.getD,hl]
     simp[h,hl,this]
   .rw[BW.Gc λe=>h2 e.symm];simp[h,h2]
def BW.Kb:∀(ws:List Nat) (σ:BW),(σ.clear ws).length=σ.length
 |[],σ=>rfl
 |t::ws,σ=>by rw[BW.clear,BW.Kb ws];simp
section
variable{C:FZ}{U0 U:Gh}{w0 w:World}{Z:Nat->Nat}{σ:BW}{h:Ah}{a:Act}{fid:FuncId}{run:IT->Ah->Option J1}
def PX.rel{B s:Nat}{x y:Er}{v:Value}(hx:Lu U Z B w s x v)(hf:PX x y):Lu U Z B w s y v:=by
 rcases hf with⟨u,hu,rfl⟩|⟨u,rfl,rfl⟩|⟨ver,cs,ow,Gm,NR,rfl,rfl,OQ⟩
 .exact Nk hx hu
 .exact hx
 .obtain⟨j,i,g,us,e,f,d,c,b⟩:=hx;exact⟨j,i,g,us,e,f,d,c,λo ho=>b o (OQ o ho)⟩
def TY{σs:BW}{G:BW->IT}{R:J1}{vs:List Aa}:∀{l:List (Nat×Sh)} {i:Nat} {σa:BW},VW σs l=some (vs.drop i)->σa.length=σs.length->IT.step (Cd C) run (JB vs l i σa G) h=some R->
  ∃b,IT.step (Cd C) run (G b) h=some R/\b.length=σa.length/\(∀s,s∉l.map (·.1)->b.at s=σa.at s)/\(∀s,s∈l.map (·.1)->PX (σs.at s) (b.at s)/\
   ((∃Gm GW NR,b.at s= .box Gm GW NR/\YK (σa.at s)<Gm)\/∀ver cs ow,σs.at s≠ .box ver cs ow))
 |[],i,σa,_,_,hr=>⟨σa,hr,rfl,λ_ _=>rfl,AK⟩
 |(s,sh)::l,i,σa,hv,hl,hr=>by
  have hd:∃v HS,vs.drop i=v::HS/\vs.drop (i+1)=HS/\vs.getD i .nilIface=v/\VW σs l=some HS/\
    (match(generalizing:=false) sh,σs.at s with| .val,x=>x.Ho| .Bw,.Bw v=>some v| .box n ow,.box _ cs NR=>if cs.length=n/\ow.all (NR.contains ·) then some (.agg cs) else none|_,_=>none)=some v:=by
   unfold VW at hv;simp only at hv;split at hv
   .rename_i v HS h1 h2;simp only[BE] at hv;refine⟨v,HS,hv.symm,?_,?_,h2,h1⟩;.have:=Ce (List.drop 1) hv;simpa[Ei] using this.symm
    .have:=Ce (·[0]?) hv;simp only[IK,Ct,Bv] at this;simp[List.getD,<-this]
   .cases hv
  obtain⟨v,HS,r,aMB,Z4,Wb,RQ⟩:=hd;have hlt:s<σa.length:=by rw[hl];refine BW.O2 λe=>?_;rw[e] at RQ;cases sh<;>simp[Er.Ho] at RQ
  have go:∀(y:Er),PX (σs.at s) y->((∃Gm GW NR,y= .box Gm GW NR/\YK (σa.at s)<Gm)\/∀ver cs ow,σs.at s≠ .box ver cs ow)->IT.step (Cd C) run (JB vs l (i+1) (σa.set s y) G) h=some R->
    ∃b,IT.step (Cd C) run (G b) h=some R/\b.length=σa.length/\(∀t,t∉((s,sh)::l).map (·.1)->b.at t=σa.at t)/\(∀t,t∈((s,sh)::l).map (·.1)->PX (σs.at t) (b.at t)/\
     ((∃Gm GW NR,b.at t= .box Gm GW NR/\YK (σa.at t)<Gm)\/∀ver cs ow,σs.at t≠ .box ver cs ow)):=by
   intro y hy c F0;obtain⟨b,q,p,j,m⟩:=TY (l:=l) (i:=i+1) (σa:=σa.set s y) (by rw[aMB];exact Wb) (by simpa using hl) F0;refine⟨b,q,by simpa using p,λt ht=>?_,λt ht=>?_⟩;.simp only[Bs,AS,M9] at ht;rw[j t ht.2,BW.Gc λe=>ht.1 e.symm]
   .by_cases hm:t∈l.map (·.1)
    .obtain⟨g,k⟩:=m t hm;refine⟨g,k.imp (λ⟨Gm,GW,NR,f,d⟩=>⟨Gm,GW,NR,f,?_⟩) id⟩;by_cases ZY:s=t
     .subst ZY;rw[BW.Fv hlt] at d;rcases c with⟨z,B,A,rfl,h1⟩|hn
      .simp only[YK] at d;omega
      .rcases g with⟨u,_,e⟩|⟨u,_,e⟩|⟨ver,cs,ow,_,_,e,_⟩
       .rw[f] at e;cases e
       .rw[f] at e;cases e
       .exact absurd e (hn _ _ _)
     .rwa [BW.Gc ZY] at d
    .have ZY:t=s:=by simp only[Bs,AS] at ht;exact ht.resolve_right hm
     subst ZY;rw[j t hm,BW.Fv hlt];exact⟨hy,c⟩
  cases sh with
  |val=>
   simp only[JB,Z4] at hr;have gp:(σs.at s).Ho=some v:=by simpa using RQ
   refine go (.val v) (.inl ⟨v,gp,rfl⟩) (.inr λver cs ow e=>?_) hr;rw[e] at gp;cases gp
  |Bw=>
   simp only[JB,Z4] at hr;cases hx:σs.at s with
   |Bw u=>rw[hx] at RQ;cases RQ;exact go (.Bw v) (.inr (.inl ⟨v,hx,rfl⟩)) (.inr λver cs ow e=>by rw[hx] at e;cases e) hr
   |_=>rw[hx] at RQ;cases RQ
  |box n ow=>
   simp only[JB,Z4,IT.step] at hr;cases hx:σs.at s with
   |box ver cs NR=>
    rw[hx] at RQ;simp only at RQ;split at RQ
    .rename_i HU;cases RQ;split at hr;.rename_i hn;rw[S1 hn] at hr;refine go (.box (YK (σa.at s)+1) cs ow) (.inr (.inr ⟨ver,cs,NR,_,ow,hx,rfl,λo ho=>?_⟩)) (.inl ⟨_,_,_,rfl,Na _⟩) hr;have:=DK.1 HU.2 o ho;simpa using this
     .cases hr
    .cases RQ
   |_=>rw[hx] at RQ;cases RQ
def Dc.aAm(hr:Dc C U0 w0 U Z σ h a w){O:BW}(hl:O.length=σ.length)(hs:∀s,O.at s= .undef\/O.at s=σ.at s\/PX (σ.at s) (O.at s)):Dc C U0 w0 U Z O h a w:=by
 refine⟨hr.D4,⟨by rw[hl];exact hr.fr.size,λs=>?_⟩,hr.DX,hr.defers,hr.GY⟩;have h0:=hr.fr.Ij s;rcases hs s with e|e|e
 .rw[e];trivial
 .rw[e];exact h0
 .exact e.rel h0
structure gq(σ0:BW)(ws:List Nat)(l:List (Nat×Sh))(σ':BW)(vs:List Aa):Prop where
 vec:VW σ' l=some vs
 len:σ'.length=σ0.length
 same:∀s,s∉l.map (·.1)->σ0.at s= .undef\/σ0.at s=σ'.at s
 box:∀s ver cs ow,σ0.at s= .box ver cs ow->∃Gm GW NR,σ'.at s= .box Gm GW NR
def fG{σ0 σ':BW}{l:List (Nat×Sh)}(hk:kC σ0 σ' l=true){s:Nat}(hs:s∉l.map (·.1)):(∀ver cs ow,σ0.at s= .box ver cs ow->∃GW NR,σ'.at s= .box ver GW NR)/\(∀t o,σ0.at s= .Fl t o->∃t' o',σ'.at s= .Fl t' o'):=by
 have hc:(l.map (·.1)).contains s=false:=by
  cases hc:(l.map (·.1)).contains s with
  |false=>rfl
  |true=>exact absurd (by simpa using hc) hs
 have Vn:s<σ0.length->(match σ0.at s with
   | .box ver _ _=>(l.map (·.1)).contains s||(match σ'.at s with| .box Gm _ _=>Gm==ver|_=>false)
   | .Fl _ _=>(l.map (·.1)).contains s||(match σ'.at s with| .Fl _ _=>true|_=>false)
   |_=>true)=true:=λhl=>by
  unfold kC at hk;exact DK.1 hk s (by simpa using hl)
 constructor
 .intro ver cs ow hx;have:=Vn (BW.O2 (by rw[hx];simp));rw[hx] at this;simp only[hc,Hi] at this;split at this
  .rename_i Gm GW NR hy;have e:Gm=ver:=by simpa using this
   subst e;exact⟨GW,NR,hy⟩
  .cases this
 .intro t o hx;have:=Vn (BW.O2 (by rw[hx];simp));rw[hx] at this;simp only[hc,Hi] at this;split at this;.rename_i t' o' hy;exact⟨t',o',hy⟩
  .cases this
def Pd{σ0 b σ':BW}{ws:List Nat}{l:List (Nat×Sh)}{x:Fp}{R:J1}(UK:IT.step (Cd C) run (SZ σ0 l x σ') h=some R)(xH:Gd ws b σ')(hlen:b.length=σ0.length)
  (UI:∀s,s∈ws->σ0.at s= .undef) (Ni:∀s,s∉l.map (·.1)->σ0.at s= .undef\/σ0.at s=b.at s) (aMC:∀s ver cs ow,σ0.at s= .box ver cs ow->∃Gm GW NR,b.at s= .box Gm GW NR):
  ∃vs,R=(x,vs,h)/\gq σ0 ws l σ' vs:=by
 unfold SZ at UK;split at UK
 .rename_i hk;split at UK
  .rename_i vs hv;cases UK;refine⟨vs,rfl,hv,xH.1.trans hlen,λs hs=>?_,λs ver cs ow hb=>?_⟩
   .by_cases hw:s∈ws;.exact .inl (UI s hw)
    .rcases Ni s hs with e|e
     .exact .inl e
     .right;have X6:=xH.2 s hw;obtain⟨i,g⟩:=fG hk hs;rw[e] at i g⊢;cases hx:b.at s with
      |box ver cs ow=>rw[hx] at X6;obtain⟨m,p,n,c,_,d⟩:=X6;obtain⟨k,f,j⟩:=i ver cs ow hx;rw[c] at j;cases j;obtain⟨rfl,rfl⟩:=d rfl;exact c.symm
      |Fl t o=>
       rw[hx] at X6;rcases X6 with c|c
       .exact c.symm
       .obtain⟨t',o',d⟩:=g t o hx;rw[c] at d;cases d
      |_=>rw[hx] at X6;exact(show σ'.at s=_ from X6).symm
   .have hw:s∉ws:=λhw=>by rw[UI s hw] at hb;cases hb
    obtain⟨m,p,n,c⟩:=aMC s ver cs ow hb;have X6:=xH.2 s hw;rw[c] at X6;obtain⟨v2,k,f,d,_⟩:=X6;exact⟨v2,k,f,d⟩
  .cases UK
 .cases UK
def gq.next{σ0 σ':BW}{ws:List Nat}{l:List (Nat×Sh)}{vs:List Aa}(he:gq σ0 ws l σ' vs){G:BW->IT}{R:J1}(hr:Dc C U0 w0 U Z σ' h a w)(A3:IT.step (Cd C) run (JB vs l 0 σ0 G) h=some R):
  ∃b,IT.step (Cd C) run (G b) h=some R/\Dc C U0 w0 U Z b h a w/\b.length=σ0.length/\(∀s,s∉l.map (·.1)->b.at s=σ0.at s)/\(∀s ver cs ow,σ0.at s= .box ver cs ow->∃Gm GW NR,b.at s= .box Gm GW NR/\(s∈l.map (·.1)->ver<Gm)):=by
 obtain⟨b,i,f,c,d⟩:=TY (σs:=σ') (by simpa using he.vec) he.len.symm A3;refine⟨b,i,hr.aAm (f.trans he.len.symm) λs=>?_,f,c,λs ver cs ow hb=>?_⟩
 .by_cases hm:s∈l.map (·.1);.exact .inr (.inr (d s hm).1)
  .rw[c s hm];rcases he.same s hm with e|e
   .exact .inl e
   .exact .inr (.inl e)
 .by_cases hm:s∈l.map (·.1)
  .obtain⟨_,q⟩:=d s hm;obtain⟨m,o,n,k⟩:=he.box s ver cs ow hb;rcases q with⟨Gm,GW,NR,j,g⟩|q
   .exact⟨Gm,GW,NR,j,λ_=>by rw[hb] at g;exact g⟩
   .exact absurd k (q _ _ _)
  .exact⟨ver,cs,ow,by rw[c s hm];exact hb,λh=>absurd h hm⟩
def Pe{σ σ0 b:BW}{ws W:List Nat}{l:List (Nat×Sh)}(h0:σ0=σ.clear ws)(hv:cq l ws σ=true)(hl:b.length=σ0.length)(h1:∀s,s∉l.map (·.1)->b.at s=σ0.at s)
  (h2:∀s ver cs ow,σ0.at s= .box ver cs ow->∃Gm GW NR,b.at s= .box Gm GW NR/\(s∈l.map (·.1)->ver<Gm)) (hW:∀s∈ws,s∈W):Gd W σ b:=by
 refine⟨by rw[hl,h0,BW.Kb],λs hs=>?_⟩;have c:s∉ws:=λhm=>hs (hW s hm);have e0:σ0.at s=σ.at s:=by rw[h0,BW.Iy,Ac c]
 by_cases hm:s∈l.map (·.1)
 .obtain⟨p,hp,rfl⟩:=Bl.1 hm;have:=DK.1 hv p hp;simp only[Oy,aE5] at this;rcases this with this|this
  .exact absurd this c
  .cases hx:σ.at p.1 with
   |box ver cs ow=>obtain⟨d,j,f,i,g⟩:=h2 p.1 ver cs ow (by rw[e0];exact hx);have:=g hm;exact⟨d,j,f,i,Ab,λe=>Ab⟩
   |_=>rw[hx] at this;cases this
 .rw[h1 s hm,e0];exact .refl _
def Fg.le{n m:Nat}(h:Fg C (IT.run (Cd C) n))(į:m<=n):Fg C (IT.run (Cd C) m):=⟨h.1,λf args h0 r h' A3=>h.2 f args h0 r h' (IT.Ib į A3)⟩
def gr(hm:C.P.follows .mixedOrders=true):∀(c:Code) (n:Nat),Fg C (IT.run (Cd C) n)->∀{K:Fp->BW->IT} {R:J1} {σ:BW} {h:Ah} {a:Act} {w:World} {U:Gh} {Z:Nat->Nat} {Q:Exit->Act->World->Prop},
  IT.step (Cd C) (IT.run (Cd C) n) (Gn C fid c σ K) h=some R->Dc C U0 w0 U Z σ h a w->
  (∀x f d σ' h' a' w',IT.step (Cd C) (IT.run (Cd C) n) (K x σ') h'=some R->Gd (Dd c++Ch c) σ σ'->Dc C U0 w0 f d σ' h' a' w'->Q (gl x) a' w')->c.wp C.P Q a w:=by
 intro c;induction c with
 |skip=>intro n p K R σ h a w U Z Q A3 hr g;exact wp_skip (g .normal U Z σ h a w A3 (.refl _ _) hr)
 |region id ops draw=>
  intro n p K R σ h a w U Z Q A3 hr g;simp only[Gn] at A3;split at A3;.exact Wt hm p A3 hr λf d σ' h' a' w' h1 h2 A=>g .normal f d σ' h' a' w' h1 h2 A
  .rename_i l hl;unfold ZS at A3;simp only at A3;split at A3
   .rename_i hv;simp only[IT.step] at A3;split at A3
    .rename_i x vs h1 Wu;refine Wt hm p Wu hr λf d σ' h' a' w' z u q=>?_;obtain⟨HS,e,he⟩:=Pd (h:=h') z u (by rw[BW.Kb]) (λs hs=>by rw[BW.Iy,Ae hs]) (λs _=>by rw[BW.Iy];split<;>simp) (λs ver cs ow hb=>by
      rw[BW.Iy] at hb;split at hb;.cases hb
      .exact⟨ver,cs,ow,hb⟩)
     cases e;obtain⟨k,F,E,L,J,I⟩:=he.next q A3;exact g .normal f d k h1 a' w' F (Pe rfl hv L J I (λs hs=>hs)) E
    .cases A3
   .cases A3
 |seq x y D B=>
  intro n p K R σ h a w U Z Q A3 hr g;simp only[Gn] at A3;refine wp_seq (D n p A3 hr λe f d σ' h' a' w' h1 h2 A=>?_);have up:∀j,Gd (Dd x++Ch x) σ j->Gd (Dd (.seq x y)++Ch (.seq x y)) σ j:=λj ho=>ho.mono λs hs=>by simp only[Dd,Ch,Av] at hs⊢;rcases hs with hs|hs<;>simp[hs]
  cases e with
  |normal=>refine B n p h1 A λX U2 Z2 j Y2 a2 Y z u q=>g X U2 Z2 j Y2 a2 Y z ((up _ h2).trans (u.mono λs hs=>?_)) q;simp only[Dd,Ch,Av] at hs⊢;rcases hs with hs|hs<;>simp[hs]
  |exit i=>exact g (.exit i) f d σ' h' a' w' h1 (up _ h2) A
  |ret=>exact g .ret f d σ' h' a' w' h1 (up _ h2) A
 |cond c x y D B=>
  intro n p K R σ h a w U Z Q A3 hr g;have N:∀{o j:BW},Gd (Dd x++Ch x) o j->Gd (Dd (.cond c x y)++Ch (.cond c x y)) o j:=λ{o j} ho=>ho.mono λs hs=>by cases c<;>simp only[Dd,Ch,Av,AS] at hs⊢<;>rcases hs with hs|hs<;>simp[hs]
  have M:∀{o j:BW},Gd (Dd y++Ch y) o j->Gd (Dd (.cond c x y)++Ch (.cond c x y)) o j:=λ{o j} ho=>ho.mono λs hs=>by cases c<;>simp only[Dd,Ch,Av,AS] at hs⊢<;>rcases hs with hs|hs<;>simp[hs]
  simp only[Gn] at A3;split at A3;.rename_i hc;obtain⟨s,h1,_⟩:=Gp hr hc;exact wp_cond_true h1 (D n p A3 hr λe f d σ' h' a' w' z u q=>g e f d σ' h' a' w' z (N u) q)
  .rename_i hc;obtain⟨s,h1,_⟩:=Gp hr hc;exact wp_cond_false h1 (B n p A3 hr λe f d σ' h' a' w' z u q=>g e f d σ' h' a' w' z (M u) q)
  .rename_i s v hc;have Ģ:σ.at s= .val v:=Hb hc;have h0:=hr.fr.Ij s;rw[Ģ] at h0;have G:∀{S:Fp->BW->IT} {R':J1} {Q':Exit->Act->World->Prop},IT.step (Cd C) (IT.run (Cd C) n) (.AE v (Gn C fid x (σ.set s (.OM true)) S) (Gn C fid y (σ.set s (.OM false)) S)) h=some R'->
     (∀e f d σ' h' a' w',IT.step (Cd C) (IT.run (Cd C) n) (S e σ') h'=some R'->Gd (Dd (.cond (.tmp s) x y)++Ch (.cond (.tmp s) x y)) σ σ'->Dc C U0 w0 f d σ' h' a' w'->Q' (gl e) a' w')->(Code.cond (.tmp s) x y).wp C.P Q' a w:=by
    intro S R' Q' Qt O;have xQ:∀b:Bool,Gd (Dd (.cond (.tmp s) x y)++Ch (.cond (.tmp s) x y)) σ (σ.set s (.OM b)):=λb=> .set (by simp[Ch]);simp only[IT.step] at Qt;split at Qt;.have hv:a.eval (.tmp s)= .bool true:=h0;exact wp_cond_true hv (D n p Qt (hr.eB h0) λe f d σ' h' a' w' z u q=>O e f d σ' h' a' w' z ((xQ true).trans (N u)) q)
    .have hv:a.eval (.tmp s)= .bool false:=h0;exact wp_cond_false hv (B n p Qt (hr.eB h0) λe f d σ' h' a' w' z u q=>O e f d σ' h' a' w' z ((xQ false).trans (M u)) q)
    .cases Qt
   split at A3;.exact G A3 g
   .rename_i l hl;unfold ZS at A3;simp only at A3;split at A3
    .rename_i hv;simp only[IT.step] at A3;split at A3
     .rename_i e vs h1 Wu;refine G Wu λX f d σ' h' a' w' z u q=>?_;obtain⟨HS,eq,he⟩:=Pd (h:=h') (ws:=s::(Dd x++Dd y++Ch x++Ch y)) z (u.mono λt ht=>by
        simp only[Dd,Ch,Av,AS] at ht⊢;rcases ht with(ht|ht)|ht|ht|ht<;>simp[ht]) (by rw[BW.Kb]) (λt ht=>by rw[BW.Iy,Ae ht]) (λt _=>by rw[BW.Iy];split<;>simp) (λt ver cs ow hb=>by
       rw[BW.Iy] at hb;split at hb;.cases hb
       .exact⟨ver,cs,ow,hb⟩)
      cases eq;obtain⟨k,F,E,L,J,I⟩:=he.next q A3;exact g e f d k h1 a' w' F (Pe rfl hv L J I (λt ht=>by simp only[Dd,Ch,Av,AS] at ht⊢;rcases ht with ht|((ht|ht)|ht)|ht<;>simp[ht])) E
     .cases A3
    .cases A3
  .cases A3
 |block id b ih=>
  intro n p K R σ h a w U Z Q A3 hr g;simp only[Gn] at A3;refine wp_block (ih n p A3 hr λe f d σ' h' a' w' h1 h2 A=>?_);cases e with
  |normal=>exact g .normal f d σ' h' a' w' h1 h2 A
  |exit i=>
   simp only at h1;show if i=id then Q .normal a' w' else Q (.exit i) a' w'
   by_cases hi:i=id;.rw[Ae hi] at h1⊢;exact g .normal f d σ' h' a' w' h1 h2 A
   .rw[Ac hi] at h1⊢;exact g (.exit i) f d σ' h' a' w' h1 h2 A
  |ret=>exact g .ret f d σ' h' a' w' h1 h2 A
 |loop b ih=>
  intro n p K R σ h a w U Z Q A3 hr g;simp only[Gn] at A3;generalize hl:C.ŭ fid ((GL b).getD 0)=l at A3;generalize aSD:(GL b).getD 0=key at A3;generalize h0:σ.clear (Dd b++Ch b)=σ0 at A3;split at A3
  .rename_i hv;split at A3;.cases A3
   .rename_i init aFA;have aFB:σ0.length=σ.length:=by rw[<-h0,BW.Kb]
    have UI:∀s,s∈Dd b++Ch b->σ0.at s= .undef:=λs hs=>by rw[<-h0,BW.Iy,Ae hs]
    refine aA (λm a w=>∃U Z o h vs,Dc C U0 w0 U Z o h a w/\gq σ0 (Dd b++Ch b) l o vs/\m<=n+1/\
     IT.run (Cd C) m (.loop key vs (λvs=>JB vs l 0 σ0 λk=>Gn C fid b k λx σ'=>SZ σ0 l x σ') λx vs=>JB vs l 0 σ0 λσ'=>ĝ K x σ') h=some R) ?_ (n+1) a w
     ⟨U,Z,σ,h,init,hr,⟨aFA,aFB.symm,λs _=>by rw[<-h0,BW.Iy];split<;>simp,λs ver cs ow hb=>by
      rw[<-h0,BW.Iy] at hb;split at hb;.cases hb
      .exact⟨ver,cs,ow,hb⟩⟩,Ag _,A3⟩
    rintro m a1 w1 ⟨U1,Z1,o,h1,vs,Ko,T,į,I7⟩;cases m with
    |zero=>simp[IT.run] at I7
    |succ m=>
     simp only[IT.run,IT.step] at I7;have body:∀{x:Fp} {HS:List Aa} {h':Ah},IT.step (Cd C) (IT.run (Cd C) m) (JB vs l 0 σ0 λk=>Gn C fid b k λx σ'=>SZ σ0 l x σ') h1=some (x,HS,h')->∀{Q':Exit->Act->World->Prop},
       (∀f d σ' a' w',Dc C U0 w0 f d σ' h' a' w'->gq σ0 (Dd b++Ch b) l σ' HS->Q' (gl x) a' w')->b.wp C.P Q' a1 w1:=by
      intro x HS h' hb Q' V;obtain⟨k,F,E,L,J,I⟩:=T.next Ko hb;refine ih m (p.le Ab) F E λy f d σ' h2 a' w' z u q=>?_;obtain⟨vs2,eq,he⟩:=Pd z u L UI (λs hs=> .inr (J s hs).symm) λs ver cs ow hb=>by obtain⟨v1,c1,o1,e1,_⟩:=I s ver cs ow hb;exact⟨v1,c1,o1,e1⟩
      cases eq;exact V f d σ' a' w' q he
     split at I7;.rename_i HS h' hb;exact body hb λf d σ' a' w' F0 Qf=>⟨m,Na m,f,d,σ',h',HS,F0,Qf,Ab,I7⟩
     .rename_i x HS h' hne hb;refine body hb λf d σ' a' w' F0 Qf=>?_;have TX:=IT.JN (λt h r=>IT.Ib (fn:=Cd C) (Ab:m<=n)) _ _ _ I7;obtain⟨k,F,E,L,J,I⟩:=Qf.next F0 TX;have ho:=Pe h0.symm hv L J I λs hs=>hs;cases x with
      |normal=>exact absurd rfl hne
      |exit i=>exact g _ f d k h' a' w' F ho E
      |ret=>exact g _ f d k h' a' w' F ho E
     .cases I7
  .cases A3
 |exit id=>intro n p K R σ h a w U Z Q A3 hr g;exact wp_exit (g (.exit id) U Z σ h a w A3 (.refl _ _) hr)
 |ret=>intro n p K R σ h a w U Z Q A3 hr g;exact wp_ret (g .ret U Z σ h a w A3 (.refl _ _) hr)
 |label l=>intro n p K R σ h a w U Z Q A3 hr g;exact wp_label (g .normal U Z σ h a w A3 (.refl _ _) hr)
 |scope b ih=>
  intro n p K R σ h a w U Z Q A3 hr g;simp only[Gn] at A3;refine wp_scope_straight (ih n p A3 hr λe f d σ' h' a' w' h1 h2 A=>?_);cases e with
  |normal=>exact g .normal f d σ' h' a' w' h1 h2 A
  |exit i=>exact g (.exit i) f d σ' h' a' w' h1 h2 A
  |ret=>exact g .ret f d σ' h' a' w' h1 h2 A
 |_=>intros n p K R σ h a w U Z Q A3 hr g;cases A3
end
end Go.Am
end
section
namespace Go.Am
open Go
section
variable{C:FZ}{U0 U:Gh}{w0 w:World}{Z:Nat->Nat}{σ:BW}{h:Ah}{a:Act}{fid:FuncId}{run:IT->Ah->Option J1}
def Iz(tmps:Array Value):ResultVar->Sem Value
 | .tmp t=>pure (tmps.getD t undef)
 | .cell a t=>do loadVar t (<-asAddr (tmps.getD a undef))
def RR{P:Program}{t:TypeId}{b o:Nat}{v:Value}(h:(Instr.loadAt t (.pointer (some ⟨b,o,none⟩))).run P w= .ok v w):(loadVar t ⟨b,o,none⟩).run P w= .ok v w:=by simpa[Instr.loadAt,Instr.sureAddr] using h
def TZ{K:List Aa->IT}{R:J1}:∀{rs:List ResultVar} {DX:List Aa},IT.step (Cd C) run (GI C σ rs DX K) h=some R->Dc C U0 w0 U Z σ h a w->
  ∃vs us,(rs.mapM (Iz a.tmps)).run C.P w= .ok us w/\Bi U vs us/\IT.step (Cd C) run (K (DX.reverse++vs)) h=some R
 |[],DX,A3,hr=>⟨[],[],AK,rfl,by simpa[GI] using A3⟩
 |f::rs,DX,A3,hr=>by
  have one:∀(v:Aa) (u:Value),(Iz a.tmps f).run C.P w= .ok u w->BU U v u->IT.step (Cd C) run (GI C σ rs (v::DX) K) h=some R->
    ∃vs us,((f::rs).mapM (Iz a.tmps)).run C.P w= .ok us w/\Bi U vs us/\IT.step (Cd C) run (K (DX.reverse++vs)) h=some R:=by
   intro v u h1 h2 m;obtain⟨vs,us,z,y,x⟩:=TZ m hr;refine⟨v::vs,u::us,?_,⟨u,us,rfl,h2,y⟩,by simpa using x⟩;simp[List.mapM_cons,h1,z]
  cases f with
  |tmp t=>
   simp only[GI] at A3;split at A3;.rename_i v hv;exact one v _ (by simp[Iz]) (Nk (hr.fr.Ij t) hv) A3
   .cases A3
  |cell p t=>
   have c:∀(b o:Nat) (v:Aa),a.tmps.getD p undef= .pointer (some ⟨b,o,none⟩)->(∃u,(Instr.loadAt t (.pointer (some ⟨b,o,none⟩))).run C.P w= .ok u w/\BU U v u)->IT.step (Cd C) run (GI C σ rs (v::DX) K) h=some R->
     ∃vs us,((ResultVar.cell p t::rs).mapM (Iz a.tmps)).run C.P w= .ok us w/\Bi U vs us/\IT.step (Cd C) run (K (DX.reverse++vs)) h=some R:=by
    intro b o v hp ⟨u,h1,h2⟩ m;refine one v u ?_ h2 m;simp only[Iz,hp,asAddr,Sem.run_bind,Sem.run_pure,Result.andThen_ok];exact RR h1
   simp only[GI] at A3;split at A3
   .rename_i s off ver cs ow ht ha;split at A3;.rename_i hlt;obtain⟨hs,hx⟩:=K9 hr ha;obtain⟨u,i,g,_⟩:=KS hr ht hs (r:=cs.getD off .nilIface) (off:=off) (by simp[Ft,List.getD,Ai hlt]);exact c _ _ _ hx ⟨u,i,g⟩ A3
    .cases A3
   .rename_i n s off ver cs ow ht ha;split at A3;.rename_i En;obtain⟨hs,hx⟩:=K9 hr ha;obtain⟨u,i,g,_⟩:=KS hr ht hs (r:= .agg ((cs.drop off).take n)) (off:=off) (by simp[Ft,En]);exact c _ _ _ hx ⟨u,i,g⟩ A3
    .cases A3
   .rename_i n p' ht ha;simp only[IT.step] at A3;split at A3
    .rename_i v hv;have pT:=QV hr ha;unfold Bg at hv;split at hv;.rename_i cs;obtain⟨b,k,eT,hm⟩:=pT;obtain⟨us,l,d⟩:=hm.values;exact c b k v eT (Iw (w:=w) ht l (λj u hj=>(hr.D4.Io _ _ _ (d j u hj)).1) (λu hu=>by obtain⟨j,hj⟩:=CR hu;exact(hr.D4.Io _ _ _ (d j u hj)).2.1) hv) A3
     .rename_i id off;obtain⟨b,hb,eT⟩:=pT;split at hv
      .rename_i cs hcs;obtain⟨us,e,fr,l,pf,d,q⟩:=hr.D4.cells id cs hcs b hb;refine c b off v eT (Iw (w:=w) (b:=b) (o:=off) ht (d.drop off) (λj u hj=>?_) (λu hu=>q u (BG hu)) (O6 hv)) A3;rw[cell_of_row w _ _ us e fr l];rw[Ct,Cj] at hj;split at hj;.simpa using hj
       .cases hj
      .cases hv
     .cases hv
    .cases A3
   .cases A3
def Dc.HE(hr:Dc C U0 w0 U Z σ h a w){p:Aa}{off:Nat}{u:Value}{h':Ah}(hp:BU U p u)(hf:L5 h off p=some h'):∃s,Dc C U0 w0 s Z σ h' a w:=by
 unfold L5 at hf;split at hf;.cases hf;exact⟨U,hr⟩
 .rename_i id n;generalize n+off=o at hf;obtain⟨b,hb,_⟩:=hp;split at hf
  .rename_i cs hcs;split at hf
   .rename_i v hv;obtain⟨us,e,fr,c,pf,m,A⟩:=hr.D4.cells id cs hcs b hb;obtain⟨x,hx,Ź⟩:=m.get hv;cases hq:Kq h v with
    |none=>rw[hq] at hf;cases hf
    |some q=>
     obtain⟨h1,v'⟩:=q;rw[hq] at hf;simp only[Cv] at hf;split at hf
     .rename_i GW aFC;cases hf;obtain⟨U1,En,Ko,rp⟩:=hr.LK Ź hq;have SP:=En.mu _ _ hb;obtain⟨j,B,r,g,k,r2,l⟩:=Ko.D4.cells id GW aFC b SP;rw[c] at g;cases g;have xQ:Bi U1 (GW.set o v') (us.toList.take (GW.set o v').length):=by
       rw[Br];refine Bi.Ha (by simp[r2.length]) λi y z hy hz=>?_;by_cases hi:o=i
       .subst hi;by_cases hlt:o<GW.length
        .rw[AQ hlt] at hy;cases hy;have f:x=z:=by rw[CZ hlt] at hz;have aME:o<cs.length:=(Ak.1 hv).1;rw[CZ aME] at hx;rw[hx] at hz;exact D3 hz
         rw[<-f];exact rp
        .rw[D9 (by simpa using hlt)] at hy;cases hy
       .rw[Ao hi] at hy;obtain⟨t,Yc,d⟩:=r2.get hy;rw[hz] at Yc;cases Yc;exact d
      obtain⟨Vl,OP⟩:=Nh Ko.D4 aFC SP c us (GW.set o v') rfl k xQ (by rw[Br];exact l);rw[setRow_self w b us e fr c] at Vl OP;exact⟨U1,Ko.I5 Vl OP⟩
     .cases hf
   .cases hf
  .cases hf
 .cases hf
def qA{t:IT}{R:J1}:∀{l:List (Nat×Nat)} {U:Gh} {h:Ah},IT.step (Cd C) run (pF C σ l t) h=some R->Dc C U0 w0 U Z σ h a w->∃b h',Dc C U0 w0 b Z σ h' a w/\IT.step (Cd C) run t h'=some R
 |[],U,h,A3,hr=>⟨U,h,hr,A3⟩
 |(s,off)::l,U,h,A3,hr=>by
  simp only[pF] at A3;split at A3
  .rename_i p hp;simp only[IT.step] at A3;split at A3;.rename_i h1 hf;obtain⟨U1,Ko⟩:=hr.HE (Nk (hr.fr.Ij s) hp) hf;exact qA A3 Ko
   .cases A3
  .cases A3
def Wv{R:J1}:∀{vs DX:List Aa} {U:Gh} {h:Ah} {us bb:List Value},IT.step (Cd C) run (O0 vs DX TL) h=some R->Dc C U0 w0 U Z σ h a w->Bi U vs us->Bi U DX.reverse bb->
  ∃c h' HS,Dc C U0 w0 c Z σ h' a w/\Bi c HS (bb++us)/\IT.step (Cd C) run (TL HS) h'=some R
 |[],DX,U,h,us,bb,A3,hr,h1,h2=>by rw[show us=[] from h1,BK];exact⟨U,h,DX.reverse,hr,h2,A3⟩
 |v::vs,DX,U,h,us,bb,A3,hr,h1,h2=>by
  obtain⟨u,DM,rfl,hv,h1⟩:=h1;simp only[O0,IT.step] at A3;split at A3
  .rename_i k v' hf;obtain⟨U1,En,Ko,rp⟩:=hr.LK hv hf;have i:Bi U1 (v'::DX).reverse (bb++[u]):=by rw[EJ];exact(Bi.mono En _ _ h2).append ⟨u,[],rfl,rp,rfl⟩
   obtain⟨j,g,b,f,e,d⟩:=Wv A3 Ko (Bi.mono En _ _ h1) i;exact⟨j,g,b,f,by rwa [AJ] at e,d⟩
  .cases A3
def qB{R:J1}{vs:List Aa}{us:List Value}{U:Gh}{h:Ah}(A3:IT.step (Cd C) run (TL vs) h=some R)(hv:Bi U vs us):
  ∃r,R=(.ret,[r],h)/\BU U r (if c:us.toArray.size=1 then us.toArray[0] else .tuple us.toArray):=by
 unfold TL at A3;split at A3;.rename_i v;obtain⟨u,DM,rfl,b,hnil⟩:=hv;rw[show DM=[] from hnil];simp only[IT.step] at A3;cases A3;exact⟨v,rfl,by simpa using b⟩
 .rename_i hne;simp only[IT.step] at A3;cases A3;have hlen:us.length≠1:=λe=>by have:=hv.length;rw[e] at this;obtain⟨v,hv⟩:=aEq.1 this.symm;exact hne v hv
  refine⟨_,rfl,?_⟩;rw[dif_neg (by simpa using hlen)];exact⟨us.toArray,rfl,by simpa using hv⟩
def T0{fn:Func}{tmps:Array Value}{us:List Value}(h:(fn.results.toList.mapM (Iz tmps)).run C.P w= .ok us w):(results fn tmps).run C.P w= .ok (if b:us.toArray.size=1 then us.toArray[0] else .tuple us.toArray) w:=by
 have e:fn.results.mapM (Iz tmps)=(do let l<-fn.results.toList.mapM (Iz tmps);pure l.toArray:Sem (Array Value)):=by rw[Array.mapM_eq_mapM_toList];simp
 have c:results fn tmps=(do let vs<-fn.results.mapM (Iz tmps);pure (if b:vs.size=1 then vs[0] else .tuple vs):Sem Value):=by unfold results;congr 2
 rw[c,e];simp only[Sem.run_bind,h,Result.andThen_ok,Sem.run_pure]
def sx{fn:Func}{R:J1}(A3:IT.step (Cd C) run (dZ C fid fn σ) h=some R)(hr:Dc C U0 w0 U Z σ h a w):
  ∃r h' v f,R=(.ret,[r],h')/\(results fn a.tmps).run C.P w= .ok v w/\Hj f h' w/\K6 U0 w0 f w/\BU f r v/\(C.Jb fid=true->∃s c,IQ f w0.heap.size w s c v r):=by
 unfold dZ at A3;split at A3;.cases A3
 .rename_i FG;obtain⟨U1,h1,Ko,I7⟩:=qA A3 hr;by_cases ho:C.Jb fid=true
  .have g:∃t x,fn.results.toList=[.tmp t]/\σ.at t= .Bw x:=by
    have:PO σ fn.results.toList=true:=by
     cases hq:PO σ fn.results.toList with
     |true=>rfl
     |false=>exact absurd (by simp[ho,hq]) FG
    unfold PO at this;split at this
    .rename_i t Kp;split at this;.rename_i x hx;exact⟨t,x,Kp,hx⟩
     .cases this
    .cases this
   obtain⟨t,x,d,hx⟩:=g;have h0:=Ko.fr.Ij t;rw[hx] at h0;have sy:=T0 (C:=C) (w:=w) (fn:=fn) (tmps:=a.tmps) (us:=[a.tmps.getD t undef]) (by rw[d];simp[Iz]);rw[d] at I7;simp only[GI,hx,Er.Ho,EJ,SH,BV] at I7;have aFD:Kq h1 x=some (h1,x):=by rcases h0.2 with(rfl|⟨_,rfl⟩)|⟨_,_,_,_,_,_,_,rfl,_⟩<;>rfl
   have hR:R=(.ret,[x],h1):=by
    split at I7;.simp only[O0,IT.step,aFD,EJ,SH,BV,TL] at I7;cases I7;rfl
    .simp only[IT.step,TL] at I7;cases I7;rfl
   exact⟨x,h1,_,U1,hR,by simpa using sy,Ko.D4,Ko.DX,h0.1,λ_=>⟨t,none,h0.2⟩⟩
  .obtain⟨vs,us,n,k,TX⟩:=TZ I7 Ko;simp only[SH,BV] at TX;have sy:=T0 (C:=C) n;split at TX;.obtain⟨o,h2,l,j,i,m⟩:=Wv TX Ko k (bb:=[]) rfl;rw[BV] at i;obtain⟨r,hR,b⟩:=qB m i;exact⟨r,h2,_,o,hR,sy,j.D4,j.DX,b,λe=>absurd e ho⟩
   .obtain⟨r,hR,b⟩:=qB TX k;exact⟨r,h1,_,U1,hR,sy,Ko.D4,Ko.DX,b,λe=>absurd e ho⟩
def Dc.start{U:Gh}{h:Ah}{w:World}(hi:Hj U h w)(hg:∀g cs,C.GY g=some cs->C4 U cs g 0){args:List Aa}{cargs:Array Value}(ha:Bi U args cargs.toList)(n:Nat)(Z:Nat->Nat):
  Dc C U w U Z (args.map .val++List.replicate (n-args.length) .undef) h {tmps:=cargs++Array.replicate (n-cargs.size) undef,defers:=[]} w:=by
 have hlen:cargs.size=args.length:=by have:=ha.length;simpa using this
 refine⟨hi,⟨by simp[hlen],λs=>?_⟩,K6.refl U w,rfl,hg⟩;by_cases hs:s<args.length
 .have h1:BW.at (args.map .val++List.replicate (n-args.length) .undef) s= .val args[s]:=by simp[BW.at,List.getD,Aj,hs]
  obtain⟨u,hu,hr⟩:=ha.get (Ai hs);have h2:(cargs++Array.replicate (n-cargs.size) undef).getD s undef=u:=by
   rw[Hg,Array.getElem?_append_left Ab];have:cargs[s]?=some u:=by simpa using hu
   rw[this];rfl
  rw[h1,h2];exact hr
 .have h1:BW.at (args.map .val++List.replicate (n-args.length) .undef) s= .undef:=by have hm:(args.map Er.val).length=args.length:=AK;simp only[BW.at,List.getD];rw[Bm Ab,List.getElem?_replicate];split<;>rfl
  rw[h1];trivial
def aC(C:FZ):Prop:=
 (∀f,C.Nb f=true->ey C f)/\∀(f:FuncId) (p:List Aa->IT),C.Ů f=some p->∀n,Fg C (IT.run (Cd C) n)->∀(args:List Aa) (h:Ah) (r:Aa) (h':Ah),IT.step (Cd C) (IT.run (Cd C) n) (p args) h=some (.ret,[r],h')->
  (∃fn c,C.P.funcs[EE f]?=some fn/\(fn.name== "runtime.NumGoroutine")=false/\fn.body=some c)/\
  ∀(U:Gh) (w:World) (cargs:Array Value),Hj U h w->(∀g cs,C.GY g=some cs->C4 U cs g 0)->Bi U args cargs.toList->
   Calls C.P (EE f) cargs w λe w'=>match e with
    | .returned v=>∃b,Hj b h' w'/\K6 U w b w'/\BU b r v/\(C.Jb f=true->∃s c,IQ b w.heap.size w' s c v r)
    |_=>False
def fH(hm:C.P.follows .mixedOrders=true)(gu:∀g cs,C.GY g=some cs->cs.all Aa.ME=true)(İ:aC C):∀n,Fg C (IT.run (Cd C) n)
 |0=>⟨⟨gu,İ.1⟩,λf args h r h' A3=>by simp[IT.run] at A3⟩
 |n+1=>⟨⟨gu,İ.1⟩,λf args h r h' A3=>by
  have ih:=fH hm gu İ n;simp only[IT.run] at A3;unfold Cd at A3;split at A3;.rename_i p hp;exact İ.2 f p hp n ih args h r h' A3
  unfold aFd at A3;split at A3
  .rename_i fn hf;split at A3;.cases A3
   .rename_i hname;unfold cr at A3;split at A3;.cases A3
    .rename_i c hb;refine⟨⟨fn,c,hf,by simpa using hname,hb⟩,λU w cargs hi hg ha=>calls_of_wp hf hb ?_⟩;refine gr (C:=C) (fid:=f) hm c n ih A3 (Dc.start hi hg ha fn.ntmps (λ_=>0)) λx u t σ' h1 a' w' d _ j=>?_;have HC:IT.step (Cd C) (IT.run (Cd C) n) (dZ C f fn σ') h1=some (.ret,[r],h')->a'.defers=[]/\∃v,(results fn a'.tmps).run C.P w'= .ok v w'/\∃b,Hj b h' w'/\K6 U w b w'/\BU b r v/\(C.Jb f=true->∃s c,IQ b w.heap.size w' s c v r):=λaMG=>by obtain⟨r',h2,v,b,e,q,o,m,l,k⟩:=sx aMG j;cases e;exact⟨j.defers,v,q,b,o,m,l,k⟩
     cases x with
     |normal=>exact HC d
     |ret=>exact HC d
     |exit i=>cases d
  .cases A3⟩
end
def Ev.calls{C:FZ}(hm:C.P.follows .mixedOrders=true)(gu:∀g cs,C.GY g=some cs->cs.all Aa.ME=true)(İ:aC C){f:FuncId}{args:List Aa}{h:Ah}{Q:Aa->Ah->Prop}(Jc:Ev C f args h Q){U:Gh}{w:World}{cargs:Array Value}(hi:Hj U h w)(hg:∀g cs,C.GY g=some cs->C4 U cs g 0)(ha:Bi U args cargs.toList):
  Calls C.P (EE f) cargs w λe w'=>match e with
   | .returned v=>∃r h' b,Q r h'/\Hj b h' w'/\K6 U w b w'/\BU b r v
   |_=>False:=by
 obtain⟨n,x,vs,h',A3,rfl,r,rfl,hQ⟩:=Jc;refine(((fH hm gu İ n).2 f args h r h' A3).2 U w cargs hi hg ha).mono λe w' he=>?_;cases e with
 |returned v=>obtain⟨b,i,d,c,_⟩:=he;exact⟨r,h',b,hQ,i,d,c⟩
 |_=>exact he
end Go.Am
end
section
namespace Go.Am
open Go
inductive Ty where
 |bool
 |int (k:IntKind)
 |str
 |sl (e:Ty)
 |st (fs:List Ty)
 deriving Inhabited
mutual
def Ty.size:Ty->Nat
 | .bool| .int _| .str| .sl _=>1
 | .st fs=>Ty.MM fs
def Ty.MM:List Ty->Nat
 |[]=>0
 |t::ts=>Ty.size t+Ty.MM ts
end
mutual
def Qg(P:Program):Ty->TypeId->Bool
 | .bool,t=>match P.underlying t with|some .bool=>true|_=>false
 | .int k,t=>match P.underlying t with|some (.int k')=>decide (k'=k)|_=>false
 | .str,t=>match P.underlying t with|some .string=>true|_=>false
 | .sl e,t=>match P.underlying t with
  |some (.slice b)=>P.cellsOf b==Ty.size e&&decide (0<Ty.size e)&&Qg P e b
  |_=>false
 | .st fs,t=>match P.underlying t with
  |some (.struct fields)=>P.cellsOf t==Ty.MM fs&&Pf P fs fields.toList 0
  |_=>false
def Pf(P:Program):List Ty->List Field->Nat->Bool
 |[],[],_=>true
 |ty::tys,f::fs,off=>f.offset==off&&P.cellsOf f.type==Ty.size ty&&Qg P ty f.type&&Pf P tys fs (off+Ty.size ty)
 |_,_,_=>false
end
mutual
def Y5:Ty->List Aa->Prop
 | .bool,l=>∃b,l=[.bool b]
 | .int k,l=>∃n,l=[.int k n]/\(Lit.int k n).wf=true
 | .str,l=>∃s:Aq,l=[.str s]/\s.length<=maxLen
 | .sl e,l=>l=[.slnil]\/∃Az:List (List Aa),l=[.sl (Ty.size e) Az]/\Az.length<=maxLen/\∀r∈Az,Y5 e r
 | .st fs,l=>xW fs l
def xW:List Ty->List Aa->Prop
 |[],l=>l=[]
 |ty::tys,l=>∃a b,l=a++b/\Y5 ty a/\xW tys b
end
def Ty.aAp:Ty->Bool
 | .st _=>true
 |_=>false
def lK(ty:Ty)(a:Aa):Prop:=if ty.aAp then∃cs,a= .agg cs/\Y5 ty cs else Y5 ty [a]
def Vo:List Ty->List Aa->Prop
 |[],l=>l=[]
 |ty::tys,l=>∃a b,l=a::b/\lK ty a/\Vo tys b
def Gr(W:World):Gh:={Io:=λb o=>(W.cell? ⟨b,o,none⟩).filter (·.oneCell'),mu:=λ_=>none,Bw:=λ_=>none,sz:=λ_=>none}
def gw(W:World):Hj (Gr W) [] W:=by refine⟨λb o v h=>?_,λid x h=>by simp at h,λid cs h=>by simp at h,λid es h=>by simp at h,λid b h=>(by cases h),λb x h=>(by cases h),λb n h=>(by cases h)⟩;simp only[Gr,Ql] at h;exact⟨h.1,h.2,.inl rfl⟩
def S7{W:World}{b o:Nat}{v:Value}(h:W.cell? ⟨b,o,none⟩=some v)(h1:v.oneCell'=true):(Gr W).Io b o=some v:=by simp[Gr,h,h1,Option.filter]
def T1{V:Type}{p:Nat->V->Prop}:∀(n:Nat),(∀i,i<n->∃x,p i x)->∃l:List V,l.length=n/\∀i x,l[i]?=some x->p i x
 |0,_=>⟨[],rfl,AK⟩
 |n+1,h=>by
  obtain⟨l,hl,hp⟩:=T1 n λi hi=>h i Ab;obtain⟨x,hx⟩:=h n Ab;refine⟨l++[x],by simp[hl],λi y hy=>?_⟩;rw[aK5] at hy;split at hy;.exact hp i y hy
  .have:i-l.length=0:=by
    rcases Jf (i-l.length) with h0|h0
    .exact h0
    .rw[D9 Eg] at hy;cases hy
   rw[this] at hy;simp at hy;subst hy;have:i=n:=Ab;rw[this];exact hx
section
variable{H:Type}{enc:TypeId×Value->H}{P:Program}{W:World}
def Qu{a:Addr}{n:Nat}{cs:List Value}(h:W.cells? 0 a n=some cs)(hn:0<n):a.spot=none:=by
 obtain⟨_,hl,hc⟩:=World.cells?_some h;have h0:=hc 0 hn;have hlt:0<cs.length:=Ab;rw[Ai hlt] at h0;unfold World.cell? at h0;have ha:a.add 0=a:=by simp[Addr.add]
 rw[ha] at h0;split at h0
 .split at h0;.cases h0
  .rename_i hs;simpa using hs
 .cases h0
mutual
def aD:∀(ty:Ty) {t:TypeId} {fuel:Nat} {cs:List Value} {x:DataW H×List MemPlace},Qg P ty t=true->DataW.trod enc P W 0 (λ_=>true) true fuel t cs=some x->
  ∃as,Y5 ty as/\Bi (Gr W) as cs/\(∀u∈cs,u.oneCell'=true)/\as.length=Ty.size ty
 | .bool,t,fuel,cs,x,LF,h=>by
  unfold Qg at LF;split at LF;.rename_i ht;obtain⟨b,rfl,_⟩:=DataW.trod_bool ht h;exact⟨[.bool b],⟨b,rfl⟩,⟨_,[],rfl,rfl,rfl⟩,by simp[Value.oneCell'],rfl⟩
  .cases LF
 | .int k,t,fuel,cs,x,LF,h=>by
  unfold Qg at LF;split at LF
  .rename_i k' ht;have hk:k'=k:=by simpa using LF
   subst hk;obtain⟨n,rfl,_,hw⟩:=DataW.trod_int ht h;exact⟨[.int k' n],⟨n,rfl,hw⟩,⟨_,[],rfl,rfl,rfl⟩,by simp[Value.oneCell'],rfl⟩
  .cases LF
 | .str,t,fuel,cs,x,LF,h=>by
  unfold Qg at LF;split at LF
  .rename_i ht;obtain⟨s,rfl,_,hs⟩:=DataW.trod_string ht h;refine⟨[.str s.data.toList],⟨_,rfl,by
    have e:s.data.toList.length=s.size:=by rw[Ci];rfl
    rw[e];exact hs⟩,⟨_,[],rfl,?_,rfl⟩,by simp[Value.oneCell'],rfl⟩
   show Value.string s= .string ⟨⟨s.data.toList⟩⟩;congr 1
  .cases LF
 | .sl e,t,fuel,cs,x,LF,h=>by
  unfold Qg at LF;split at LF
  .rename_i z ht;simp only[Bx,qe,CX] at LF;obtain⟨⟨hce,hpos⟩,aMH⟩:=LF;rcases DataW.trod_slice ht h with⟨rfl,_⟩|⟨a,len,cap,elems,rest,n,_,rfl,_,_,hl,hm,hlen,c,hsp,_⟩
   .exact⟨[.slnil],.inl rfl,⟨_,[],rfl,rfl,rfl⟩,by simp[Value.oneCell'],rfl⟩
   .have spot:0<cap->a.spot=none:=λhc=>by
     have ha:a.add 0=a:=by simp[Addr.add]
     rcases Jf len with h0|h0
     .obtain⟨Ko,LL⟩:=hsp rfl;have:=LL 0 Ab;rw[Ai (Ab:0<rest.length)] at this;have ı:(len+0)*P.cellsOf z=0:=by rw[h0];simp
      rw[ı,ha] at this;obtain⟨vs,hv,_⟩:=SI.1 this;exact Qu hv Ab
     .have:=c 0 h0;rw[Ai (Ab:0<elems.length)] at this;rw[Mv,ha] at this;obtain⟨vs,hv,_⟩:=SI.1 this;exact Qu hv Ab
    obtain⟨Az,jN,eX⟩:=T1 (p:=λi (r:List Aa)=>Y5 e r/\r.length=Ty.size e/\C4 (Gr W) r a.block (a.off+i*Ty.size e)) len λi hi=>by
     have:=c i hi;rw[Ai (Ab:i<elems.length)] at this;obtain⟨vs,hv,hd⟩:=SI.1 this;obtain⟨r,m,g,d,l⟩:=aD e aMH hd;refine⟨r,m,l,C4.Ha λj y hj=>?_⟩;obtain⟨u,hu,q⟩:=g.get hj;obtain⟨_,hvl,v⟩:=World.cells?_some hv;have YX:j<P.cellsOf z:=by have:=(Ak.1 hu).1;omega
     have hc:=v j YX;rw[hu] at hc;have kL:a=⟨a.block,a.off,none⟩:=by have:=spot Ab;cases a;simp_all
     have Nl:(a.add (i*P.cellsOf z)).add j=⟨a.block,a.off+i*Ty.size e+j,none⟩:=by rw[hce];generalize a.block=b at*;generalize a.off=o at*;subst kL;rw[Addr.add_lit,Addr.add_lit]
     rw[Nl] at hc;exact⟨u,S7 hc (d u (CB hu)),q⟩
    refine⟨[.sl (Ty.size e) Az],.inr ⟨Az,rfl,Ab,λr hr=>?_⟩,⟨_,[],rfl,⟨a,cap,by rw[jN],Ab,?_,E7.Ha λi r hr=>?_⟩,rfl⟩,by simp[Value.oneCell'],rfl⟩;.obtain⟨i,hi⟩:=CR hr;exact(eX i r hi).1
    .rcases Jf cap with h0|h0
     .exact .inr h0
     .exact .inl (spot h0)
    .exact⟨(eX i r hr).2.1,(eX i r hr).2.2⟩
  .cases LF
 | .st fs,t,fuel,cs,x,LF,h=>by
  unfold Qg at LF;split at LF
  .rename_i fields ht;simp only[Bx,qe] at LF;obtain⟨hct,hf⟩:=LF;obtain⟨xs,n,_,_,hcl,A,ZT⟩:=DataW.trod_struct ht h;obtain⟨as,m,g,d,l⟩:=T2 fs (fields:=fields.toList) (off:=0) (cs:=cs) (n:=n) hf (λi f hi=>by
    have:=ZT i f (by simpa using hi);have hlt:i<fields.size:=by have:=(Ak.1 hi).1;simpa using this
    rw[Ai (Ab:i<xs.length)] at this;exact⟨_,this⟩) (by rw[hcl,hct];omega)
   have B:(cs.drop 0).take (Ty.MM fs)=cs:=by rw[Mt];exact AD (by rw[hcl,hct];exact Ag _)
   rw[B] at g d;exact⟨as,m,g,d,l⟩
  .cases LF
def T2:∀(tys:List Ty) {fields:List Field} {off:Nat} {cs:List Value} {n:Nat},Pf P tys fields off=true->
  (∀(i:Nat) (f:Field),fields[i]?=some f->∃y,DataW.trod enc P W 0 (λ_=>true) true n f.type ((cs.drop f.offset).take (P.cellsOf f.type))=some y)->off+Ty.MM tys<=cs.length->
  ∃as,xW tys as/\Bi (Gr W) as ((cs.drop off).take (Ty.MM tys))/\(∀u∈(cs.drop off).take (Ty.MM tys),u.oneCell'=true)/\as.length=Ty.MM tys
 |[],fields,off,cs,n,LF,h,hl=>by refine⟨[],rfl,?_,?_,rfl⟩<;>simp[Ty.MM,Bi]
 |ty::tys,fields,off,cs,n,LF,h,hl=>by
  cases fields with
  |nil=>simp[Pf] at LF
  |cons f fs=>
   simp only[Pf,Bx,qe] at LF;obtain⟨⟨⟨ho,hc⟩,YP⟩,fo⟩:=LF;obtain⟨y,hy⟩:=h 0 f rfl;rw[ho,hc] at hy;obtain⟨as,m,l,k,j⟩:=aD ty YP hy;simp only[Ty.MM] at hl;obtain⟨bs,e,d,c,b⟩:=T2 tys fo (λi g hi=>h (i+1) g (by simpa using hi)) Ab;have o:(cs.drop off).take (Ty.MM (ty::tys))=(cs.drop off).take (Ty.size ty)++(cs.drop (off+Ty.size ty)).take (Ty.MM tys):=by simp only[Ty.MM];rw[Ē,Ei]
   rw[o];refine⟨as++bs,⟨as,bs,rfl,m,e⟩,l.append d,λu hu=>?_,by simp[j,b,Ty.MM]⟩;rcases Av.1 hu with hu|hu
   .exact k u hu
   .exact c u hu
end
def aE{ty:Ty}{t:TypeId}{v:Value}{base:Nat}(LF:Qg P ty t=true)(hv:Value.okWide P W .any base t v):if ty.aAp then∃cs,v= .agg cs else v.cells=#[v]:=by
 cases ty with
 |st fs=>
  unfold Qg at LF;split at LF;.rename_i fields ht;unfold Value.okWide at hv;rw[ht] at hv;obtain⟨cs,e,_⟩:=hv;exact⟨cs,e⟩
  .cases LF
 |_=>
  unfold Qg at LF;split at LF;.rename_i ht;unfold Value.okWide at hv;rw[ht] at hv;simp only[Cell.okWide,ht,Cell.ok] at hv;cases v<;>first|rfl|exact hv.elim
  .cases LF
def Y6:∀{tys:List Ty} {ts:List TypeId} {vs:List Value} {ds:List (DataW H)} {ps:List MemPlace} {base:Nat},DataW.TrodAll enc P W 0 (λ_=>true) true ts vs ds ps->tys.length=ts.length->(∀(i:Nat) (ty:Ty) (t:TypeId),tys[i]?=some ty->ts[i]?=some t->Qg P ty t=true)->
  (∀(i:Nat) (t:TypeId) (v:Value),ts[i]?=some t->vs[i]?=some v->Value.okWide P W .any base t v)->∃as,Vo tys as/\Bi (Gr W) as vs
 |[],[],[],[],_,_,_,_,_,_=>⟨[],rfl,rfl⟩
 |ty::tys,t::ts,v::vs,d::ds,ps,base,⟨p,q,⟨fuel,h1⟩,h2,_⟩,hl,LF,QZ=>by
  have YP:=LF 0 ty t rfl rfl;obtain⟨cells,f,b,k,l⟩:=aD ty YP h1;obtain⟨bs,j,g⟩:=Y6 h2 (by simpa using hl) (λi ty t h h'=>LF (i+1) ty t (by simpa using h) (by simpa using h')) (λi t v h h'=>QZ (i+1) t v (by simpa using h) (by simpa using h'));have hc:=aE YP (QZ 0 t v rfl rfl);have:∃a,lK ty a/\BU (Gr W) a v:=by
   by_cases HT:ty.aAp=true;.rw[Ae HT] at hc;obtain⟨us,rfl⟩:=hc;exact⟨.agg cells,(by unfold lK;rw[Ae HT];exact⟨cells,rfl,f⟩),us,rfl,by simpa[Value.cells] using b,by simpa[Value.cells] using k⟩
   .rw[Ac HT] at hc;rw[hc] at b;obtain⟨u,us,e,hu,hnil⟩:∃c GW,cells=c::GW/\BU (Gr W) c v/\GW=[]:=by
     cases cells with
     |nil=>cases b
     |cons c GW=>obtain⟨u,DM,e,h1,h2⟩:=b;simp at e;obtain⟨rfl,rfl⟩:=e;exact⟨c,GW,rfl,h1,by cases GW with|nil=>rfl|cons _ _=>obtain⟨_,_,e,_⟩:=h2;cases e⟩
    subst hnil;subst e;exact⟨u,(by unfold lK;rw[Ac HT];exact f),hu⟩
  obtain⟨a,ha,hr⟩:=this;exact⟨a::bs,⟨a,bs,rfl,ha,j⟩,⟨v,vs,rfl,hr,g⟩⟩
 |[],_::_,_,_,_,_,_,hl,_,_=>by simp at hl
 |_::_,[],_,_,_,_,_,hl,_,_=>by simp at hl
 |[],[],_::_,_,_,_,h,_,_,_=>by cases h
 |[],[],[],_::_,_,_,h,_,_,_=>by cases h
 |_::_,_::_,[],_,_,_,h,_,_,_=>by cases h
 |_::_,_::_,_::_,[],_,_,h,_,_,_=>by cases h
def Ww{W':World}{may:MemPlace->Prop}(h1:W'.os=W.os)(h2:W'.output=W.output)(hb:∀i,i<W.heap.size->W'.heap[i]?=W.heap[i]?):W.keptBut W' may:=by
 refine⟨h1,h2,λi hi=>?_⟩;rw[hb i hi];split;.rename_i c t fr c' t' wV d b;rw[d] at b;cases b;exact⟨rfl,rfl,rfl,λ_ _=>rfl⟩
 .rename_i d b;rw[d] at b;cases b;exact .inr ⟨rfl,rfl⟩
 .rfl
def Qv(hl:laidOutB P=true){W':World}(hb:RowKit.Below W.heap.size W W'):∀{ts:List TypeId} {vs:List Value} {ds:List (DataW H)} {ps:List MemPlace},(∀t∈ts,P.readableRec t=true/\t<P.types.size)->
  DataW.TrodAll enc P W 0 (λ_=>true) true ts vs ds ps->(∀x∈ps,x.block<W.heap.size)->DataW.TrodAll enc P W' 0 (λb=>decide (b<W.heap.size)) true ts vs ds ps
 |[],[],[],ps,_,h,_=>h
 |t::ts,v::vs,d::ds,ps,ZY,⟨p,q,h1,h2,e⟩,hlt=>by subst e;have ht:=ZY t AK;exact⟨p,q,RowKit.Below.trod hl ht.1 ht.2 h1 hb λx hx=>hlt x (CC _ hx),Qv hl hb (λt' h'=>ZY t' (by simp[h'])) h2 λx hx=>hlt x (BY _ hx),rfl⟩
 |[],[],_::_,_,_,h,_=>by cases h
 |[],_::_,_,_,_,h,_=>by cases h
 |_::_,[],_,_,_,h,_=>by cases h
 |_::_,_::_,[],_,_,h,_=>by cases h
end
def aF{C:FZ}(hm:C.P.follows .mixedOrders=true)(gu:∀g cs,C.GY g=some cs->cs.all Aa.ME=true)(İ:aC C)(hl:laidOutB C.P=true){f:FuncId}{fn:Func}{rt:TypeId}(k:f<=99999)(c:fn.resultTypes=#[rt])(l:C.P.underlying rt=some .bool){tys:List Ty}(hlen:tys.length=fn.params.size)
  (aMJ:∀(i:Nat) (ty:Ty) (t:TypeId),tys[i]?=some ty->fn.params[i]?=some t->Qg C.P ty t=true) (aFE:∀t∈fn.params.toList,C.P.readableRec t=true/\t<C.P.types.size)
  (Jc:∀as,Vo tys as->Ev C f as [] λr _=>r= .bool true) {s:ChangeSpec} (Ģ:s.vars=[])
  {H:Type} (sk:∀ds:List (DataW H),ds.length=fn.params.size->s.fn H ds={results:=[.lit (.bool true)],args:=ds})
  {enc:TypeId×Value->H} {W:World} {base:Nat} {args:Array Value} {ds gs:List (DataW H)} {before:List MemPlace} (hg:∀g cs,C.GY g=some cs->C4 (Gr W) cs g 0)
  (QZ:∀(j:Nat) (t:TypeId) (v:Value),fn.params[j]?=some t->args[j]?=some v->Value.okWide C.P W .any base t v) (hW:DataW.Whole enc C.P fn.params.toList s.vars false W args.toList ds gs before):
  Calls C.P f args W λe W'=>∃v,e= .returned v/\s.post enc C.P fn false true false false W args v W':=by
 have n:=hW;have hlt:=hW.lt;obtain⟨p,q,u,o,rfl,hfz,qk⟩:=hW;rw[Ģ] at o;have m:gs=[]/\q=[]:=by
  cases gs with
  |nil=>exact⟨rfl,o⟩
  |cons _ _=>cases o
 obtain⟨rfl,rfl⟩:=m;obtain⟨as,Yn,OP⟩:=Y6 u (by simpa using hlen) (λi ty t h h'=>aMJ i ty t h (by simpa using h')) (λi t v h h'=>QZ i t v (by simpa using h) (by simpa using h'));have lG:ds.length=fn.params.size:=by
  have key:∀{ts:List TypeId} {vs:List Value} {ds:List (DataW H)} {ps:List MemPlace},DataW.TrodAll enc C.P W 0 (λ_=>true) true ts vs ds ps->ds.length=ts.length:=by
   intro ts;induction ts with
   |nil=>intro vs ds ps h;cases vs<;>cases ds<;>first|rfl|cases h
   |cons t ts ih=>
    intro vs ds ps h;cases vs with
    |nil=>cases h
    |cons v vs=>
     cases ds with
     |nil=>cases h
     |cons d ds=>obtain⟨_,_,_,h2,_⟩:=h;simp[ih h2]
  simpa using key u
 have Vk:=(Jc as Yn).calls hm gu İ (gw W) hg OP;rw[show EE f=f from Ae k] at Vk;refine Vk.mono λe W' he=>?_;cases e with
 |returned v=>
  obtain⟨r,h',y,rfl,hi,Ka,hv⟩:=he;have hvb:v= .bool true:=hv;subst hvb;have hold:∀i,i<W.heap.size->W'.heap[i]?=W.heap[i]?:=λi fj=>(Ka.NX i fj λid h0=>by cases h0).1;have b:RowKit.Below W.heap.size W W':=⟨Ka.os,Ka.tape,Ka.output,Ka.size,hold⟩;refine⟨_,rfl,ds,[],p++[],[],p,[],n,?_,?_,?_,Ww Ka.os Ka.output hold,λh0=>by cases h0⟩;.rw[BK,sk ds lG,c];exact⟨[],[],RowKit.shut_bool l true,rfl,rfl⟩
  .rw[BK,sk ds lG];exact Qv hl b aFE u λx hx=>hlt x (by simpa using hx)
  .rw[BK,sk ds lG,Ģ];rfl
 |_=>exact he.elim
end Go.Am
end
