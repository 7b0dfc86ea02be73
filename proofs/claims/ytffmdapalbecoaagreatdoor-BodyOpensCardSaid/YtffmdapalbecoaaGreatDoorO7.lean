/- Lemmas -/
import Derived.Scope
import Derived.Test.YtffmdapalbecoaaGreatDoorO6
import Derived.Carry
import Derived.ReadAgain
set_option linter.all false
open List renaming length→zz,replicate→z1,getD→z2
open Go.Am.IT renaming step→zy,run→zs
open Option renaming some→zx,none→zr
open Bool renaming true→zw,false→zu
open Go.Am.Dm renaming normal→zt,ret→z5,exit→z7
open Go.Am.EL renaming box→zq,undef→ze,val→z8
open Go.Value renaming okWide→zf
open Go.DataW renaming TrodAll→zd
open Go.Am.Aa renaming bool→zc
open Or renaming inl→z3,inr→z4
section
namespace Go.Am
open Go
def Kpt(x y:EL):Prop:=
 match x with
 | zq ver cs ow=>∃Hd HJ PE,y= zq Hd HJ PE/\ver<=Hd/\(Hd=ver->HJ=cs/\PE=ow)
 | .FF t o=>y= .FF t o\/y= ze
 |x=>y=x
def Kpt.refl(x:EL):Kpt x x:=by
 cases x with
 |box ver cs ow=>exact⟨ver,cs,ow,rfl,Ae _,λ_=>⟨rfl,rfl⟩⟩
 |FF t o=>exact z3 rfl
 |_=>rfl
def Kpt.trans{x y z:EL}(h:Kpt x y)(k:Kpt y z):Kpt x z:=by
 cases x with
 |box ver cs ow=>obtain⟨f,j,g,rfl,h1,h2⟩:=h;obtain⟨v2,d,b,rfl,c,i⟩:=k;refine⟨v2,d,b,rfl,Bv h1 c,λe=>?_⟩;grind
 |FF t o=>
  obtain rfl|rfl:=h
  .exact k
  .exact z4 k
 |_=>rwa[show y=_ from h] at k
def GL(W:List Nat)(σ O:BU):Prop:=zz O=zz σ/\∀s,s∉W->Kpt (σ.at s) (O.at s)
def GL.refl(W:List Nat)(σ:BU):GL W σ σ:=⟨rfl,λ_ _=> .refl _⟩
def GL.trans{W:List Nat}{σ O J:BU}(h:GL W σ O)(k:GL W O J):GL W σ J:=⟨k.1.trans h.1,λs hs=>(h.2 s hs).trans (k.2 s hs)⟩
def GL.mono{W W':List Nat}{σ O:BU}(h:GL W σ O)(hw:∀s∈W,s∈W'):GL W' σ O:=⟨h.1,λs hs=>h.2 s λhm=>hs (hw s hm)⟩
def GL.set{W:List Nat}{σ:BU}{s:Nat}{x:EL}(hs:s∈W):GL W σ (σ.set s x):=
 ⟨AH,λt ht=>by rw[BU.GK λe=>ht (by rwa[<-e])];exact .refl _⟩
def GL.put{W:List Nat}{σ:BU}{d:Option Nat}{x:EL}(hs:∀s∈d.toList,s∈W):GL W σ (σ.put d x):=by
 cases d with
 |none=>exact .refl _ _
 |some d=>exact .set (hs d AH)
section
variable{C:GN}{fid:FuncId}{ops:List Oper}{run:IT->Ah->Option Kz}{σ σ':BU}{h h':Ah}{W:List Nat}
def GL.drop(σ:BU)(ds:List Nat):GL W σ (σ.drop ds):=by
 refine⟨BU.length_drop σ ds,λs _=>?_⟩;rw[BU.TA];cases hx:σ.at s with
 |FF t o=>
  simp only
  split;.exact z4 rfl
  .exact z3 rfl
 |_=>exact .refl _
def xE{r:E8}{ds:List Nat}(hd:r.Oh C run (σ.drop ds) h σ' h')(hw:∀s∈r.wf,s∈W):GL W σ σ':=by obtain⟨ws,rfl,h1,_⟩:=dZ hd;refine(GL.drop σ ds).trans ⟨BU.Kq ws _,λs hs=>?_⟩;rw[BU.Hr ws _ s λp hp e=>hs (hw s (by rw[<-e];exact h1 p hp))];exact .refl _
def Rj{x:Operand}{d:Nat}{take:Bool}{r:E8}(h:Lk C σ x d take=zx r):∀s∈r.wf,s=d\/(take=zw/\x= .tmp s):=by
 unfold Lk at h;split at h;.cases h;simp[E8.wf]
 .cases h;simp[E8.wf]
 .split at h
  .rename_i ht;cases h;intro s hs;simp[E8.wf,BL,Ay] at hs;obtain hs|hs:=hs
   .revert hs;generalize b:To _ _=c;intro hs;unfold To at b;grind
   .grind
  .cases hc:I5 _ with
   |none=>rw[hc] at h;cases h
   |some sl=>rw[hc] at h;cases h;simp[E8.wf]
 .cases hc:I5 _ with
  |none=>rw[hc] at h;cases h
  |some sl=>rw[hc] at h;cases h;simp[E8.wf]
 .cases h
def TJ{x:Operand}{p:Nat×Aa}(h:Dx σ x=zx p):x= .tmp p.1:=by
 cases x with
 |tmp t=>
  simp[Dx] at h;cases hx:σ.at t with
  |Bu v=>rw[hx] at h;cases h;rfl
  |_=>rw[hx] at h;cases h
 |_=>cases h
def rC{t:TypeId}{v:Aa}{d:Nat}{r:E8}(h:VP C fid t v d=zx r):r.wf=[d]:=by
 rw[VP] at h;split at h;.cases h
 .split at h;.cases h
  .split at h<;>(cases h;rfl)
def N3:∀{xs:List Operand} {vs:List Aa} {b:List (Nat×List Aa)},GP C σ xs=zx (vs,b)->∀p∈b,p.1∈KH xs
 |[],vs,b,hc=>by cases hc;simp
 |x::xs,vs,b,hc=>by
  rw[GP] at hc;split at hc;.cases hc
  .rename_i Iq d c;have ih:=N3 c;have up:∀p∈d,p.1∈KH (x::xs):=λp hp=>by let⟨y,hy,he⟩:=Ck.1 (ih p hp);exact Ck.2 ⟨y,aMw _ hy,he⟩
   split at hc
   .rename_i s ver cs ow hs;split at hc;.cases hc
    .cases hc;intro p hp;obtain rfl|hp:=AR.1 hp
     .simp[KH]
     .exact up p hp
   .grind
   .cases hc
def fj{o:Oper}{r:E8}(hc:GQ C fid ops σ o=zx r)(hd:r.Oh C run (σ.drop r.news) h σ' h'):GL (EO ops o) σ σ':=by
 have TI:∀s∈o.dst.toList,s∈EO ops o:=λs hs=>Dn _ hs
 have hwf:(∀s∈r.wf,s∈EO ops o)->GL (EO ops o) σ σ':=xE hd
 have bK:r.wf=o.dst.toList->GL (EO ops o) σ σ':=λe=>hwf (by rw[e];exact TI)
 have V5:∀{m x},UU m o.dst x=zx r->GL (EO ops o) σ σ':=λ{m x} he=>by
  obtain⟨_,_,rfl⟩:=HR he
  exact bK rfl
 have HX:∀{p x},UT p o.dst x=zx r->GL (EO ops o) σ σ':=λ{p x} he=>by
  obtain⟨args,_,rfl⟩:=Ef he
  exact bK (by simp[E8.wf])
 unfold GQ at hc
 split at hc
 .rename_i x ho
  split at hc
  .rename_i d GG
   refine hwf λs hs=>?_
   rcases Rj hc s hs with rfl|⟨ht,rfl⟩
   .exact TI s (by rw[GG];simp)
   .refine Cm _ ?_
    simp[ho,GG,ht]
  .cases hc
 .rename_i x ho
  split at hc
  .rename_i d GG
   refine hwf λs hs=>?_
   rcases Rj hc s hs with rfl|⟨ht,rfl⟩
   .exact TI s (by rw[GG];simp)
   .refine Cm _ ?_
    simp[ho]
  .cases hc
 .rename_i c x y ho
  split at hc
  .rename_i d _ GG
   refine hwf λs hs=>?_
   rcases Rj hc s hs with rfl|⟨ht,rfl⟩
   .exact TI s (by rw[GG];simp)
   .cases ht
  .rename_i d _ GG
   refine hwf λs hs=>?_
   rcases Rj hc s hs with rfl|⟨ht,rfl⟩
   .exact TI s (by rw[GG];simp)
   .cases ht
  .exact HX hc
 .split at hc
  .rename_i d z GG hz
   split at hc
   .split at hc
    .cases hc;exact bK (by rw[GG];rfl)
    .cases hc
   .exact bK (by rw[rC hc,GG];rfl)
  .cases hc
 .split at hc
  .rename_i d v GG hz
   exact bK (by rw[rC hc,GG];rfl)
  .cases hc
 .split at hc
  .split at hc
   .exact HX hc
   .cases hc
  .cases hc
 .split at hc
  .split at hc
   .split at hc
    .split at hc
     .cases hc;exact bK (by simp[E8.wf])
     .cases ha:BC C σ _ with
      |none=>rw[ha] at hc;cases hc
      |some args=>rw[ha] at hc;cases hc;exact bK (by simp[E8.wf])
    .cases hc
   .cases hc
  .cases hc
 .split at hc
  .rename_i d GG
   unfold Md at hc
   split at hc
   .cases hc;exact bK (by rw[GG];rfl)
   .rename_i s off ver cs ow ht ha
    split at hc
    .simp only at hc
     split at hc
     .cases hc
      rw[OX AH] at hd
      obtain⟨rfl,rfl⟩:=hd
      have hs:σ.at s= .box ver cs ow:=by
       unfold GO at ha
       split at ha
       .rename_i hs;cases ha;exact HE hs
       .split at ha
        .rename_i hb;cases ha;exact hb
        .cases ha
       .exact absurd ha (by cases hv:EL.IF _<;>simp)
       .cases ha
      refine⟨by simp[BU.drop,BU.EB],λt b=>?_⟩
      have f:t≠d:=λe=>b (TI t (by rw[GG,e];simp))
      have yg:s<σ.length:=BU.Qh (by rw[hs];simp)
      show Kpt (σ.at t) (BU.at ((σ.set s _).set d _) t)
      rw[BU.GK (λe=>f e.symm)]
      by_cases gW:s=t
      .subst gW
       rw[BU.FQ yg,hs]
       exact⟨_,_,_,rfl,FD _,λe=>absurd e Ab⟩
      .rw[BU.GK gW];exact .refl _
     .cases hc;exact bK (by rw[GG];rfl)
    .cases hc
   .split at hc
    .cases hc;exact bK (by rw[GG];rfl)
    .cases hc
   .cases hc
  .cases hc
 .rename_i t x y ho
  split at hc
  .rename_i GG
   unfold J2 at hc
   split at hc
   .cases hc;exact hwf (by simp[E8.wf])
   .rename_i m sh s off ver cs ow v LC vN ha hv
    split at hc
    .cases hc
     obtain⟨_,rfl,rfl⟩:=hd
     have hs:σ.at s= .box ver cs ow:=by
      unfold GO at ha
      split at ha
      .rename_i hs;cases ha;exact HE hs
      .split at ha
       .rename_i hb;cases ha;exact hb
       .cases ha
      .exact absurd ha (by cases hv:EL.IF _<;>simp)
      .cases ha
     have bY:∀(D:Option (Nat×Aa)),(∀p,D=some p->p.1∈EO ops o/\p.1≠s)->∀X:List Aa×List Nat,GL (EO ops o) σ ((σ.D5 D).set s (.box (ver+1) X.1 X.2)):=by
      intro D i X
      refine⟨by cases D<;>simp[BU.D5],λt b=>?_⟩
      have hlen:s<(σ.D5 D).length:=by
       have:s<σ.length:=BU.Qh (by rw[hs];simp)
       cases D<;>simpa[BU.D5] using this
      by_cases gW:s=t
      .subst gW
       rw[BU.FQ hlen,hs]
       exact⟨_,_,_,rfl,FD _,λe=>absurd e Ab⟩
      .rw[BU.GK gW]
       cases D with
       |none=>exact .refl _
       |some p=>
        obtain⟨g,j⟩:=i p rfl
        simp only[BU.D5]
        rw[BU.GK (λe=>b (by rw[<-e];exact g))]
        exact .refl _
     refine bY _ (λp hp=>?_) (_,_)
     split at hp
     .have hy:=TJ hp
      subst hy
      refine⟨Cm _ (by simp[ho]),λe=>?_⟩
      simp only[Dx] at hp
      rw[e,hs] at hp
      cases hp
     .cases hp
    .cases hc
   .cases hc
  .cases hc
 .split at hc
  .rename_i GG _ _
   cases hc;exact bK (by rw[GG];rfl)
  .rename_i GG _ _
   cases hc;exact bK (by rw[GG];rfl)
  .exact HX hc
 .split at hc
  .exact HX hc
  .cases hc
 .exact HX hc
 .split at hc
  .cases hv:Ft C σ _ with
   |none=>rw[hv] at hc;cases hc
   |some v=>rw[hv] at hc;cases hc;exact bK rfl
  .split at hc
   .cases hv:Ft C σ _ with
    |none=>rw[hv] at hc;cases hc
    |some v=>rw[hv] at hc;cases hc;exact bK rfl
   .exact HX hc
  .exact HX hc
  .cases hc
 .rename_i fn first captured ho
  split at hc
  .rename_i d as bs k GG ha hb
   cases hc
   refine hwf λs hs=>?_
   simp only[E8.wf,AR] at hs
   rcases hs with rfl|hs
   .exact TI s (by rw[GG];simp)
   .obtain⟨p,hp,rfl⟩:=Bs.1 hs
    refine Cm _ ?_
    simp only[ho]
    exact N3 hb p hp
  .cases hc
 .cases hc;exact bK rfl
 .split at hc
  .split at hc
   .cases hc;exact bK rfl
   .cases hc
  .cases hc
 .split at hc
  .split at hc
   .cases hc;exact hwf (by simp[E8.wf])
   .cases hc;exact hwf (by simp[E8.wf])
   .cases hc
  .cases hc
 .split at hc
  .split at hc
   .cases hc;exact hwf (by simp[E8.wf])
   .cases hc;exact hwf (by simp[E8.wf])
   .cases hc
  .cases hc
 .split at hc
  .split at hc
   .cases hc;exact bK rfl
   .cases hc;exact bK rfl
   .cases hc
  .cases hc
 .split at hc
  .split at hc
   .exact V5 hc
   .cases hc
  .cases hc
 .split at hc
  .cases hc
  .exact V5 hc
  .cases hc
 .split at hc
  .split at hc<;>first|exact V5 hc|cases hc
  .cases hc
 .split at hc
  .rename_i GG
   exact V5 (by rw[GG];exact hc)
  .cases hc
 .split at hc
  .exact HX hc
  .split at hc
   .split at hc
    .exact V5 hc
    .exact HX hc
   .cases hc
  .cases hc
 .split at hc
  .rename_i off sh d hf GG
   split at hc
   .cases hc;exact bK (by rw[GG];rfl)
   .cases hc;exact bK (by rw[GG];rfl)
   .exact HX (by rw[GG];exact hc)
  .cases hc
 .split at hc
  .exact HX hc
  .cases hc
 .split at hc
  .split at hc
   .exact HX hc
   .cases hc
  .split at hc
   .split at hc
    .cases hc
    .exact HX hc
   .cases hc
  .cases hc
 .split at hc
  .exact HX hc
  .split at hc
   .exact HX hc
   .cases hc
  .cases hc
 .exact HX hc
 .rename_i c ho
  unfold SA at hc
  split at hc
  .split at hc
   .split at hc
    .exact HX hc
    .exact HX hc
    .cases hc
   .cases hc
  .rename_i hcl
   split at hc
   .rename_i t t' s x h0 h1 Fb
    have bY:∀p,Dx σ s=some p->p.1∈EO ops o:=λp hp=>by
     have:=TJ hp
     subst this
     refine Cm _ ?_
     simp only[ho,hcl,Fb]
     simp[KH]
    split at hc
    all_goals first
     |(cases hc;done)
     | (split at hc
        . split at hc
          . split at hc
            . split at hc
              . split at hc
                . cases hc
                  refine hwf fun q hq => ?_
                  simp only [E8.wf, Ay] at hq
                  rcases hq with hq | hq
                  . exact TI q hq
                  . cases xF : Dx σ s with
                    | none => rw [xF] at hq; simp at hq
                    | some p => rw [xF] at hq; simp at hq; rw [hq]; exact bY p xF
                . split at hc
                  . cases hc
                    refine hwf fun q hq => ?_
                    simp only [E8.wf, Ay] at hq
                    rcases hq with hq | hq
                    . exact TI q hq
                    . cases xF : Dx σ s with
                      | none => rw [xF] at hq; simp at hq
                      | some p => rw [xF] at hq; simp at hq; rw [hq]; exact bY p xF
                  . cases hc
                    refine hwf fun q hq => ?_
                    simp only [E8.wf, Ay] at hq
                    rcases hq with hq | hq
                    . exact TI q hq
                    . cases xF : Dx σ s with
                      | none => rw [xF] at hq; simp at hq
                      | some p => rw [xF] at hq; simp at hq; rw [hq]; exact bY p xF
              . split at hc
                . cases hc
                  refine hwf fun q hq => TI q (by simpa [E8.wf] using hq)
                . cases hc
            . cases hc
          . cases hc
        . cases hc)
   .cases hc
  .split at hc
   .split at hc
    all_goals first
     |(cases hc;done)
     | (split at hc
        . exact V5 hc
        . cases hc)
   .cases hc
  .split at hc
   .split at hc
    .split at hc
     .exact V5 hc
     .cases hc
    .cases hc
   .cases hc
  .split at hc
   .exact HX hc
   .cases hc
  .split at hc
   .exact HX hc
   .cases hc
  .split at hc
   .split at hc
    .split at hc
     .exact V5 hc
     .cases hc
    .cases hc
   split at hc
   .cases ha:BC C σ c.args.toList with
    |none=>rw[ha] at hc;cases hc
    |some args=>
     rw[ha] at hc
     simp only[B6,BF] at hc
     split at hc<;>(cases hc;exact bK rfl)
   .cases hc
  .split at hc
   .cases hc;exact bK rfl
   .cases hc
  .cases hc
 .cases hc
end
end Go.Am
end
section
namespace Go.Am
open Go
def zh:Dm->Exit
 | zt=> .normal
 | z7 i=> .exit i
 | z5=> .ret
def O8:∀{l m:List Nat},l.Nodup->(∀x∈l,x∈m)->zz l<=zz m
 |[],_,_,_=>AV _
 |x::l,m,hn,hs=>by have h1:=O8 (m:=m.erase x) (Cl.1 hn).2 λy hy=>(List.mem_erase_of_ne λe=>(Cl.1 hn).1 (by rwa[<-e])).2 (hs y (by simp[hy]));grind
def iE{P:Program}{c:Code}{Q:Exit->Act->World->Prop}(T:Nat->Act->World->Prop)(round:∀n a w,T n a w->c.wp P (Exit.then (λa' w'=>∃m,m<n/\T m a' w') Q) a w)(n:Nat)(a:Act)(w:World)(h0:T n a w):(Code.loop c).wp P Q a w:=by
 intro b k cs;have key:∀n a w,T n a w->∃e a' w',Q e a' w'/\Arrives P (lone (b.at a (.code c:: .inLoop c::k)) cs w) b k cs e a' w':=by
  intro n;induction n using Nat.strongRecOn with
  |_ n ih=>
   intro a w i;let⟨e,a1,w1,hq,Ŝ⟩:=round n a w i b (.inLoop c::k) cs;by_cases he:e= .normal;.subst he;let⟨m,hm,d⟩:=hq;let⟨j,a2,f,g,r2⟩:=ih m hm a1 w1 d;exact⟨j,a2,f,g,.of_steps (Go.Steps.trans Ŝ (.one step_inLoop)) r2⟩
   .exact⟨e,a1,w1,by cases e<;>first|exact hq|exact absurd rfl he,.pass rfl (λ_ _=> z3 he) Ŝ⟩
 let⟨e,a',w',hq,Ŝ⟩:=key n a w h0;exact⟨e,a',w',hq,.of_steps (.one step_loop) Ŝ⟩
section
variable{C:GN}{U0 U:Gh}{w0 w:World}{Z:Nat->Nat}{σ:BU}{h:Ah}{a:Act}{fid:FuncId}{run:IT->Ah->Option Kz}
def iF{ops:List Oper}{o:Oper}{K:BU->IT}{R:Kz}(hr:zy (B8 C) run (UW C fid ops σ o K) h=zx R):
  ∃d,(d=σ\/∃s b,s∈FY ops o/\σ.at s= z8 (zc b)/\d=σ.set s (.P7 b))/\
   ((Jo ops d o= .Oe zw/\zy (B8 C) run (xd C fid ops d o K) h=zx R)\/(Jo ops d o= .Oe zu/\zy (B8 C) run (K (d.put o.dst .skip)) h=zx R)):=by
 rw[UW] at hr;split at hr;.grind
 next hg=>exact⟨σ,z3 rfl,z4 ⟨hg,hr⟩⟩
 .rename_i s v want hg;have e:s∈FY ops o/\σ.at s= z8 v/\∀b,Jo ops (σ.set s (.P7 b)) o= .Oe (b==want):=by
   unfold Jo at hg⊢;rw[FY];cases ho:o.guard with
   |none=>rw[ho] at hg;cases hg
   |some g=>
    let⟨j,want'⟩:=g;rw[ho] at hg;simp only at hg⊢;cases hd:(ops[j]?).bind (·.dst) with
    |none=>rw[hd] at hg;cases hg
    |some s'=>
     rw[hd] at hg;simp only at hg⊢;cases hx:σ.at s' with
     |val v'=>rw[hx] at hg;cases hg;refine⟨AH,hx,λb=>?_⟩;rw[BU.FQ (BU.Qh (by rw[hx];simp))]
     |P7 c=>rw[hx] at hg;cases hg
     |skip=>rw[hx] at hg;cases hg
     |_=>rw[hx] at hg;cases hg
  let⟨g1,g2,g3⟩:=e;simp[zy] at hr;grind
 .cases hr
def qj(a:Act){ops:List Oper}{o:Oper}:(∀p∈UY C σ o,∃ver ow,σ.at p.1= zq ver p.2 ow)/\((UY C σ o).map (·.1)).Nodup/\∀p∈UY C σ o,p.1∈EO ops o:=by
 have no:∀l:List (Nat×List Aa),l=[]->(∀p∈l,∃ver ow,σ.at p.1= zq ver p.2 ow)/\(l.map (·.1)).Nodup/\∀p∈l,p.1∈EO ops o:=by grind
 cases ho:o.op with
 |call c=>
  cases hc:c.callee with
  |value g=>
   cases g with
   |func f=>
    cases hf:UX f with
    |true=>
     cases hx:GP C σ c.args.toList with
     |some q=>
      let⟨vs,b⟩:=q;have e:UY C σ o=b:=by rw[UY];simp[ho,hc,hf,hx,BR]
      rw[e];let⟨h1,h2,_⟩:=N2 (a:=a) hx;refine⟨h1,h2,λp hp=>Cm _ ?_⟩;simp[ho,hc,hf,BR];exact N3 hx p hp
     |none=>exact no _ (by rw[UY];simp[ho,hc,hf,hx,BR])
    |false=>exact no _ (by rw[UY];simp[ho,hc,hf])
   |_=>exact no _ (by rw[UY];simp[ho,hc])
  |_=>exact no _ (by rw[UY];simp[ho,hc])
 |_=>exact no _ (by rw[UY];simp[ho])
def GL.EB{W:List Nat}:∀{l:List (Nat×EL)} {σ:BU},(∀p∈l,p.1∈W)->GL W σ (σ.EB l)
 |[],σ,_=> .refl _ _
 |(s,x)::l,σ,h=>(GL.set (h (s,x) AH)).trans (GL.EB λp hp=>h p (by simp[hp]))
def zi{ops:List Oper}{o:Oper}{W:List Nat}(hr:Dd C U0 w0 U Z σ h a w)(hw:∀s∈EO ops o,s∈W):∃b,Dd C U0 w0 b Z (aEo C σ o) h a w/\GL W σ (aEo C σ o):=by
 obtain⟨h1,h2,c⟩:=qj a (ops:=ops);obtain⟨b,_,Gy,_⟩:=(hr.drop ((UY C σ o).map (·.1))).U8 (λp hp=>by obtain⟨ver,ow,hs⟩:=h1 p hp;exact⟨ver,ow,by rw[BU.TA,hs]⟩) h2
 refine⟨b,Gy,(GL.drop σ _).trans (GL.EB λp hp=>?_)⟩;grind
def fk(m:FB C run){ops:Array Oper}{Q:Exit->Act->World->Prop}{W:List Nat}{K:BU->IT}{R:Kz}:∀(rest:List Oper) (k:Nat) (U:Gh) (Z:Nat->Nat) (σ:BU) (h:Ah) (a:Act) (w:World),
  ops.toList.drop k=rest->(∀o∈rest,(∀s∈EO ops.toList o,s∈W)/\∀s∈FY ops.toList o,s∈W)->zy (B8 C) run (dh C fid ops.toList rest σ K) h=zx R->Dd C U0 w0 U Z σ h a w->
  (∀g f σ' h' a' w',zy (B8 C) run (K σ') h'=zx R->GL W σ σ'->Dd C U0 w0 g f σ' h' a' w'->Q .normal a' w')->wpOps C.P ops Q (List.range' k (zz rest)) a w
 |[],k,U,Z,σ,h,a,w,_,_,Bb,hr,hQ=>by simp[BP,List.range'_zero,wpOps];exact hQ U Z σ h a w Bb (.refl _ _) hr
 |o::rest,k,U,Z,σ,h,a,w,hk,hW,Bb,hr,hQ=>by
  have ho:ops[k]?=zx o:=by
   have:ops.toList[k]?=zx o:=by have h0:=Cj (·[0]?) hk;simpa[Cu] using h0
   exact zv this
  have l:ops.toList.drop (k+1)=rest:=by have h0:=Cj (List.drop 1) hk;simpa[Fi] using h0
  let⟨xG,zb⟩:=hW o AH;simp[Bn,List.range'_succ,wpOps,ho];let⟨U1,e,c⟩:=zi hr xG;let⟨i,j,JG⟩:=iF Bb;have KA:Dd C U0 w0 U1 Z i h a w/\GL W σ i:=by
   obtain rfl|⟨s,b,g1,g2,rfl⟩:=j
   .exact⟨e,c⟩
   .have h0:=e.fr.IS s;rw[g2] at h0;exact⟨e.qB h0,c.trans (.set (zb s g1))⟩
  let⟨KA,aIr⟩:=KA;have next:∀g f σ' h' a' w',zy (B8 C) run (dh C fid ops.toList rest σ' K) h'=zx R->GL W σ σ'->Dd C U0 w0 g f σ' h' a' w'->wpOps C.P ops Q (List.range' (k+1) (zz rest)) a' w':=λg f σ' h' a' w' R7 pj Gy=>fk m rest (k+1) g f σ' h' a' w' l (λo ho=>hW o (by simp[ho])) R7 Gy λq p d h2 a2 n LU aNY aIs=>hQ q p d h2 a2 n LU (pj.trans aNY) aIs
  rcases JG with⟨hg,JI⟩|⟨hg,JI⟩
  .rw[Af (Mw KA hg)];rw[xd] at JI;split at JI;.rename_i r hc;let⟨d,h2,hd,V6⟩:=dF JI;exact z3 (za m hc hd KA λg f a' w' Gy=>next g f d h2 a' w' V6 (aIr.trans ((fj hc hd).mono xG)) Gy)
   .cases JI
  .rw[Ac (by rw[Mw KA hg];simp)];exact next U1 Z _ h _ w JI (aIr.trans (.put λs hs=>xG s (Dn _ hs))) (KA.put λ_ _=>rfl)
def xH{W:List Nat}{d:Option Nat}{σ σ':BU}(h:NG d σ σ')(hd:∀s∈d.toList,s∈W):GL W σ σ':=by
 unfold NG at h;cases d with
 |none=>simp only at h;rw[h];exact .refl _ _
 |some d=>
  simp only at h;split at h;.obtain⟨b,_,rfl⟩:=h;exact .set (hd d AH)
  .rw[h];exact .refl _ _
def xI{ops:List Oper}{an:List Nat}{W:List Nat}(hW:∀o∈ops,∀s∈EO ops o,s∈W){fl:List Lb}{L:List St}{σ σf:BU}{h hf:Ah}(hs:Steps C fid ops run an fl L σ h σf hf):GL W σ σf:=by
 induction hs with
 |nil=>exact .refl _ _
 |cons h1 _ _ ih=>
  refine GL.trans ?_ ih;obtain⟨o,ho,⟨_,_,_,rfl,rfl⟩|⟨r,b,hg,hc,_,hd,_,ha⟩⟩:=h1;.exact .put λs hs=>hW o (CV ho) s (Dn _ hs)
  .refine((fj hc hd).mono λs hs=>hW o (CV ho) s hs).trans (xH ha λs hs=>?_);split at hs;.exact hW o (CV ho) s (Dn _ hs)
   .grind
def YZ(hm:C.P.follows .mixedOrders=zw)(f:FB C run){id:Nat}{ops:Array Oper}{draw:Bool}{Q:Exit->Act->World->Prop}{K:BU->IT}{R:Kz}(Bb:zy (B8 C) run (Ts C fid ops.toList draw σ K) h=zx R)(hr:Dd C U0 w0 U Z σ h a w)
  (hQ:∀d c σ' h' a' w',zy (B8 C) run (K σ') h'=zx R->GL (ops.toList.flatMap (EO ops.toList)++ops.toList.flatMap (FY ops.toList)) σ σ'->Dd C U0 w0 d c σ' h' a' w'->Q .normal a' w'):(Code.region id ops draw).wp C.P Q a w:=by
 rw[Ts] at Bb;cases draw with
 |false=>refine wp_region ?_;have:=fk (W:=ops.toList.flatMap (EO ops.toList)++ops.toList.flatMap (FY ops.toList)) f ops.toList 0 U Z σ h a w rfl (λo ho=>⟨λs hs=>Dn _ (cy.2 ⟨o,ho,hs⟩),λs hs=>Cm _ (cy.2 ⟨o,ho,hs⟩)⟩) Bb hr hQ;simpa[aMv] using this
 |true=>
  simp[BR] at Bb;split at Bb
  .rename_i GG;let⟨L,σf,hf,h1,h2,l⟩:=SL Bb;refine wp_region_any hm ?_;have b:=h2;rw[Yx] at b;simp only[UJ,BY,Bq] at b;have aIt:fh (Yu ops.toList) L:=by have:=eD b.1;rwa[aS1] at this
   have hlt:=h1.lt;have gR:∀i,i<ops.size->i∈L.map (·.idx):=λi hi=>by have:=Ei.1 b.2 i (zv hi);exact zv this
   have ŏ:(L.map (·.idx)).Nodup:=by rw[List.Nodup,aS1];exact aIt.imp λh=>h.1
   have hlen:zz L=ops.size:=by
    have k:(L.map (·.idx)).length<=(List.range ops.size).length:=O8 ŏ (λi hi=>by obtain⟨s,hs,rfl⟩:=Bs.1 hi;exact zv (hlt s hs))
    have g:(List.range ops.size).length<=(L.map (·.idx)).length:=O8 List.nodup_range λi hi=>gR i (zv hi);simp at k g;omega
   have pj:=xI (W:=ops.toList.flatMap (EO ops.toList)++ops.toList.flatMap (FY ops.toList)) (λo ho s hs=>Dn _ (cy.2 ⟨o,ho,hs⟩)) h1;refine qi f GG (λd c a' w' Gy=>hQ d c σf hf a' w' l pj Gy) ops.size L _ U Z σ h a w.drew hlen h1 aIt ⟨AH,λi hi=>⟨λ_=>gR i hi,λ_=>by simp[Array.getD,hi]⟩,λj hj e _=>?_⟩ hr.drew;exfalso;obtain hlt|Et:=AP j ops.size
   .simp[Array.getD,hlt] at hj
   .simp[Array.getD,Nat.not_lt.2 Et] at hj
  .cases Bb
end
end Go.Am
end
section
namespace Go.Am
open Go
def Rk(x y:EL):Prop:=
 (∃u,x.IF=zx u/\y= z8 u)\/(∃v,x= .Bu v/\y= .Bu v)\/∃ver cs ow Hd PE,x= zq ver cs ow/\y= zq Hd cs PE/\∀o∈PE,o∈ow
def BU.I7:∀(ws:List Nat) (σ:BU) (s:Nat),(σ.clear ws).at s=if s∈ws then ze else σ.at s
 |[],σ,s=>by simp[BU.clear]
 |t::ws,σ,s=>by
  rw[BU.clear,BU.I7 ws];by_cases h:s∈ws;.simp[h]
  .by_cases h2:s=t
   .subst h2;rw[BU.YV];by_cases hl:s<zz σ;.simp[hl]
    .have:σ.at s= ze:=by simp[BU.at,z2,hl]
     grind
   .rw[BU.GK λe=>h2 e.symm];simp[h,h2]
def BU.KL:∀(ws:List Nat) (σ:BU),(σ.clear ws).length=zz σ
 |[],σ=>rfl
 |t::ws,σ=>by rw[BU.clear,BU.KL ws];simp
section
variable{C:GN}{U0 U:Gh}{w0 w:World}{Z:Nat->Nat}{σ:BU}{h:Ah}{a:Act}{fid:FuncId}{run:IT->Ah->Option Kz}
def Rk.rel{B s:Nat}{x y:EL}{v:Value}(hx:Me U Z B w s x v)(hf:Rk x y):Me U Z B w s y v:=by
 rcases hf with⟨u,hu,rfl⟩|⟨u,rfl,rfl⟩|⟨ver,cs,ow,Hd,PE,rfl,rfl,Qq⟩
 .exact Oi hx hu
 .exact hx
 .let⟨j,i,g,us,e,f,d,c,b⟩:=hx;exact⟨j,i,g,us,e,f,d,c,λo ho=>b o (Qq o ho)⟩
def V8{σs:BU}{G:BU->IT}{R:Kz}{vs:List Aa}:∀{l:List (Nat×Sh)} {i:Nat} {σa:BU},Yy σs l=zx (vs.drop i)->zz σa=zz σs->zy (B8 C) run (J8 vs l i σa G) h=zx R->
  ∃b,zy (B8 C) run (G b) h=zx R/\zz b=zz σa/\(∀s,s∉l.map (·.1)->b.at s=σa.at s)/\(∀s,s∈l.map (·.1)->Rk (σs.at s) (b.at s)/\
   ((∃Hd HJ PE,b.at s= zq Hd HJ PE/\dB (σa.at s)<Hd)\/∀ver cs ow,σs.at s≠ zq ver cs ow))
 |[],i,σa,_,_,hr=>⟨σa,hr,rfl,λ_ _=>rfl,AH⟩
 |(s,sh)::l,i,σa,hv,hl,hr=>by
  have hd:∃v Iq,vs.drop i=v::Iq/\vs.drop (i+1)=Iq/\vs.getD i .nilIface=v/\Yy σs l=zx Iq/\
    (match(generalizing:=false) sh,σs.at s with| .val,x=>x.IF| .Bu,.Bu v=>zx v| .box n ow,zq _ cs PE=>if zz cs=n/\ow.all (PE.contains ·) then zx (.agg cs) else zr|_,_=>zr)=zx v:=by
   unfold Yy at hv;simp only at hv;split at hv
   .rename_i v Iq h1 h2;simp[BF] at hv;refine⟨v,Iq,hv.symm,?_,?_,h2,h1⟩;.have:=Cj (List.drop 1) hv;simpa[Fi] using this.symm
    .have:=Cj (·[0]?) hv;simp[Hc,Cu,Bw] at this;simp[z2,<-this]
   .cases hv
  let⟨v,Iq,r,aNZ,hC,SI,TK⟩:=hd;have hlt:s<zz σa:=by rw[hl];refine BU.Qh λe=>?_;rw[e] at TK;cases sh<;>simp[EL.IF] at TK
  have go:∀(y:EL),Rk (σs.at s) y->((∃Hd HJ PE,y= zq Hd HJ PE/\dB (σa.at s)<Hd)\/∀ver cs ow,σs.at s≠ zq ver cs ow)->zy (B8 C) run (J8 vs l (i+1) (σa.set s y) G) h=zx R->
    ∃b,zy (B8 C) run (G b) h=zx R/\zz b=zz σa/\(∀t,t∉((s,sh)::l).map (·.1)->b.at t=σa.at t)/\(∀t,t∈((s,sh)::l).map (·.1)->Rk (σs.at t) (b.at t)/\
     ((∃Hd HJ PE,b.at t= zq Hd HJ PE/\dB (σa.at t)<Hd)\/∀ver cs ow,σs.at t≠ zq ver cs ow)):=by
   intro y hy c Gy;obtain⟨b,q,p,j,m⟩:=V8 (l:=l) (i:=i+1) (σa:=σa.set s y) (by rwa[aNZ]) (zv hl) Gy;refine⟨b,q,zv p,λt ht=>?_,λt ht=>?_⟩;.simp only[Bm,AR,Ly] at ht;rw[j t ht.2,BU.GK λe=>ht.1 e.symm]
   .by_cases hm:t∈l.map (·.1)
    .let⟨g,k⟩:=m t hm;refine⟨g,k.imp (λ⟨Hd,HJ,PE,f,d⟩=>⟨Hd,HJ,PE,f,?_⟩) id⟩;by_cases gW:s=t
     .subst gW;rw[BU.FQ hlt] at d;rcases c with⟨z,B,A,rfl,h1⟩|hn
      .simp only[dB] at d;omega
      .rcases g with⟨u,_,e⟩|⟨u,_,e⟩|⟨ver,cs,ow,_,_,e,_⟩
       .rw[f] at e;cases e
       .rw[f] at e;cases e
       .cases (hn _ _ _) e
     .rwa [BU.GK gW] at d
    .have gW:t=s:=by simp only[Bm,AR] at ht;exact ht.resolve_right hm
     subst gW;rw[j t hm,BU.FQ hlt];exact⟨hy,c⟩
  cases sh with
  |val=>
   simp only[J8,hC] at hr;have zj:(σs.at s).IF=zx v:=zv TK
   refine go (z8 v) (z3 ⟨v,zj,rfl⟩) (z4 λver cs ow e=>?_) hr;rw[e] at zj;cases zj
  |Bu=>
   simp only[J8,hC] at hr;cases hx:σs.at s with
   |Bu u=>rw[hx] at TK;cases TK;exact go (.Bu v) (z4 (z3 ⟨v,hx,rfl⟩)) (z4 λver cs ow e=>by rw[hx] at e;cases e) hr
   |_=>rw[hx] at TK;cases TK
  |box n ow=>
   simp only[J8,hC,zy] at hr;cases hx:σs.at s with
   |box ver cs PE=>
    rw[hx] at TK;simp only at TK;split at TK
    .rename_i Ir;cases TK;split at hr;.rename_i hn;rw[U5 hn] at hr;refine go (zq (dB (σa.at s)+1) cs ow) (z4 (z4 ⟨ver,cs,PE,_,ow,hx,rfl,λo ho=>?_⟩)) (z3 ⟨_,_,_,rfl,N9 _⟩) hr;have:=Ei.1 Ir.2 o ho;exact zv this
     .cases hr
    .cases TK
   |_=>rw[hx] at TK;cases TK
def Dd.aEP(hr:Dd C U0 w0 U Z σ h a w){O:BU}(hl:zz O=zz σ)(hs:∀s,O.at s= ze\/O.at s=σ.at s\/Rk (σ.at s) (O.at s)):Dd C U0 w0 U Z O h a w:=by
 refine⟨hr.Eh,⟨by rw[hl];exact hr.fr.size,λs=>?_⟩,hr.Ed,hr.defers,hr.HO⟩;have h0:=hr.fr.IS s;obtain e|e|e:=hs s
 .rw[e];trivial
 .rw[e];exact h0
 .exact e.rel h0
structure zk(σ0:BU)(ws:List Nat)(l:List (Nat×Sh))(σ':BU)(vs:List Aa):Prop where
 vec:Yy σ' l=zx vs
 len:zz σ'=zz σ0
 same:∀s,s∉l.map (·.1)->σ0.at s= ze\/σ0.at s=σ'.at s
 box:∀s ver cs ow,σ0.at s= zq ver cs ow->∃Hd HJ PE,σ'.at s= zq Hd HJ PE
def rD{σ0 σ':BU}{l:List (Nat×Sh)}(hk:xe σ0 σ' l=zw){s:Nat}(hs:s∉l.map (·.1)):(∀ver cs ow,σ0.at s= zq ver cs ow->∃HJ PE,σ'.at s= zq ver HJ PE)/\(∀t o,σ0.at s= .FF t o->∃t' o',σ'.at s= .FF t' o'):=by
 have XB:s<zz σ0->(match σ0.at s with
   | zq ver _ _=>(l.map (·.1)).contains s||(match σ'.at s with| zq Hd _ _=>Hd==ver|_=>zu)
   | .FF _ _=>(l.map (·.1)).contains s||(match σ'.at s with| .FF _ _=>zw|_=>zu)
   |_=>zw)=zw:=λhl=>by
  exact Ei.1 hk s (zv hl)
 constructor;.intro ver cs ow hx;have:=XB (BU.Qh (by rw[hx];simp));grind
 .intro t o hx;have:=XB (BU.Qh (by rw[hx];simp));grind
def Qs{σ0 b σ':BU}{ws:List Nat}{l:List (Nat×Sh)}{x:Dm}{R:Kz}(W9:zy (B8 C) run (GR σ0 l x σ') h=zx R)(pj:GL ws b σ')(hlen:zz b=zz σ0)
  (W0:∀s,s∈ws->σ0.at s= ze) (Og:∀s,s∉l.map (·.1)->σ0.at s= ze\/σ0.at s=b.at s) (aN0:∀s ver cs ow,σ0.at s= zq ver cs ow->∃Hd HJ PE,b.at s= zq Hd HJ PE):
  ∃vs,R=(x,vs,h)/\zk σ0 ws l σ' vs:=by
 rw[GR] at W9;split at W9
 .rename_i hk;split at W9
  .rename_i vs hv;cases W9;refine⟨vs,rfl,hv,pj.1.trans hlen,λs hs=>?_,λs ver cs ow hb=>?_⟩
   .by_cases hw:s∈ws;.exact z3 (W0 s hw)
    .rcases Og s hs with e|e
     .exact z3 e
     .right;have bL:=pj.2 s hw;let⟨k,j⟩:=rD hk hs;rw[e] at k j⊢;cases hx:b.at s with
      |box ver cs ow=>rw[hx] at bL;let⟨f,n,i,c,_,d⟩:=bL;grind
      |FF t o=>
       rw[hx] at bL;obtain c|c:=bL
       .exact c.symm
       .grind
      |_=>rw[hx] at bL;exact(show σ'.at s=_ from bL).symm
   .have hw:s∉ws:=λhw=>by rw[W0 s hw] at hb;cases hb
    let⟨f,n,i,c⟩:=aN0 s ver cs ow hb;have bL:=pj.2 s hw;rw[c] at bL;let⟨v2,m,g,d,_⟩:=bL;exact⟨v2,m,g,d⟩
  .cases W9
 .cases W9
def zk.next{σ0 σ':BU}{ws:List Nat}{l:List (Nat×Sh)}{vs:List Aa}(he:zk σ0 ws l σ' vs){G:BU->IT}{R:Kz}(hr:Dd C U0 w0 U Z σ' h a w)(Bb:zy (B8 C) run (J8 vs l 0 σ0 G) h=zx R):
  ∃b,zy (B8 C) run (G b) h=zx R/\Dd C U0 w0 U Z b h a w/\zz b=zz σ0/\(∀s,s∉l.map (·.1)->b.at s=σ0.at s)/\(∀s ver cs ow,σ0.at s= zq ver cs ow->∃Hd HJ PE,b.at s= zq Hd HJ PE/\(s∈l.map (·.1)->ver<Hd)):=by
 let⟨b,i,f,d,c⟩:=V8 (σs:=σ') (zv he.vec) he.len.symm Bb;refine⟨b,i,hr.aEP (f.trans he.len.symm) λs=>?_,f,d,λs ver cs ow hb=>?_⟩
 .by_cases hm:s∈l.map (·.1);.exact z4 (z4 (c s hm).1)
  .rw[d s hm];obtain e|e:=he.same s hm
   .exact z3 e
   .exact z4 (z3 e)
 .by_cases hm:s∈l.map (·.1)
  .let⟨_,q⟩:=c s hm;let⟨m,o,n,k⟩:=he.box s ver cs ow hb;rcases q with⟨Hd,HJ,PE,j,g⟩|q
   .exact⟨Hd,HJ,PE,j,λ_=>by rwa[hb] at g⟩
   .cases (q _ _ _) k
  .grind
def Qt{σ σ0 b:BU}{ws W:List Nat}{l:List (Nat×Sh)}(h0:σ0=σ.clear ws)(hv:xf l ws σ=zw)(hl:zz b=zz σ0)(h1:∀s,s∉l.map (·.1)->b.at s=σ0.at s)
  (h2:∀s ver cs ow,σ0.at s= zq ver cs ow->∃Hd HJ PE,b.at s= zq Hd HJ PE/\(s∈l.map (·.1)->ver<Hd)) (hW:∀s∈ws,s∈W):GL W σ b:=by
 refine⟨by rw[hl,h0,BU.KL],λs hs=>?_⟩;have ĺ:=λhm=>hs (hW s hm);have e0:σ0.at s=σ.at s:=by rw[h0,BU.I7,Ac ĺ]
 by_cases hm:s∈l.map (·.1)
 .obtain⟨p,hp,rfl⟩:=Bs.1 hm;have:=Ei.1 hv p hp;simp[WN,aH0] at this;obtain this|this:=this
  .cases ĺ this
  .cases hx:σ.at p.1 with
   |box ver cs ow=>let⟨c,i,d,g,f⟩:=h2 p.1 ver cs ow (by rwa[e0]);have:=f hm;exact⟨c,i,d,g,Ab,λe=>Ab⟩
   |_=>rw[hx] at this;cases this
 .rw[h1 s hm,e0];exact .refl _
def FB.le{n m:Nat}(h:FB C (zs (B8 C) n))(b:m<=n):FB C (zs (B8 C) m):=⟨h.1,λf args h0 r h' Bb=>h.2 f args h0 r h' (IT.IG b Bb)⟩
def zl(hm:C.P.follows .mixedOrders=zw):∀(c:Code) (n:Nat),FB C (zs (B8 C) n)->∀{K:Dm->BU->IT} {R:Kz} {σ:BU} {h:Ah} {a:Act} {w:World} {U:Gh} {Z:Nat->Nat} {Q:Exit->Act->World->Prop},
  zy (B8 C) (zs (B8 C) n) (GS C fid c σ K) h=zx R->Dd C U0 w0 U Z σ h a w->
  (∀x f d σ' h' a' w',zy (B8 C) (zs (B8 C) n) (K x σ') h'=zx R->GL (De c++Ch c) σ σ'->Dd C U0 w0 f d σ' h' a' w'->Q (zh x) a' w')->c.wp C.P Q a w:=by
 intro c;induction c with
 |skip=>intro n p K R σ h a w U Z Q Bb hr g;exact wp_skip (g zt U Z σ h a w Bb (.refl _ _) hr)
 |region id ops draw=>
  intro n p K R σ h a w U Z Q Bb hr g;simp only[GS] at Bb;split at Bb;.exact YZ hm p Bb hr λf d σ' h' a' w' h1 h2 A=>g zt f d σ' h' a' w' h1 h2 A
  .rename_i l hl;unfold gQ at Bb;simp only at Bb;split at Bb
   .rename_i hv;simp only[IT.step] at Bb;split at Bb
    .rename_i x vs h1 Y0;refine YZ hm p Y0 hr λf d σ' h' a' w' z u q=>?_;let⟨Iq,e,he⟩:=Qs (h:=h') z u (by rw[BU.KL]) (λs hs=>by rw[BU.I7,Af hs]) (λs _=>by rw[BU.I7];split<;>simp) (λs ver cs ow hb=>by
      rw[BU.I7] at hb;split at hb;.cases hb
      .exact⟨ver,cs,ow,hb⟩)
     cases e;let⟨k,F,E,L,J,I⟩:=he.next q Bb;exact g zt f d k h1 a' w' F (Qt rfl hv L J I (λs hs=>hs)) E
    .cases Bb
   .cases Bb
 |seq x y D B=>
  intro n p K R σ h a w U Z Q Bb hr g;simp only[GS] at Bb;refine wp_seq (D n p Bb hr λe f d σ' h' a' w' h1 h2 A=>?_);have up:∀j,GL (De x++Ch x) σ j->GL (De (.seq x y)++Ch (.seq x y)) σ j:=λj ho=>ho.mono λs hs=>by simp only[De,Ch,Ay] at hs⊢;obtain hs|hs:=hs<;>simp[hs]
  cases e with
  |normal=>refine B n p h1 A λY U2 Z2 j eB a2 w2 z u q=>g Y U2 Z2 j eB a2 w2 z ((up _ h2).trans (u.mono λs hs=>?_)) q;simp only[De,Ch,Ay] at hs⊢;obtain hs|hs:=hs<;>simp[hs]
  |exit i=>exact g (z7 i) f d σ' h' a' w' h1 (up _ h2) A
  |ret=>exact g z5 f d σ' h' a' w' h1 (up _ h2) A
 |cond c x y D B=>
  intro n p K R σ h a w U Z Q Bb hr g;have N:∀{o j:BU},GL (De x++Ch x) o j->GL (De (.cond c x y)++Ch (.cond c x y)) o j:=λ{o j} ho=>ho.mono λs hs=>by cases c<;>simp only[De,Ch,Ay,AR] at hs⊢<;>obtain hs|hs:=hs<;>simp[hs]
  have M:∀{o j:BU},GL (De y++Ch y) o j->GL (De (.cond c x y)++Ch (.cond c x y)) o j:=λ{o j} ho=>ho.mono λs hs=>by cases c<;>simp only[De,Ch,Ay,AR] at hs⊢<;>obtain hs|hs:=hs<;>simp[hs]
  simp only[GS] at Bb;split at Bb;.rename_i hc;let⟨s,h1,_⟩:=GU hr hc;exact wp_cond_true h1 (D n p Bb hr λe f d σ' h' a' w' z u q=>g e f d σ' h' a' w' z (N u) q)
  .rename_i hc;let⟨s,h1,_⟩:=GU hr hc;exact wp_cond_false h1 (B n p Bb hr λe f d σ' h' a' w' z u q=>g e f d σ' h' a' w' z (M u) q)
  .rename_i s v hc;have T:σ.at s= z8 v:=HE hc;have h0:=hr.fr.IS s;rw[T] at h0;have G:∀{S:Dm->BU->IT} {R':Kz} {Q':Exit->Act->World->Prop},zy (B8 C) (zs (B8 C) n) (.GJ v (GS C fid x (σ.set s (.P7 zw)) S) (GS C fid y (σ.set s (.P7 zu)) S)) h=zx R'->
     (∀e f d σ' h' a' w',zy (B8 C) (zs (B8 C) n) (S e σ') h'=zx R'->GL (De (.cond (.tmp s) x y)++Ch (.cond (.tmp s) x y)) σ σ'->Dd C U0 w0 f d σ' h' a' w'->Q' (zh e) a' w')->(Code.cond (.tmp s) x y).wp C.P Q' a w:=by
    intro S R' Q' R7 O;have qb:∀b:Bool,GL (De (.cond (.tmp s) x y)++Ch (.cond (.tmp s) x y)) σ (σ.set s (.P7 b)):=λb=> .set (by simp[Ch]);simp only[IT.step] at R7;split at R7;.have hv:a.eval (.tmp s)= .bool zw:=h0;exact wp_cond_true hv (D n p R7 (hr.qB h0) λe f d σ' h' a' w' z u q=>O e f d σ' h' a' w' z ((qb zw).trans (N u)) q)
    .have hv:a.eval (.tmp s)= .bool zu:=h0;exact wp_cond_false hv (B n p R7 (hr.qB h0) λe f d σ' h' a' w' z u q=>O e f d σ' h' a' w' z ((qb zu).trans (M u)) q)
    .cases R7
   split at Bb;.exact G Bb g
   .rename_i l hl;unfold gQ at Bb;simp only at Bb;split at Bb
    .rename_i hv;simp only[IT.step] at Bb;split at Bb
     .rename_i e vs h1 Y0;refine G Y0 λY f d σ' h' a' w' z u q=>?_;let⟨Iq,eq,he⟩:=Qs (h:=h') (ws:=s::(De x++De y++Ch x++Ch y)) z (u.mono λt ht=>by
        simp only[De,Ch,Ay,AR] at ht⊢;rcases ht with(ht|ht)|ht|ht|ht<;>simp[ht]) (by rw[BU.KL]) (λt ht=>by rw[BU.I7,Af ht]) (λt _=>by rw[BU.I7];split<;>simp) (λt ver cs ow hb=>by
       rw[BU.I7] at hb;split at hb;.cases hb
       .exact⟨ver,cs,ow,hb⟩)
      cases eq;let⟨k,F,E,L,J,I⟩:=he.next q Bb;exact g e f d k h1 a' w' F (Qt rfl hv L J I (λt ht=>by simp only[De,Ch,Ay,AR] at ht⊢;obtain ht|((ht|ht)|ht)|ht:=ht<;>simp[ht])) E
     .cases Bb
    .cases Bb
  .cases Bb
 |block id b ih=>
  intro n p K R σ h a w U Z Q Bb hr g;simp only[GS] at Bb;refine wp_block (ih n p Bb hr λe f d σ' h' a' w' h1 h2 A=>?_);cases e with
  |normal=>exact g zt f d σ' h' a' w' h1 h2 A
  |exit i=>
   simp only at h1;show if i=id then Q .normal a' w' else Q (.exit i) a' w'
   by_cases hi:i=id;.rw[Af hi] at h1⊢;exact g zt f d σ' h' a' w' h1 h2 A
   .rw[Ac hi] at h1⊢;exact g (z7 i) f d σ' h' a' w' h1 h2 A
  |ret=>exact g z5 f d σ' h' a' w' h1 h2 A
 |loop b ih=>
  intro n p K R σ h a w U Z Q Bb hr g;simp only[GS] at Bb;generalize hl:C.aEk fid ((Ho b).getD 0)=l at Bb;generalize aTx:(Ho b).getD 0=key at Bb;generalize h0:σ.clear (De b++Ch b)=σ0 at Bb;split at Bb
  .rename_i hv;split at Bb;.cases Bb
   .rename_i init aIu;have aIv:zz σ0=zz σ:=by rw[<-h0,BU.KL]
    have W0:∀s,s∈De b++Ch b->σ0.at s= ze:=λs hs=>by rw[<-h0,BU.I7,Af hs]
    refine iE (λm a w=>∃U Z o h vs,Dd C U0 w0 U Z o h a w/\zk σ0 (De b++Ch b) l o vs/\m<=n+1/\
     zs (B8 C) m (.loop key vs (λvs=>J8 vs l 0 σ0 λk=>GS C fid b k λx σ'=>GR σ0 l x σ') λx vs=>J8 vs l 0 σ0 λσ'=>aCW K x σ') h=zx R) ?_ (n+1) a w
     ⟨U,Z,σ,h,init,hr,⟨aIu,aIv.symm,λs _=>by rw[<-h0,BU.I7];split<;>simp,λs ver cs ow hb=>by
      rw[<-h0,BU.I7] at hb;split at hb;.cases hb
      .exact⟨ver,cs,ow,hb⟩⟩,Ae _,Bb⟩
    rintro m a1 w1 ⟨U1,Z1,o,h1,vs,KA,V,hmn,JI⟩;cases m with
    |zero=>simp[zs] at JI
    |succ m=>
     simp only[IT.run,IT.step] at JI;have body:∀{x:Dm} {Iq:List Aa} {h':Ah},zy (B8 C) (zs (B8 C) m) (J8 vs l 0 σ0 λk=>GS C fid b k λx σ'=>GR σ0 l x σ') h1=zx (x,Iq,h')->∀{Q':Exit->Act->World->Prop},
       (∀f d σ' a' w',Dd C U0 w0 f d σ' h' a' w'->zk σ0 (De b++Ch b) l σ' Iq->Q' (zh x) a' w')->b.wp C.P Q' a1 w1:=by
      intro x Iq h' hb Q' X;let⟨k,F,E,L,J,I⟩:=V.next KA hb;refine ih m (p.le Ab) F E λy f d σ' h2 a' w' z u q=>?_;let⟨vs2,eq,he⟩:=Qs z u L W0 (λs hs=> z4 (J s hs).symm) λs ver cs ow hb=>by let⟨v1,c1,o1,e1,_⟩:=I s ver cs ow hb;exact⟨v1,c1,o1,e1⟩
      cases eq;exact X f d σ' a' w' q he
     split at JI;.rename_i Iq h' hb;exact body hb λf d σ' a' w' Gy Qu=>⟨m,N9 m,f,d,σ',h',Iq,Gy,Qu,Ab,JI⟩
     .rename_i x Iq h' hne hb;refine body hb λf d σ' a' w' Gy Qu=>?_;have V6:=IT.Kk (λt h r=>IT.IG (fn:=B8 C) (Ab:m<=n)) _ _ _ JI;let⟨k,F,E,L,J,I⟩:=Qu.next Gy V6;have ho:=Qt h0.symm hv L J I λs hs=>hs;cases x with
      |normal=>cases hne rfl
      |exit i=>exact g _ f d k h' a' w' F ho E
      |ret=>exact g _ f d k h' a' w' F ho E
     .cases JI
  .cases Bb
 |exit id=>intro n p K R σ h a w U Z Q Bb hr g;exact wp_exit (g (z7 id) U Z σ h a w Bb (.refl _ _) hr)
 |ret=>intro n p K R σ h a w U Z Q Bb hr g;exact wp_ret (g z5 U Z σ h a w Bb (.refl _ _) hr)
 |label l=>intro n p K R σ h a w U Z Q Bb hr g;exact wp_label (g zt U Z σ h a w Bb (.refl _ _) hr)
 |scope b ih=>
  intro n p K R σ h a w U Z Q Bb hr g;simp only[GS] at Bb;refine wp_scope_straight (ih n p Bb hr λe f d σ' h' a' w' h1 h2 A=>?_);cases e with
  |normal=>exact g zt f d σ' h' a' w' h1 h2 A
  |exit i=>exact g (z7 i) f d σ' h' a' w' h1 h2 A
  |ret=>exact g z5 f d σ' h' a' w' h1 h2 A
 |_=>intros n p K R σ h a w U Z Q Bb hr g;cases Bb
end
end Go.Am
end
section
namespace Go.Am
open Go
section
variable{C:GN}{U0 U:Gh}{w0 w:World}{Z:Nat->Nat}{σ:BU}{h:Ah}{a:Act}{fid:FuncId}{run:IT->Ah->Option Kz}
def I8(tmps:Array Value):ResultVar->Sem Value
 | .tmp t=>pure (tmps.getD t undef)
 | .cell a t=>do loadVar t (<-asAddr (tmps.getD a undef))
def TL{P:Program}{t:TypeId}{b o:Nat}{v:Value}(h:(Instr.loadAt t (.pointer (zx ⟨b,o,zr⟩))).run P w= .ok v w):(loadVar t ⟨b,o,zr⟩).run P w= .ok v w:=by simpa[Instr.loadAt,Instr.sureAddr] using h
def V9{K:List Aa->IT}{R:Kz}:∀{rs:List ResultVar} {Ed:List Aa},zy (B8 C) run (Hj C σ rs Ed K) h=zx R->Dd C U0 w0 U Z σ h a w->
  ∃vs us,(rs.mapM (I8 a.tmps)).run C.P w= .ok us w/\Bp U vs us/\zy (B8 C) run (K (Ed.reverse++vs)) h=zx R
 |[],Ed,Bb,hr=>⟨[],[],AH,rfl,by simpa[Hj] using Bb⟩
 |f::rs,Ed,Bb,hr=>by
  have one:∀(v:Aa) (u:Value),(I8 a.tmps f).run C.P w= .ok u w->BT U v u->zy (B8 C) run (Hj C σ rs (v::Ed) K) h=zx R->
    ∃vs us,((f::rs).mapM (I8 a.tmps)).run C.P w= .ok us w/\Bp U vs us/\zy (B8 C) run (K (Ed.reverse++vs)) h=zx R:=by
   intro v u h1 h2 m;let⟨vs,us,z,y,x⟩:=V9 m hr;refine⟨v::vs,u::us,?_,⟨u,us,rfl,h2,y⟩,zv x⟩;simp[List.mapM_cons,h1,z]
  cases f with
  |tmp t=>
   simp[Hj] at Bb;split at Bb;next v hv=>exact one v _ (by simp[I8]) (Oi (hr.fr.IS t) hv) Bb
   .cases Bb
  |cell p t=>
   have c:∀(b o:Nat) (v:Aa),a.tmps.getD p undef= .pointer (zx ⟨b,o,zr⟩)->(∃u,(Instr.loadAt t (.pointer (zx ⟨b,o,zr⟩))).run C.P w= .ok u w/\BT U v u)->zy (B8 C) run (Hj C σ rs (v::Ed) K) h=zx R->
     ∃vs us,((ResultVar.cell p t::rs).mapM (I8 a.tmps)).run C.P w= .ok us w/\Bp U vs us/\zy (B8 C) run (K (Ed.reverse++vs)) h=zx R:=by
    intro b o v hp ⟨u,h1,h2⟩ m;refine one v u ?_ h2 m;simp[I8,hp,asAddr,Sem.run_bind,Sem.run_pure,Result.andThen_ok];exact TL h1
   simp[Hj] at Bb;split at Bb
   .rename_i s off ver cs ow ht ha;split at Bb;.rename_i hlt;let⟨hs,hx⟩:=LS hr ha;let⟨u,i,g,_⟩:=LD hr ht hs (r:=cs.getD off .nilIface) (off:=off) (by simp[FN,z2,An hlt]);exact c _ _ _ hx ⟨u,i,g⟩ Bb
    .cases Bb
   .rename_i n s off ver cs ow ht ha;split at Bb;.rename_i EH;let⟨hs,hx⟩:=LS hr ha;let⟨u,i,g,_⟩:=LD hr ht hs (r:= .agg ((cs.drop off).take n)) (off:=off) (by simp[FN,EH]);exact c _ _ _ hx ⟨u,i,g⟩ Bb
    .cases Bb
   .rename_i n p' ht ha;simp[zy] at Bb;split at Bb
    .rename_i v hv;have et:=SH hr ha;unfold A5 at hv;split at hv;.rename_i cs;let⟨b,k,qQ,hm⟩:=et;let⟨us,l,d⟩:=hm.values;exact c b k v qQ (I6 (w:=w) ht l (λj u hj=>(hr.Eh.IZ _ _ _ (d j u hj)).1) (λu hu=>by let⟨j,hj⟩:=CW hu;exact(hr.Eh.IZ _ _ _ (d j u hj)).2.1) hv) Bb
     .rename_i id off;let⟨b,hb,qQ⟩:=et;split at hv
      .rename_i cs hcs;let⟨us,e,fr,l,pf,d,q⟩:=hr.Eh.cells id cs hcs b hb;refine c b off v qQ (I6 (w:=w) (b:=b) (o:=off) ht (d.drop off) (λj u hj=>?_) (λu hu=>q u (BO hu)) (Ql hv)) Bb;rw[cell_of_row w _ _ us e fr l];rw[Cu,Ci] at hj;split at hj;.exact zv hj
       .cases hj
      .cases hv
     .cases hv
    .cases Bb
   .cases Bb
def Dd.Qa(hr:Dd C U0 w0 U Z σ h a w){p:Aa}{off:Nat}{u:Value}{h':Ah}(hp:BT U p u)(hf:MO h off p=zx h'):∃t,Dd C U0 w0 t Z σ h' a w:=by
 unfold MO at hf;split at hf;.cases hf;exact⟨U,hr⟩
 .rename_i id n;generalize n+off=o at hf;let⟨b,hb,_⟩:=hp;split at hf
  .rename_i cs hcs;split at hf
   .rename_i v hv;let⟨us,e,fr,c,pf,m,B⟩:=hr.Eh.cells id cs hcs b hb;let⟨x,hx,f⟩:=m.get hv;cases hq:KY h v with
    |none=>rw[hq] at hf;cases hf
    |some q=>
     let⟨h1,v'⟩:=q;rw[hq] at hf;simp[CP] at hf;split at hf
     .rename_i HJ aIw;cases hf;let⟨U1,EH,KA,r⟩:=hr.P5 f hq;have UP:=EH.mu _ _ hb;let⟨j,D,s,g,k,r2,l⟩:=KA.Eh.cells id HJ aIw b UP;rw[c] at g;cases g;have qb:Bp U1 (HJ.set o v') (us.toList.take (HJ.set o v').length):=by
       rw[Br];refine Bp.HD (by simp[r2.length]) λi y z hy hz=>?_;by_cases hi:o=i;.grind
       .rw[Au hi] at hy;let⟨A,bR,d⟩:=r2.get hy;rw[hz] at bR;cases bR;exact d
      let⟨Xz,PV⟩:=Of KA.Eh aIw UP c us (HJ.set o v') rfl k qb (by rwa[Br]);rw[setRow_self w b us e fr c] at Xz PV;exact⟨U1,KA.JF Xz PV⟩
     .cases hf
   .cases hf
  .cases hf
 .cases hf
def fm{t:IT}{R:Kz}:∀{l:List (Nat×Nat)} {U:Gh} {h:Ah},zy (B8 C) run (dk C σ l t) h=zx R->Dd C U0 w0 U Z σ h a w->∃b h',Dd C U0 w0 b Z σ h' a w/\zy (B8 C) run t h'=zx R
 |[],U,h,Bb,hr=>⟨U,h,hr,Bb⟩
 |(s,off)::l,U,h,Bb,hr=>by
  simp[dk] at Bb;split at Bb
  .rename_i p hp;simp[zy] at Bb;split at Bb;.rename_i h1 hf;let⟨U1,KA⟩:=hr.Qa (Oi (hr.fr.IS s) hp) hf;exact fm Bb KA
   .cases Bb
  .cases Bb
def Y1{R:Kz}:∀{vs Ed:List Aa} {U:Gh} {h:Ah} {us vq:List Value},zy (B8 C) run (Qf vs Ed VQ) h=zx R->Dd C U0 w0 U Z σ h a w->Bp U vs us->Bp U Ed.reverse vq->
  ∃c h' Iq,Dd C U0 w0 c Z σ h' a w/\Bp c Iq (vq++us)/\zy (B8 C) run (VQ Iq) h'=zx R
 |[],Ed,U,h,us,vq,Bb,hr,h1,h2=>by rw[show us=[] from h1,BB];exact⟨U,h,Ed.reverse,hr,h2,Bb⟩
 |v::vs,Ed,U,h,us,vq,Bb,hr,h1,h2=>by
  obtain⟨u,D4,rfl,hv,h1⟩:=h1;simp[Qf,zy] at Bb;split at Bb
  .rename_i k v' hf;let⟨U1,EH,KA,b⟩:=hr.P5 hv hf;have e:Bp U1 (v'::Ed).reverse (vq++[u]):=by rw[E5];exact(Bp.mono EH _ _ h2).append ⟨u,[],rfl,b,rfl⟩
   let⟨l,j,d,i,g,f⟩:=Y1 Bb KA (Bp.mono EH _ _ h1) e;grind
  .grind
def fo{R:Kz}{vs:List Aa}{us:List Value}{U:Gh}{h:Ah}(Bb:zy (B8 C) run (VQ vs) h=zx R)(hv:Bp U vs us):
  ∃r,R=(z5,[r],h)/\BT U r (if c:us.toArray.size=1 then us.toArray[0] else .tuple us.toArray):=by
 unfold VQ at Bb;split at Bb;next v=>obtain⟨u,D4,rfl,b,hnil⟩:=hv;rw[show D4=[] from hnil];simp[zy] at Bb;grind
 .rename_i hne;simp[zy] at Bb;cases Bb;have hlen:zz us≠1:=λe=>by have:=hv.length;rw[e] at this;let⟨v,hv⟩:=aHo.1 this.symm;exact hne v hv
  refine⟨_,rfl,?_⟩;rw[dif_neg (zv hlen)];exact⟨us.toArray,rfl,zv hv⟩
def Wa{fn:Func}{tmps:Array Value}{us:List Value}(h:(fn.results.toList.mapM (I8 tmps)).run C.P w= .ok us w):(results fn tmps).run C.P w= .ok (if b:us.toArray.size=1 then us.toArray[0] else .tuple us.toArray) w:=by
 have e:fn.results.mapM (I8 tmps)=(do let l<-fn.results.toList.mapM (I8 tmps);pure l.toArray:Sem (Array Value)):=by rw[Array.mapM_eq_mapM_toList];simp
 have c:results fn tmps=(do let vs<-fn.results.mapM (I8 tmps);pure (if b:vs.size=1 then vs[0] else .tuple vs):Sem Value):=by congr 2
 simp_all
def ŝ{fn:Func}{R:Kz}(Bb:zy (B8 C) run (qA C fid fn σ) h=zx R)(hr:Dd C U0 w0 U Z σ h a w):
  ∃r h' v f,R=(z5,[r],h')/\(results fn a.tmps).run C.P w= .ok v w/\HK f h' w/\LQ U0 w0 f w/\BT f r v/\(C.JM fid=zw->∃s c,Jp f w0.heap.size w s c v r):=by
 rw[qA] at Bb;split at Bb;.cases Bb
 .rename_i Gf;let⟨U1,h1,KA,JI⟩:=fm Bb hr;by_cases ho:C.JM fid=zw
  .have g:∃t x,fn.results.toList=[.tmp t]/\σ.at t= .Bu x:=by
    have:Rd σ fn.results.toList=zw:=by
     cases hq:Rd σ fn.results.toList with
     |true=>rfl
     |false=>cases Gf (by simp[ho,hq])
    unfold Rd at this;grind
   let⟨t,x,d,hx⟩:=g;have h0:=KA.fr.IS t;rw[hx] at h0;have Ş:=Wa (C:=C) (w:=w) (fn:=fn) (tmps:=a.tmps) (us:=[a.tmps.getD t undef]) (by rw[d];simp[I8]);rw[d] at JI;simp[Hj,hx,EL.IF,E5,UJ,BY] at JI;have aIx:KY h1 x=zx (h1,x):=by rcases h0.2 with(rfl|⟨_,rfl⟩)|⟨_,_,_,_,_,_,_,rfl,_⟩<;>rfl
   have hR:R=(z5,[x],h1):=by
    split at JI;.simp only[Qf,zy,aIx,E5,UJ,BY,VQ] at JI;cases JI;rfl
    .simp only[zy,VQ] at JI;cases JI;rfl
   exact⟨x,h1,_,U1,hR,zv Ş,KA.Eh,KA.Ed,h0.1,λ_=>⟨t,zr,h0.2⟩⟩
  .let⟨vs,us,n,k,V6⟩:=V9 JI KA;simp[UJ,BY] at V6;have Ş:=Wa (C:=C) n;split at V6;.let⟨o,h2,l,j,i,m⟩:=Y1 V6 KA k (vq:=[]) rfl;rw[BY] at i;let⟨r,hR,b⟩:=fo m i;exact⟨r,h2,_,o,hR,Ş,j.Eh,j.Ed,b,λe=>absurd e ho⟩
   .let⟨r,hR,b⟩:=fo V6 k;exact⟨r,h1,_,U1,hR,Ş,KA.Eh,KA.Ed,b,λe=>absurd e ho⟩
def Dd.start{U:Gh}{h:Ah}{w:World}(hi:HK U h w)(hg:∀g cs,C.HO g=zx cs->Df U cs g 0){args:List Aa}{cargs:Array Value}(ha:Bp U args cargs.toList)(n:Nat)(Z:Nat->Nat):
  Dd C U w U Z (args.map z8++z1 (n-zz args) .undef) h {tmps:=cargs++Array.replicate (n-cargs.size) undef,defers:=[]} w:=by
 have hlen:cargs.size=zz args:=by have:=ha.length;exact zv this
 refine⟨hi,⟨by simp[hlen],λs=>?_⟩,LQ.refl U w,rfl,hg⟩;by_cases hs:s<zz args
 .have h1:BU.at (args.map z8++z1 (n-zz args) ze) s= z8 args[s]:=by simp[BU.at,z2,Ak,hs]
  let⟨u,hu,hr⟩:=ha.get (An hs);have h2:(cargs++Array.replicate (n-cargs.size) undef).getD s undef=u:=by
   rw[Kx,Array.getElem?_append_left Ab];have:cargs[s]?=zx u:=zv hu
   rw[this];rfl
  rwa[h1,h2]
 .have h1:BU.at (args.map z8++z1 (n-zz args) ze) s= ze:=by simp[BU.at,z2];grind
  rw[h1];trivial
def iG(C:GN):Prop:=
 (∀f,C.L9 f=zw->yo C f)/\∀(f:FuncId) (p:List Aa->IT),C.aEl f=zx p->∀n,FB C (zs (B8 C) n)->∀(args:List Aa) (h:Ah) (r:Aa) (h':Ah),zy (B8 C) (zs (B8 C) n) (p args) h=zx (z5,[r],h')->
  (∃fn c,C.P.funcs[E0 f]?=zx fn/\(fn.name== "runtime.NumGoroutine")=zu/\fn.body=zx c)/\
  ∀(U:Gh) (w:World) (cargs:Array Value),HK U h w->(∀g cs,C.HO g=zx cs->Df U cs g 0)->Bp U args cargs.toList->
   Calls C.P (E0 f) cargs w λe w'=>match e with
    | .returned v=>∃b,HK b h' w'/\LQ U w b w'/\BT b r v/\(C.JM f=zw->∃s c,Jp b w.heap.size w' s c v r)
    |_=>False
def rE(hm:C.P.follows .mixedOrders=zw)(zn:∀g cs,C.HO g=zx cs->cs.all Aa.Nv=zw)(d:iG C):∀n,FB C (zs (B8 C) n)
 |0=>⟨⟨zn,d.1⟩,λf args h r h' Bb=>by simp[zs] at Bb⟩
 |n+1=>⟨⟨zn,d.1⟩,λf args h r h' Bb=>by
  have ih:=rE hm zn d n;rw[B8] at Bb;split at Bb;next p hp=>exact d.2 f p hp n ih args h r h' Bb
  rw[aH8] at Bb;split at Bb
  .rename_i fn hf;split at Bb;.cases Bb
   .rename_i hname;rw[xg] at Bb;split at Bb;.cases Bb
    .rename_i c hb;refine⟨⟨fn,c,hf,zv hname,hb⟩,λU w cargs hi hg ha=>calls_of_wp hf hb ?_⟩;refine zl (C:=C) (fid:=f) hm c n ih Bb (Dd.start hi hg ha fn.ntmps (λ_=>0)) λx y u σ' h1 a' w' j _ k=>?_;have He:zy (B8 C) (zs (B8 C) n) (qA C f fn σ') h1=zx (z5,[r],h')->a'.defers=[]/\∃v,(results fn a'.tmps).run C.P w'= .ok v w'/\∃b,HK b h' w'/\LQ U w b w'/\BT b r v/\(C.JM f=zw->∃s c,Jp b w.heap.size w' s c v r):=λaN2=>by let⟨r',h2,v,b,e,t,q,o,m,l⟩:=ŝ aN2 k;cases e;exact⟨k.defers,v,t,b,q,o,m,l⟩
     cases x with
     |normal=>exact He j
     |ret=>exact He j
     |exit i=>cases j
  .cases Bb⟩
end
def Ev.calls{C:GN}(hm:C.P.follows .mixedOrders=zw)(zn:∀g cs,C.HO g=zx cs->cs.all Aa.Nv=zw)(b:iG C){f:FuncId}{args:List Aa}{h:Ah}{Q:Aa->Ah->Prop}(IJ:Ev C f args h Q){U:Gh}{w:World}{cargs:Array Value}(hi:HK U h w)(hg:∀g cs,C.HO g=zx cs->Df U cs g 0)(ha:Bp U args cargs.toList):
  Calls C.P (E0 f) cargs w λe w'=>match e with
   | .returned v=>∃r h' c,Q r h'/\HK c h' w'/\LQ U w c w'/\BT c r v
   |_=>False:=by
 obtain⟨n,x,vs,h',Bb,rfl,r,rfl,hQ⟩:=IJ;refine(((rE hm zn b n).2 f args h r h' Bb).2 U w cargs hi hg ha).mono λe w' he=>?_;cases e with
 |returned v=>grind
 |_=>exact he
end Go.Am
end
section
namespace Go.Am
open Go
inductive Ty where
 |bool
 |int (k:IntKind)
 |str
 |sl (e:Ty)
 |st (fs:List Ty)
 deriving Inhabited
mutual
def Ty.size:Ty->Nat
 | .bool| .int _| .str| .sl _=>1
 | .st fs=>Ty.NH fs
def Ty.NH:List Ty->Nat
 |[]=>0
 |t::ts=>Ty.size t+Ty.NH ts
end
mutual
def PX(P:Program):Ty->TypeId->Bool
 | .bool,t=>match P.underlying t with|zx .bool=>zw|_=>zu
 | .int k,t=>match P.underlying t with|zx (.int k')=>decide (k'=k)|_=>zu
 | .str,t=>match P.underlying t with|zx .string=>zw|_=>zu
 | .sl e,t=>match P.underlying t with
  |zx (.slice e')=>P.cellsOf e'==Ty.size e&&decide (0<Ty.size e)&&PX P e e'
  |_=>zu
 | .st fs,t=>match P.underlying t with
  |zx (.struct fields)=>P.cellsOf t==Ty.NH fs&&Qv P fs fields.toList 0
  |_=>zu
def Qv(P:Program):List Ty->List Field->Nat->Bool
 |[],[],_=>zw
 |ty::tys,f::fs,off=>f.offset==off&&P.cellsOf f.type==Ty.size ty&&PX P ty f.type&&Qv P tys fs (off+Ty.size ty)
 |_,_,_=>zu
end
mutual
def cC:Ty->List Aa->Prop
 | .bool,l=>∃b,l=[zc b]
 | .int k,l=>∃n,l=[.int k n]/\(Lit.int k n).wf=zw
 | .str,l=>∃s:Ai,l=[.str s]/\zz s<=maxLen
 | .sl e,l=>l=[.slnil]\/∃AD:List (List Aa),l=[.sl (Ty.size e) AD]/\zz AD<=maxLen/\∀r∈AD,cC e r
 | .st fs,l=>qk fs l
def qk:List Ty->List Aa->Prop
 |[],l=>l=[]
 |ty::tys,l=>∃a b,l=a++b/\cC ty a/\qk tys b
end
def Ty.aES:Ty->Bool
 | .st _=>zw
 |_=>zu
def xJ(ty:Ty)(a:Aa):Prop:=if ty.aES then∃cs,a= .agg cs/\cC ty cs else cC ty [a]
def XC:List Ty->List Aa->Prop
 |[],l=>l=[]
 |ty::tys,l=>∃a b,l=a::b/\xJ ty a/\XC tys b
def GW(W:World):Gh:={IZ:=λb o=>(W.cell? ⟨b,o,zr⟩).filter (·.oneCell'),mu:=λ_=>zr,Bu:=λ_=>zr,sz:=λ_=>zr}
def zp(W:World):HK (GW W) [] W:=by refine⟨λb o v h=>?_,λid x h=>by simp at h,λid cs h=>by simp at h,λid es h=>by simp at h,λid b h=>(by cases h),λb x h=>(by cases h),λb n h=>(by cases h)⟩;simp[GW,RT] at h;exact⟨h.1,h.2,z3 rfl⟩
def Vd{W:World}{b o:Nat}{v:Value}(h:W.cell? ⟨b,o,zr⟩=zx v)(h1:v.oneCell'=zw):(GW W).IZ b o=zx v:=by simp[GW,h,h1,Option.filter]
def Wb{V:Type}{p:Nat->V->Prop}:∀(n:Nat),(∀i,i<n->∃x,p i x)->∃l:List V,zz l=n/\∀i x,l[i]?=zx x->p i x
 |0,_=>⟨[],rfl,AH⟩
 |n+1,h=>by let⟨l,hl,hp⟩:=Wb n λi hi=>h i Ab;let⟨x,hx⟩:=h n Ab;refine⟨l++[x],by simp[hl],λi y hy=>?_⟩;grind
section
variable{H:Type}{enc:TypeId×Value->H}{P:Program}{W:World}
def Sa{a:Addr}{n:Nat}{cs:List Value}(h:W.cells? 0 a n=zx cs)(hn:0<n):a.spot=zr:=by
 let⟨_,hl,hc⟩:=World.cells?_some h;have h0:=hc 0 hn;have hlt:0<zz cs:=Ab;rw[An hlt] at h0;rw[World.cell?] at h0;have ha:a.add 0=a:=by simp[Addr.add]
 split at h0;.simp_all
 .cases h0
mutual
def iH:∀(ty:Ty) {t:TypeId} {fuel:Nat} {cs:List Value} {x:DataW H×List MemPlace},PX P ty t=zw->DataW.trod enc P W 0 (λ_=>zw) zw fuel t cs=zx x->
  ∃as,cC ty as/\Bp (GW W) as cs/\(∀u∈cs,u.oneCell'=zw)/\zz as=Ty.size ty
 | .bool,t,fuel,cs,x,Mm,h=>by
  rw[PX] at Mm;split at Mm;next ht=>obtain⟨b,rfl,_⟩:=DataW.trod_bool ht h;exact⟨[zc b],⟨b,rfl⟩,⟨_,[],rfl,rfl,rfl⟩,by simp[Value.oneCell'],rfl⟩
  .cases Mm
 | .int k,t,fuel,cs,x,Mm,h=>by
  rw[PX] at Mm;split at Mm
  .rename_i k' ht;have hk:k'=k:=zv Mm
   subst hk;obtain⟨n,rfl,_,hw⟩:=DataW.trod_int ht h;exact⟨[.int k' n],⟨n,rfl,hw⟩,⟨_,[],rfl,rfl,rfl⟩,by simp[Value.oneCell'],rfl⟩
  .cases Mm
 | .str,t,fuel,cs,x,Mm,h=>by
  rw[PX] at Mm;split at Mm
  .rename_i ht;obtain⟨s,rfl,_,hs⟩:=DataW.trod_string ht h;refine⟨[.str s.data.toList],⟨_,rfl,by
    have e:zz s.data.toList=s.size:=by rw[Cv];rfl
    rwa[e]⟩,⟨_,[],rfl,?_,rfl⟩,by simp[Value.oneCell'],rfl⟩
   show Value.string s= .string ⟨⟨s.data.toList⟩⟩;congr 1
  .cases Mm
 | .sl e,t,fuel,cs,x,Mm,h=>by
  rw[PX] at Mm;split at Mm
  .rename_i e' ht;simp[Bq,ĵ,Cd] at Mm;let⟨⟨hce,hpos⟩,aN3⟩:=Mm;rcases DataW.trod_slice ht h with⟨rfl,_⟩|⟨a,len,cap,elems,rest,n,_,rfl,_,_,hl,hm,hlen,c,hsp,_⟩
   .exact⟨[.slnil],z3 rfl,⟨_,[],rfl,rfl,rfl⟩,by simp[Value.oneCell'],rfl⟩
   .have spot:0<cap->a.spot=zr:=λhc=>by
     have ha:a.add 0=a:=by simp[Addr.add]
     obtain h0|h0:=Q6 len
     .let⟨KA,LU⟩:=hsp rfl;have:=LU 0 Ab;rw[An (Ab:0<zz rest)] at this;have z:(len+0)*P.cellsOf e'=0:=by rw[h0];simp
      rw[z,ha] at this;let⟨vs,hv,_⟩:=UK.1 this;exact Sa hv Ab
     .have:=c 0 h0;rw[An (Ab:0<zz elems)] at this;rw[VM,ha] at this;let⟨vs,hv,_⟩:=UK.1 this;exact Sa hv Ab
    let⟨AD,vP,qU⟩:=Wb (p:=λi (r:List Aa)=>cC e r/\zz r=Ty.size e/\Df (GW W) r a.block (a.off+i*Ty.size e)) len λi hi=>by
     have:=c i hi;rw[An (Ab:i<zz elems)] at this;let⟨vs,hv,hd⟩:=UK.1 this;let⟨r,m,g,d,l⟩:=iH e aN3 hd;refine⟨r,m,l,Df.HD λj y hj=>?_⟩;let⟨u,hu,q⟩:=g.get hj;let⟨_,hvl,v⟩:=World.cells?_some hv;have dU:j<P.cellsOf e':=by have:=(Aq.1 hu).1;omega
     have hc:=v j dU;rw[hu] at hc;have wK:a=⟨a.block,a.off,zr⟩:=by have:=spot Ab;cases a;simp_all
     have Oj:(a.add (i*P.cellsOf e')).add j=⟨a.block,a.off+i*Ty.size e+j,zr⟩:=by rw[hce];generalize a.block=b at*;generalize a.off=o at*;subst wK;rw[Addr.add_lit,Addr.add_lit]
     rw[Oj] at hc;exact⟨u,Vd hc (d u (CV hu)),q⟩
    refine⟨[.sl (Ty.size e) AD],z4 ⟨AD,rfl,Ab,λr hr=>?_⟩,⟨_,[],rfl,⟨a,cap,by rw[vP],Ab,?_,FZ.HD λi r hr=>?_⟩,rfl⟩,by simp[Value.oneCell'],rfl⟩;.let⟨i,hi⟩:=CW hr;exact(qU i r hi).1
    .rcases Q6 cap with h0|h0
     .exact .inr h0
     .exact .inl (spot h0)
    .exact⟨(qU i r hr).2.1,(qU i r hr).2.2⟩
  .cases Mm
 | .st fs,t,fuel,cs,x,Mm,h=>by
  rw[PX] at Mm;split at Mm
  .rename_i fields ht;simp[Bq,ĵ] at Mm;let⟨hct,hf⟩:=Mm;let⟨xs,n,_,_,hcl,A,gR⟩:=DataW.trod_struct ht h;let⟨as,m,g,d,l⟩:=Wc fs (fields:=fields.toList) (off:=0) (cs:=cs) (n:=n) hf (λi f hi=>by
    have:=gR i f (zv hi);have hlt:i<fields.size:=by have:=(Aq.1 hi).1;exact zv this
    rw[An (Ab:i<zz xs)] at this;exact⟨_,this⟩) (by rw[hcl,hct];omega)
   have B:(cs.drop 0).take (Ty.NH fs)=cs:=by rw[Nn];exact AF (by rw[hcl,hct];exact Ae _)
   rw[B] at g d;exact⟨as,m,g,d,l⟩
  .cases Mm
def Wc:∀(tys:List Ty) {fields:List Field} {off:Nat} {cs:List Value} {n:Nat},Qv P tys fields off=zw->
  (∀(i:Nat) (f:Field),fields[i]?=zx f->∃y,DataW.trod enc P W 0 (λ_=>zw) zw n f.type ((cs.drop f.offset).take (P.cellsOf f.type))=zx y)->off+Ty.NH tys<=zz cs->
  ∃as,qk tys as/\Bp (GW W) as ((cs.drop off).take (Ty.NH tys))/\(∀u∈(cs.drop off).take (Ty.NH tys),u.oneCell'=zw)/\zz as=Ty.NH tys
 |[],fields,off,cs,n,Mm,h,hl=>by refine⟨[],rfl,?_,?_,rfl⟩<;>simp[Ty.NH,Bp]
 |ty::tys,fields,off,cs,n,Mm,h,hl=>by
  cases fields with
  |nil=>simp[Qv] at Mm
  |cons f fs=>
   simp[Qv,Bq,ĵ] at Mm;let⟨⟨⟨ho,hc⟩,dI⟩,yx⟩:=Mm;let⟨y,hy⟩:=h 0 f rfl;rw[ho,hc] at hy;let⟨as,m,l,k,j⟩:=iH ty dI hy;simp[Ty.NH] at hl;let⟨bs,e,d,c,b⟩:=Wc tys yx (λi g hi=>h (i+1) g (zv hi)) Ab;have o:(cs.drop off).take (Ty.NH (ty::tys))=(cs.drop off).take (Ty.size ty)++(cs.drop (off+Ty.size ty)).take (Ty.NH tys):=by simp[Ty.NH];rw[aCL,Fi]
   rw[o];refine⟨as++bs,⟨as,bs,rfl,m,e⟩,l.append d,λu hu=>?_,by simp[j,b,Ty.NH]⟩;obtain hu|hu:=Ay.1 hu
   .exact k u hu
   .exact c u hu
end
def iI{ty:Ty}{t:TypeId}{v:Value}{base:Nat}(Mm:PX P ty t=zw)(hv:zf P W .any base t v):if ty.aES then∃cs,v= .agg cs else v.cells=#[v]:=by
 cases ty with
 |st fs=>
  rw[PX] at Mm;split at Mm;next fields ht=>rw[zf] at hv;rw[ht] at hv;let⟨cs,e,_⟩:=hv;exact⟨cs,e⟩
  .cases Mm
 |_=>
  rw[PX] at Mm;split at Mm;next ht=>rw[zf] at hv;simp[Cell.okWide,ht,Cell.ok] at hv;cases v<;>first|rfl|exact hv.elim
  .cases Mm
def eE:∀{tys:List Ty} {ts:List TypeId} {vs:List Value} {ds:List (DataW H)} {ps:List MemPlace} {base:Nat},zd enc P W 0 (λ_=>zw) zw ts vs ds ps->zz tys=zz ts->(∀(i:Nat) (ty:Ty) (t:TypeId),tys[i]?=zx ty->ts[i]?=zx t->PX P ty t=zw)->
  (∀(i:Nat) (t:TypeId) (v:Value),ts[i]?=zx t->vs[i]?=zx v->zf P W .any base t v)->∃as,XC tys as/\Bp (GW W) as vs
 |[],[],[],[],_,_,_,_,_,_=>⟨[],rfl,rfl⟩
 |ty::tys,t::ts,v::vs,d::ds,ps,base,⟨p,q,⟨fuel,h1⟩,h2,_⟩,hl,Mm,Qw=>by
  have dI:=Mm 0 ty t rfl rfl;let⟨cells,f,b,k,l⟩:=iH ty dI h1;obtain⟨bs,j,g⟩:=eE h2 (zv hl) (λi ty t h h'=>Mm (i+1) ty t (zv h) (zv h')) (λi t v h h'=>Qw (i+1) t v (zv h) (zv h'));have hc:=iI dI (Qw 0 t v rfl rfl);have:∃a,xJ ty a/\BT (GW W) a v:=by
   by_cases Ia:ty.aES=zw;.rw[Af Ia] at hc;obtain⟨us,rfl⟩:=hc;exact⟨.agg cells,(by rw[xJ];rw[Af Ia];exact⟨cells,rfl,f⟩),us,rfl,by simpa[Value.cells] using b,by simpa[Value.cells] using k⟩
   .rw[Ac Ia] at hc;rw[hc] at b;obtain⟨u,us,e,hu,hnil⟩:∃c HJ,cells=c::HJ/\BT (GW W) c v/\HJ=[]:=by
     cases cells with
     |nil=>cases b
     |cons c HJ=>let⟨u,D4,e,h1,h2⟩:=b;simp at e;obtain⟨rfl,rfl⟩:=e;exact⟨c,HJ,rfl,h1,by cases HJ with|nil=>rfl|cons _ _=>let⟨_,_,e,_⟩:=h2;cases e⟩
    subst hnil;subst e;exact⟨u,(by rw[xJ];rwa[Ac Ia]),hu⟩
  let⟨a,ha,hr⟩:=this;exact⟨a::bs,⟨a,bs,rfl,ha,j⟩,⟨v,vs,rfl,hr,g⟩⟩
 |[],_::_,_,_,_,_,_,hl,_,_=>by simp at hl
 |_::_,[],_,_,_,_,_,hl,_,_=>by simp at hl
 |[],[],_::_,_,_,_,h,_,_,_=>by cases h
 |[],[],[],_::_,_,_,h,_,_,_=>by cases h
 |_::_,_::_,[],_,_,_,h,_,_,_=>by cases h
 |_::_,_::_,_::_,[],_,_,h,_,_,_=>by cases h
def Y2{W':World}{may:MemPlace->Prop}(h1:W'.os=W.os)(h2:W'.output=W.output)(hb:∀i,i<W.heap.size->W'.heap[i]?=W.heap[i]?):W.keptBut W' may:=by refine⟨h1,h2,λi hi=>?_⟩;grind
def Sb(hl:laidOutB P=zw){W':World}(hb:RowKit.Below W.heap.size W W'):∀{ts:List TypeId} {vs:List Value} {ds:List (DataW H)} {ps:List MemPlace},(∀t∈ts,P.readableRec t=zw/\t<P.types.size)->
  zd enc P W 0 (λ_=>zw) zw ts vs ds ps->(∀x∈ps,x.block<W.heap.size)->zd enc P W' 0 (λb=>decide (b<W.heap.size)) zw ts vs ds ps
 |[],[],[],ps,_,h,_=>h
 |t::ts,v::vs,d::ds,ps,gW,⟨p,q,h1,h2,e⟩,hlt=>by subst e;have ht:=gW t AH;exact⟨p,q,RowKit.Below.trod hl ht.1 ht.2 h1 hb λx hx=>hlt x (Dn _ hx),Sb hl hb (λt' h'=>gW t' (by simp[h'])) h2 λx hx=>hlt x (Cm _ hx),rfl⟩
 |[],[],_::_,_,_,h,_=>by cases h
 |[],_::_,_,_,_,h,_=>by cases h
 |_::_,[],_,_,_,h,_=>by cases h
 |_::_,_::_,[],_,_,h,_=>by cases h
end
def iJ{C:GN}(hm:C.P.follows .mixedOrders=zw)(zn:∀g cs,C.HO g=zx cs->cs.all Aa.Nv=zw)(n:iG C)(hl:laidOutB C.P=zw){f:FuncId}{fn:Func}{rt:TypeId}(l:f<=99999)(k:fn.resultTypes=#[rt])(m:C.P.underlying rt=zx .bool){tys:List Ty}(hlen:zz tys=fn.params.size)
  (aN5:∀(i:Nat) (ty:Ty) (t:TypeId),tys[i]?=zx ty->fn.params[i]?=zx t->PX C.P ty t=zw) (aIy:∀t∈fn.params.toList,C.P.readableRec t=zw/\t<C.P.types.size)
  (IJ:∀as,XC tys as->Ev C f as [] λr _=>r= zc zw) {s:ChangeSpec} (c:s.vars=[])
  {H:Type} (Ŗ:∀ds:List (DataW H),zz ds=fn.params.size->s.fn H ds={results:=[.lit (.bool zw)],args:=ds})
  {enc:TypeId×Value->H} {W:World} {base:Nat} {args:Array Value} {ds gs:List (DataW H)} {before:List MemPlace} (hg:∀g cs,C.HO g=zx cs->Df (GW W) cs g 0)
  (Qw:∀(j:Nat) (t:TypeId) (v:Value),fn.params[j]?=zx t->args[j]?=zx v->zf C.P W .any base t v) (hW:DataW.Whole enc C.P fn.params.toList s.vars zu W args.toList ds gs before):
  Calls C.P f args W λe W'=>∃v,e= .returned v/\s.post enc C.P fn zu zw zu zu W args v W':=by
 have u:=hW;have hlt:=hW.lt;obtain⟨p,q,z,y,rfl,hfz,ŏ⟩:=hW;rw[c] at y;have o:gs=[]/\q=[]:=by
  cases gs with
  |nil=>exact⟨rfl,y⟩
  |cons _ _=>cases y
 obtain⟨rfl,rfl⟩:=o;let⟨as,cD,PV⟩:=eE z (zv hlen) (λi ty t h h'=>aN5 i ty t h (zv h')) (λi t v h h'=>Qw i t v (zv h) (zv h'));have xF:zz ds=fn.params.size:=by
  have key:∀{ts:List TypeId} {vs:List Value} {ds:List (DataW H)} {ps:List MemPlace},zd enc C.P W 0 (λ_=>zw) zw ts vs ds ps->zz ds=zz ts:=by
   intro ts;induction ts with
   |nil=>intro vs ds ps h;cases vs<;>cases ds<;>first|rfl|cases h
   |cons t ts ih=>
    intro vs ds ps h;cases vs with
    |nil=>cases h
    |cons v vs=>
     cases ds with
     |nil=>cases h
     |cons d ds=>let⟨_,_,_,h2,_⟩:=h;simp[ih h2]
  exact zv (key z)
 have Xx:=(IJ as cD).calls hm zn n (zp W) hg PV;rw[show E0 f=f from Af l] at Xx;refine Xx.mono λe W' he=>?_;cases e with
 |returned v=>
  obtain⟨r,h',A,rfl,hi,KK,hv⟩:=he;have hvb:v= .bool zw:=hv;subst hvb;have hold:∀i,i<W.heap.size->W'.heap[i]?=W.heap[i]?:=λi ĸ=>(KK.OV i ĸ λid h0=>by cases h0).1;have b:RowKit.Below W.heap.size W W':=⟨KK.os,KK.tape,KK.output,KK.size,hold⟩;refine⟨_,rfl,ds,[],p++[],[],p,[],u,?_,?_,?_,Y2 KK.os KK.output hold,λh0=>by cases h0⟩;.rw[BB,Ŗ ds xF,k];exact⟨[],[],RowKit.shut_bool m zw,rfl,rfl⟩
  .rw[BB,Ŗ ds xF];exact Sb hl b aIy z λx hx=>hlt x (zv hx)
  .rw[BB,Ŗ ds xF,c];rfl
 |_=>exact he.elim
end Go.Am
end
