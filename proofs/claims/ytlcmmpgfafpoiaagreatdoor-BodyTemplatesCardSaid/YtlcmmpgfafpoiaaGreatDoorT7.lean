/- Lemmas -/
import Derived.Scope
import Derived.Test.YtlcmmpgfafpoiaaGreatDoorT6
import Derived.Carry
import Derived.ReadAgain
set_option linter.all false
section
namespace Go.Am
open Go
def Kpt(x y:Et):Prop:=
 match x with
 | .box ver cs ow=>∃Gt Ha N9,y= .box Gt Ha N9/\ver<=Gt/\(Gt=ver->Ha=cs/\N9=ow)
 | .Fl t o=>y= .Fl t o\/y= .undef
 |x=>y=x
def Kpt.refl(x:Et):Kpt x x:=by
 cases x with
 |box ver cs ow=>exact⟨ver,cs,ow,rfl,Ag _,λ_=>⟨rfl,rfl⟩⟩
 |Fl t o=>exact .inl rfl
 |_=>rfl
def Kpt.trans{x y z:Et}(h:Kpt x y)(k:Kpt y z):Kpt x z:=by
 cases x with
 |box ver cs ow=>obtain⟨b,m,l,rfl,h1,h2⟩:=h;obtain⟨v2,j,c,rfl,f,d⟩:=k;refine⟨v2,j,c,rfl,Br h1 f,λe=>?_⟩;have i:b=ver:=Ab;have g:v2=b:=Ab;obtain⟨rfl,rfl⟩:=d g;exact h2 i
 |Fl t o=>
  rcases h with rfl|rfl
  .exact k
  .exact .inr k
 |_=>rw[show y=_ from h] at k;exact k
def Gj(W:List Nat)(σ O:BV):Prop:=O.length=σ.length/\∀s,s∉W->Kpt (σ.at s) (O.at s)
def Gj.refl(W:List Nat)(σ:BV):Gj W σ σ:=⟨rfl,λ_ _=> .refl _⟩
def Gj.trans{W:List Nat}{σ O J:BV}(h:Gj W σ O)(k:Gj W O J):Gj W σ J:=⟨k.1.trans h.1,λs hs=>(h.2 s hs).trans (k.2 s hs)⟩
def Gj.mono{W W':List Nat}{σ O:BV}(h:Gj W σ O)(hw:∀s∈W,s∈W'):Gj W' σ O:=⟨h.1,λs hs=>h.2 s λhm=>hs (hw s hm)⟩
def Gj.set{W:List Nat}{σ:BV}{s:Nat}{x:Et}(hs:s∈W):Gj W σ (σ.set s x):=
 ⟨AH,λt ht=>by rw[BV.Gi λe=>ht (by rw[<-e];exact hs)];exact .refl _⟩
def Gj.put{W:List Nat}{σ:BV}{d:Option Nat}{x:Et}(hs:∀s∈d.toList,s∈W):Gj W σ (σ.put d x):=by
 cases d with
 |none=>exact .refl _ _
 |some d=>exact .set (hs d AH)
section
variable{C:F8}{fid:FuncId}{ops:List Oper}{run:IT->Ah->Option Ke}{σ σ':BV}{h h':Ah}{W:List Nat}
def Gj.drop(σ:BV)(ds:List Nat):Gj W σ (σ.drop ds):=by
 refine⟨BV.length_drop σ ds,λs _=>?_⟩;rw[BV.Sj];cases hx:σ.at s with
 |Fl t o=>
  simp only
  split;.exact .inr rfl
  .exact .inl rfl
 |_=>exact .refl _
def rY{r:EN}{ds:List Nat}(hd:r.NB C run (σ.drop ds) h σ' h')(hw:∀s∈r.wf,s∈W):Gj W σ σ':=by obtain⟨ws,rfl,h1,_⟩:=aJ hd;refine(Gj.drop σ ds).trans ⟨BV.J4 ws _,λs hs=>?_⟩;rw[BV.GS ws _ s λp hp e=>hs (hw s (by rw[<-e];exact h1 p hp))];exact .refl _
def Qn{x:Operand}{d:Nat}{take:Bool}{r:EN}(h:KS C σ x d take=some r):∀s∈r.wf,s=d\/(take=true/\x= .tmp s):=by
 unfold KS at h;split at h;.cases h;simp[EN.wf]
 .cases h;simp[EN.wf]
 .split at h
  .rename_i ht;cases h;intro s hs;simp only[EN.wf,BE,Ax] at hs;rcases hs with hs|hs
   .revert hs;generalize b:R4 _ _=c;intro hs;unfold R4 at b;split at b;.subst b;simp at hs;exact .inr ⟨ht,by rw[hs]⟩
    .subst b;simp at hs
   .exact .inl (by simpa using hs)
  .cases hc:Iz _ with
   |none=>rw[hc] at h;cases h
   |some sl=>rw[hc] at h;cases h;simp[EN.wf]
 .cases hc:Iz _ with
  |none=>rw[hc] at h;cases h
  |some sl=>rw[hc] at h;cases h;simp[EN.wf]
 .cases h
def Su{x:Operand}{p:Nat×Aa}(h:Dq σ x=some p):x= .tmp p.1:=by
 cases x with
 |tmp t=>
  simp only[Dq] at h;cases hx:σ.at t with
  |Bt v=>rw[hx] at h;cases h;rfl
  |_=>rw[hx] at h;cases h
 |_=>cases h
def mW{t:TypeId}{v:Aa}{d:Nat}{r:EN}(h:Ut C fid t v d=some r):r.wf=[d]:=by
 unfold Ut at h;split at h;.cases h
 .split at h;.cases h
  .split at h<;>(cases h;rfl)
def Nl:∀{xs:List Operand} {vs:List Aa} {fz:List (Nat×List Aa)},Gr C σ xs=some (vs,fz)->∀p∈fz,p.1∈Kk xs
 |[],vs,fz,hc=>by cases hc;simp
 |x::xs,vs,fz,hc=>by
  unfold Gr at hc;split at hc;.cases hc
  .rename_i HS c b;have ih:=Nl b;have up:∀p∈c,p.1∈Kk (x::xs):=λp hp=>by obtain⟨y,hy,he⟩:=Ch.1 (ih p hp);exact Ch.2 ⟨y,Ze _ hy,he⟩
   split at hc
   .rename_i s ver cs ow hs;split at hc;.cases hc
    .cases hc;intro p hp;rcases AX.1 hp with rfl|hp
     .simp[Kk]
     .exact up p hp
   .rename_i sl _ hs;cases hv:sl.Hr with
    |none=>rw[hv] at hc;cases hc
    |some u=>rw[hv] at hc;cases hc;exact up
   .cases hc
def xF{o:Oper}{r:EN}(hc:Gs C fid ops σ o=some r)(hd:r.NB C run (σ.drop r.news) h σ' h'):Gj (Ew ops o) σ σ':=by
 have Ss:∀s∈o.dst.toList,s∈Ew ops o:=λs hs=>CA _ hs
 have hwf:(∀s∈r.wf,s∈Ew ops o)->Gj (Ew ops o) σ σ':=rY hd
 have Zk:r.wf=o.dst.toList->Gj (Ew ops o) σ σ':=λe=>hwf (by rw[e];exact Ss)
 have UG:∀{m x},TB m o.dst x=some r->Gj (Ew ops o) σ σ':=λ{m x} he=>by
  obtain⟨_,_,rfl⟩:=Hu he
  exact Zk rfl
 have HH:∀{p x},TA p o.dst x=some r->Gj (Ew ops o) σ σ':=λ{p x} he=>by
  obtain⟨args,_,rfl⟩:=D5 he
  exact Zk (by simp[EN.wf])
 unfold Gs at hc
 split at hc
 .rename_i x ho
  split at hc
  .rename_i d Ge
   refine hwf λs hs=>?_
   rcases Qn hc s hs with rfl|⟨ht,rfl⟩
   .exact Ss s (by rw[Ge];simp)
   .refine BW _ ?_
    simp[ho,Ge,ht]
  .cases hc
 .rename_i x ho
  split at hc
  .rename_i d Ge
   refine hwf λs hs=>?_
   rcases Qn hc s hs with rfl|⟨ht,rfl⟩
   .exact Ss s (by rw[Ge];simp)
   .refine BW _ ?_
    simp[ho]
  .cases hc
 .rename_i c x y ho
  split at hc
  .rename_i d _ Ge
   refine hwf λs hs=>?_
   rcases Qn hc s hs with rfl|⟨ht,rfl⟩
   .exact Ss s (by rw[Ge];simp)
   .cases ht
  .rename_i d _ Ge
   refine hwf λs hs=>?_
   rcases Qn hc s hs with rfl|⟨ht,rfl⟩
   .exact Ss s (by rw[Ge];simp)
   .cases ht
  .exact HH hc
 .split at hc
  .rename_i d z Ge hz
   split at hc
   .split at hc
    .cases hc;exact Zk (by rw[Ge];rfl)
    .cases hc
   .exact Zk (by rw[mW hc,Ge];rfl)
  .cases hc
 .split at hc
  .rename_i d v Ge hz
   exact Zk (by rw[mW hc,Ge];rfl)
  .cases hc
 .split at hc
  .split at hc
   .exact HH hc
   .cases hc
  .cases hc
 .split at hc
  .split at hc
   .split at hc
    .split at hc
     .cases hc;exact Zk (by simp[EN.wf])
     .cases ha:BC C σ _ with
      |none=>rw[ha] at hc;cases hc
      |some args=>rw[ha] at hc;cases hc;exact Zk (by simp[EN.wf])
    .cases hc
   .cases hc
  .cases hc
 .split at hc
  .rename_i d Ge
   unfold LL at hc
   split at hc
   .cases hc;exact Zk (by rw[Ge];rfl)
   .rename_i s off ver cs ow ht ha
    split at hc
    .simp only at hc
     split at hc
     .cases hc
      rw[Oi AH] at hd
      obtain⟨rfl,rfl⟩:=hd
      have hs:σ.at s= .box ver cs ow:=by
       unfold Gq at ha
       split at ha
       .rename_i hs;cases ha;exact He hs
       .split at ha
        .rename_i hb;cases ha;exact hb
        .cases ha
       .exact absurd ha (by cases hv:Et.Hr _<;>simp)
       .cases ha
      refine⟨by simp[BV.drop,BV.Em],λt b=>?_⟩
      have f:t≠d:=λe=>b (Ss t (by rw[Ge,e];simp))
      have qh:s<σ.length:=BV.Ps (by rw[hs];simp)
      show Kpt (σ.at t) (BV.at ((σ.set s _).set d _) t)
      rw[BV.Gi (λe=>f e.symm)]
      by_cases cW:s=t
      .subst cW
       rw[BV.Fy qh,hs]
       exact⟨_,_,_,rfl,Fj _,λe=>absurd e Ab⟩
      .rw[BV.Gi cW];exact .refl _
     .cases hc;exact Zk (by rw[Ge];rfl)
    .cases hc
   .split at hc
    .cases hc;exact Zk (by rw[Ge];rfl)
    .cases hc
   .cases hc
  .cases hc
 .rename_i t x y ho
  split at hc
  .rename_i Ge
   unfold JF at hc
   split at hc
   .cases hc;exact hwf (by simp[EN.wf])
   .rename_i m sh s off ver cs ow v Lb qE ha hv
    split at hc
    .cases hc
     obtain⟨_,rfl,rfl⟩:=hd
     have hs:σ.at s= .box ver cs ow:=by
      unfold Gq at ha
      split at ha
      .rename_i hs;cases ha;exact He hs
      .split at ha
       .rename_i hb;cases ha;exact hb
       .cases ha
      .exact absurd ha (by cases hv:Et.Hr _<;>simp)
      .cases ha
     have Zz:∀(D:Option (Nat×Aa)),(∀p,D=some p->p.1∈Ew ops o/\p.1≠s)->∀X:List Aa×List Nat,Gj (Ew ops o) σ ((σ.DS D).set s (.box (ver+1) X.1 X.2)):=by
      intro D i X
      refine⟨by cases D<;>simp[BV.DS],λt b=>?_⟩
      have hlen:s<(σ.DS D).length:=by
       have:s<σ.length:=BV.Ps (by rw[hs];simp)
       cases D<;>simpa[BV.DS] using this
      by_cases cW:s=t
      .subst cW
       rw[BV.Fy hlen,hs]
       exact⟨_,_,_,rfl,Fj _,λe=>absurd e Ab⟩
      .rw[BV.Gi cW]
       cases D with
       |none=>exact .refl _
       |some p=>
        obtain⟨g,j⟩:=i p rfl
        simp only[BV.DS]
        rw[BV.Gi (λe=>b (by rw[<-e];exact g))]
        exact .refl _
     refine Zz _ (λp hp=>?_) (_,_)
     split at hp
     .have hy:=Su hp
      subst hy
      refine⟨BW _ (by simp[ho]),λe=>?_⟩
      simp only[Dq] at hp
      rw[e,hs] at hp
      cases hp
     .cases hp
    .cases hc
   .cases hc
  .cases hc
 .split at hc
  .rename_i Ge _ _
   cases hc;exact Zk (by rw[Ge];rfl)
  .rename_i Ge _ _
   cases hc;exact Zk (by rw[Ge];rfl)
  .exact HH hc
 .split at hc
  .exact HH hc
  .cases hc
 .exact HH hc
 .split at hc
  .cases hv:E8 C σ _ with
   |none=>rw[hv] at hc;cases hc
   |some v=>rw[hv] at hc;cases hc;exact Zk rfl
  .split at hc
   .cases hv:E8 C σ _ with
    |none=>rw[hv] at hc;cases hc
    |some v=>rw[hv] at hc;cases hc;exact Zk rfl
   .exact HH hc
  .exact HH hc
  .cases hc
 .rename_i fn first captured ho
  split at hc
  .rename_i d as bs fz Ge ha hb
   cases hc
   refine hwf λs hs=>?_
   simp only[EN.wf,AX] at hs
   rcases hs with rfl|hs
   .exact Ss s (by rw[Ge];simp)
   .obtain⟨p,hp,rfl⟩:=Bm.1 hs
    refine BW _ ?_
    simp only[ho]
    exact Nl hb p hp
  .cases hc
 .cases hc;exact Zk rfl
 .split at hc
  .split at hc
   .cases hc;exact Zk rfl
   .cases hc
  .cases hc
 .split at hc
  .split at hc
   .cases hc;exact hwf (by simp[EN.wf])
   .cases hc;exact hwf (by simp[EN.wf])
   .cases hc
  .cases hc
 .split at hc
  .split at hc
   .cases hc;exact hwf (by simp[EN.wf])
   .cases hc;exact hwf (by simp[EN.wf])
   .cases hc
  .cases hc
 .split at hc
  .split at hc
   .cases hc;exact Zk rfl
   .cases hc;exact Zk rfl
   .cases hc
  .cases hc
 .split at hc
  .split at hc
   .exact UG hc
   .cases hc
  .cases hc
 .split at hc
  .cases hc
  .exact UG hc
  .cases hc
 .split at hc
  .split at hc<;>first|exact UG hc|cases hc
  .cases hc
 .split at hc
  .rename_i Ge
   exact UG (by rw[Ge];exact hc)
  .cases hc
 .split at hc
  .exact HH hc
  .split at hc
   .split at hc
    .exact UG hc
    .exact HH hc
   .cases hc
  .cases hc
 .split at hc
  .rename_i off sh d hf Ge
   split at hc
   .cases hc;exact Zk (by rw[Ge];rfl)
   .cases hc;exact Zk (by rw[Ge];rfl)
   .exact HH (by rw[Ge];exact hc)
  .cases hc
 .split at hc
  .exact HH hc
  .cases hc
 .split at hc
  .split at hc
   .exact HH hc
   .cases hc
  .split at hc
   .split at hc
    .cases hc
    .exact HH hc
   .cases hc
  .cases hc
 .split at hc
  .exact HH hc
  .split at hc
   .exact HH hc
   .cases hc
  .cases hc
 .exact HH hc
 .rename_i c ho
  unfold Ri at hc
  split at hc
  .split at hc
   .split at hc
    .exact HH hc
    .exact HH hc
    .cases hc
   .cases hc
  .rename_i hcl
   split at hc
   .rename_i t t' s x h0 h1 ER
    have Zz:∀p,Dq σ s=some p->p.1∈Ew ops o:=λp hp=>by
     have:=Su hp
     subst this
     refine BW _ ?_
     simp only[ho,hcl,ER]
     simp[Kk]
    split at hc
    all_goals first
     |(cases hc;done)
     | (split at hc
        . split at hc
          . split at hc
            . split at hc
              . split at hc
                . cases hc
                  refine hwf fun q hq => ?_
                  simp only [EN.wf, Ax] at hq
                  rcases hq with hq | hq
                  . exact Ss q hq
                  . cases rZ : Dq σ s with
                    | none => rw [rZ] at hq; simp at hq
                    | some p => rw [rZ] at hq; simp at hq; rw [hq]; exact Zz p rZ
                . split at hc
                  . cases hc
                    refine hwf fun q hq => ?_
                    simp only [EN.wf, Ax] at hq
                    rcases hq with hq | hq
                    . exact Ss q hq
                    . cases rZ : Dq σ s with
                      | none => rw [rZ] at hq; simp at hq
                      | some p => rw [rZ] at hq; simp at hq; rw [hq]; exact Zz p rZ
                  . cases hc
                    refine hwf fun q hq => ?_
                    simp only [EN.wf, Ax] at hq
                    rcases hq with hq | hq
                    . exact Ss q hq
                    . cases rZ : Dq σ s with
                      | none => rw [rZ] at hq; simp at hq
                      | some p => rw [rZ] at hq; simp at hq; rw [hq]; exact Zz p rZ
              . split at hc
                . cases hc
                  refine hwf fun q hq => Ss q (by simpa [EN.wf] using hq)
                . cases hc
            . cases hc
          . cases hc
        . cases hc)
   .cases hc
  .split at hc
   .split at hc
    all_goals first
     |(cases hc;done)
     | (split at hc
        . exact UG hc
        . cases hc)
   .cases hc
  .split at hc
   .split at hc
    .split at hc
     .exact UG hc
     .cases hc
    .cases hc
   .cases hc
  .split at hc
   .exact HH hc
   .cases hc
  .split at hc
   .exact HH hc
   .cases hc
  .split at hc
   .split at hc
    .split at hc
     .exact UG hc
     .cases hc
    .cases hc
   split at hc
   .cases ha:BC C σ c.args.toList with
    |none=>rw[ha] at hc;cases hc
    |some args=>
     rw[ha] at hc
     simp only[B5,BD] at hc
     split at hc<;>(cases hc;exact Zk rfl)
   .cases hc
  .split at hc
   .cases hc;exact Zk rfl
   .cases hc
  .cases hc
 .cases hc
end
end Go.Am
end
section
namespace Go.Am
open Go
def sn:DX->Exit
 | .normal=> .normal
 | .exit i=> .exit i
 | .ret=> .ret
def Ow:∀{l m:List Nat},l.Nodup->(∀x∈l,x∈m)->l.length<=m.length
 |[],_,_,_=>AZ _
 |x::l,m,hn,hs=>by have hx:=hs x AH;have h1:=Ow (l:=l) (m:=m.erase x) (B6.1 hn).2 λy hy=>(List.mem_erase_of_ne λe=>(B6.1 hn).1 (by rw[<-e];exact hy)).2 (hs y (by simp[hy]));rw[List.length_erase_of_mem hx] at h1;have:0<m.length:=List.length_pos_of_mem hx;simp;omega
def dI{P:Program}{c:Code}{Q:Exit->Act->World->Prop}(T:Nat->Act->World->Prop)(round:∀n a w,T n a w->c.wp P (Exit.then (λa' w'=>∃m,m<n/\T m a' w') Q) a w)(n:Nat)(a:Act)(w:World)(h0:T n a w):(Code.loop c).wp P Q a w:=by
 intro b k cs;have key:∀n a w,T n a w->∃e a' w',Q e a' w'/\Arrives P (lone (b.at a (.code c:: .inLoop c::k)) cs w) b k cs e a' w':=by
  intro n;induction n using Nat.strongRecOn with
  |_ n ih=>
   intro a w i;obtain⟨e,a1,w1,hq,Ñ⟩:=round n a w i b (.inLoop c::k) cs;by_cases he:e= .normal;.subst he;obtain⟨m,hm,d⟩:=hq;obtain⟨j,a2,f,g,r2⟩:=ih m hm a1 w1 d;exact⟨j,a2,f,g,.of_steps (Go.Steps.trans Ñ (.one step_inLoop)) r2⟩
   .exact⟨e,a1,w1,by cases e<;>first|exact hq|exact absurd rfl he,.pass (x:= .inLoop c) rfl (λ_ _=> .inl he) Ñ⟩
 obtain⟨e,a',w',hq,Ñ⟩:=key n a w h0;exact⟨e,a',w',hq,.of_steps (.one step_loop) Ñ⟩
section
variable{C:F8}{U0 U:Gh}{w0 w:World}{Z:Nat->Nat}{σ:BV}{h:Ah}{a:Act}{fid:FuncId}{run:IT->Ah->Option Ke}
def dJ{ops:List Oper}{o:Oper}{K:BV->IT}{R:Ke}(hr:IT.step (B9 C) run (TC C fid ops σ o K) h=some R):
  ∃d,(d=σ\/∃s b,s∈FF ops o/\σ.at s= .val (.bool b)/\d=σ.set s (.O5 b))/\
   ((IW ops d o= .Ny true/\IT.step (B9 C) run (ot C fid ops d o K) h=some R)\/(IW ops d o= .Ny false/\IT.step (B9 C) run (K (d.put o.dst .skip)) h=some R)):=by
 unfold TC at hr;split at hr;.rename_i hg;exact⟨σ,.inl rfl,.inl ⟨hg,hr⟩⟩
 .rename_i hg;exact⟨σ,.inl rfl,.inr ⟨hg,hr⟩⟩
 .rename_i s v want hg;have e:s∈FF ops o/\σ.at s= .val v/\∀b,IW ops (σ.set s (.O5 b)) o= .Ny (b==want):=by
   unfold IW at hg⊢;unfold FF;cases ho:o.guard with
   |none=>rw[ho] at hg;cases hg
   |some g=>
    obtain⟨j,want'⟩:=g;rw[ho] at hg;simp only at hg⊢;cases hd:(ops[j]?).bind (·.dst) with
    |none=>rw[hd] at hg;cases hg
    |some s'=>
     rw[hd] at hg;simp only at hg⊢;cases hx:σ.at s' with
     |val v'=>rw[hx] at hg;cases hg;refine⟨AH,hx,λb=>?_⟩;rw[BV.Fy (BV.Ps (by rw[hx];simp))]
     |O5 c=>rw[hx] at hg;cases hg
     |skip=>rw[hx] at hg;cases hg
     |_=>rw[hx] at hg;cases hg
  obtain⟨g1,g2,g3⟩:=e;simp only[IT.step] at hr;split at hr
  .refine⟨σ.set s (.O5 true),.inr ⟨s,true,g1,g2,rfl⟩,?_⟩;rw[g3];cases want with
   |true=>exact .inl ⟨rfl,hr⟩
   |false=>exact .inr ⟨rfl,hr⟩
  .refine⟨σ.set s (.O5 false),.inr ⟨s,false,g1,g2,rfl⟩,?_⟩;rw[g3];cases want with
   |true=>exact .inr ⟨rfl,hr⟩
   |false=>exact .inl ⟨rfl,hr⟩
  .cases hr
 .cases hr
def gz(a:Act){ops:List Oper}{o:Oper}:(∀p∈R6 C σ o,∃ver ow,σ.at p.1= .box ver p.2 ow)/\((R6 C σ o).map (·.1)).Nodup/\∀p∈R6 C σ o,p.1∈Ew ops o:=by
 have no:∀l:List (Nat×List Aa),l=[]->(∀p∈l,∃ver ow,σ.at p.1= .box ver p.2 ow)/\(l.map (·.1)).Nodup/\∀p∈l,p.1∈Ew ops o:=by rintro l rfl;exact⟨(λp hp=>nomatch hp),MK,λp hp=>nomatch hp⟩
 cases ho:o.op with
 |call c=>
  cases hc:c.callee with
  |value g=>
   cases g with
   |func f=>
    cases hf:TD f with
    |true=>
     cases hx:Gr C σ c.args.toList with
     |some q=>
      obtain⟨vs,fz⟩:=q;have e:R6 C σ o=fz:=by unfold R6;simp only[ho,hc,hf,hx,BI]
      rw[e];obtain⟨h1,h2,_⟩:=Nk (a:=a) hx;refine⟨h1,h2,λp hp=>BW _ ?_⟩;simp only[ho,hc,hf,BI];exact Nl hx p hp
     |none=>exact no _ (by unfold R6;simp only[ho,hc,hf,hx,BI])
    |false=>exact no _ (by unfold R6;simp[ho,hc,hf])
   |_=>exact no _ (by unfold R6;simp only[ho,hc])
  |_=>exact no _ (by unfold R6;simp only[ho,hc])
 |_=>exact no _ (by unfold R6;simp only[ho])
def Gj.Em{W:List Nat}:∀{l:List (Nat×Et)} {σ:BV},(∀p∈l,p.1∈W)->Gj W σ (σ.Em l)
 |[],σ,_=> .refl _ _
 |(s,x)::l,σ,h=>(Gj.set (h (s,x) AH)).trans (Gj.Em λp hp=>h p (by simp[hp]))
def so{ops:List Oper}{o:Oper}{W:List Nat}(hr:De C U0 w0 U Z σ h a w)(hw:∀s∈Ew ops o,s∈W):∃b,De C U0 w0 b Z (aBN C σ o) h a w/\Gj W σ (aBN C σ o):=by
 obtain⟨h1,h2,c⟩:=gz (C:=C) (σ:=σ) a (ops:=ops) (o:=o);obtain⟨b,_,F9,_⟩:=(hr.drop ((R6 C σ o).map (·.1))).TJ (fz:=R6 C σ o) (λp hp=>by obtain⟨ver,ow,hs⟩:=h1 p hp;exact⟨ver,ow,by rw[BV.Sj,hs]⟩) h2
 refine⟨b,F9,(Gj.drop σ _).trans (Gj.Em λp hp=>?_)⟩;obtain⟨q,hq,rfl⟩:=Bm.1 hp;exact hw _ (c q hq)
def xG(m:Fh C run){ops:Array Oper}{Q:Exit->Act->World->Prop}{W:List Nat}{K:BV->IT}{R:Ke}:∀(rest:List Oper) (k:Nat) (U:Gh) (Z:Nat->Nat) (σ:BV) (h:Ah) (a:Act) (w:World),
  ops.toList.drop k=rest->(∀o∈rest,(∀s∈Ew ops.toList o,s∈W)/\∀s∈FF ops.toList o,s∈W)->IT.step (B9 C) run (wJ C fid ops.toList rest σ K) h=some R->De C U0 w0 U Z σ h a w->
  (∀g f σ' h' a' w',IT.step (B9 C) run (K σ') h'=some R->Gj W σ σ'->De C U0 w0 g f σ' h' a' w'->Q .normal a' w')->wpOps C.P ops Q (List.range' k rest.length) a w
 |[],k,U,Z,σ,h,a,w,_,_,A4,hr,hQ=>by simp only[BT,List.range'_zero,wpOps];exact hQ U Z σ h a w A4 (.refl _ _) hr
 |o::rest,k,U,Z,σ,h,a,w,hk,hW,A4,hr,hQ=>by
  have ho:ops[k]?=some o:=by
   have:ops.toList[k]?=some o:=by have h0:=Ca (·[0]?) hk;simpa[Cr] using h0
   simpa using this
  have l:ops.toList.drop (k+1)=rest:=by have h0:=Ca (List.drop 1) hk;simpa[El] using h0
  obtain⟨sB,r_⟩:=hW o AH;simp only[Bf,List.range'_succ,wpOps,ho];obtain⟨U1,e,c⟩:=so hr sB;obtain⟨i,j,Je⟩:=dJ A4;have KC:De C U0 w0 U1 Z i h a w/\Gj W σ i:=by
   rcases j with rfl|⟨s,b,g1,g2,rfl⟩
   .exact⟨e,c⟩
   .have h0:=e.fr.Ip s;rw[g2] at h0;exact⟨e.lV h0,c.trans (.set (r_ s g1))⟩
  obtain⟨KC,aFE⟩:=KC;have next:∀g f σ' h' a' w',IT.step (B9 C) run (wJ C fid ops.toList rest σ' K) h'=some R->Gj W σ σ'->De C U0 w0 g f σ' h' a' w'->wpOps C.P ops Q (List.range' (k+1) rest.length) a' w':=λg f σ' h' a' w' QY f_ F9=>xG m rest (k+1) g f σ' h' a' w' l (λo ho=>hW o (by simp[ho])) QY F9 λq p d h2 a2 n L0 aKW aFF=>hQ q p d h2 a2 n L0 (f_.trans aKW) aFF
  rcases Je with⟨hg,Jf⟩|⟨hg,Jf⟩
  .rw[Af (L3 KC hg)];unfold ot at Jf;split at Jf;.rename_i r hc;obtain⟨d,h2,hd,UH⟩:=Z5 Jf;exact .inl (rq m hc hd KC λg f a' w' F9=>next g f d h2 a' w' UH (aFE.trans ((xF hc hd).mono sB)) F9)
   .cases Jf
  .rw[Ad (by rw[L3 KC hg];simp)];exact next U1 Z _ h _ w Jf (aFE.trans (.put λs hs=>sB s (CA _ hs))) (KC.put λ_ _=>rfl)
def sC{W:List Nat}{d:Option Nat}{σ σ':BV}(h:M1 d σ σ')(hd:∀s∈d.toList,s∈W):Gj W σ σ':=by
 unfold M1 at h;cases d with
 |none=>simp only at h;rw[h];exact .refl _ _
 |some d=>
  simp only at h;split at h;.obtain⟨b,_,rfl⟩:=h;exact .set (hd d AH)
  .rw[h];exact .refl _ _
def sD{ops:List Oper}{an:List Nat}{W:List Nat}(hW:∀o∈ops,∀s∈Ew ops o,s∈W){fl:List KL}{L:List St}{σ σf:BV}{h hf:Ah}(hs:Steps C fid ops run an fl L σ h σf hf):Gj W σ σf:=by
 induction hs with
 |nil=>exact .refl _ _
 |cons h1 _ _ ih=>
  refine Gj.trans ?_ ih;obtain⟨o,ho,⟨_,_,_,rfl,rfl⟩|⟨r,b,hg,hc,_,hd,_,ha⟩⟩:=h1;.exact .put λs hs=>hW o (Cz ho) s (CA _ hs)
  .refine((xF hc hd).mono λs hs=>hW o (Cz ho) s hs).trans (sC ha λs hs=>?_);split at hs;.exact hW o (Cz ho) s (CA _ hs)
   .simp at hs
def XC(hm:C.P.follows .mixedOrders=true)(f:Fh C run){id:Nat}{ops:Array Oper}{draw:Bool}{Q:Exit->Act->World->Prop}{K:BV->IT}{R:Ke}(A4:IT.step (B9 C) run (Sb C fid ops.toList draw σ K) h=some R)(hr:De C U0 w0 U Z σ h a w)
  (hQ:∀d c σ' h' a' w',IT.step (B9 C) run (K σ') h'=some R->Gj (ops.toList.flatMap (Ew ops.toList)++ops.toList.flatMap (FF ops.toList)) σ σ'->De C U0 w0 d c σ' h' a' w'->Q .normal a' w'):(Code.region id ops draw).wp C.P Q a w:=by
 unfold Sb at A4;cases draw with
 |false=>refine wp_region ?_;have:=xG (W:=ops.toList.flatMap (Ew ops.toList)++ops.toList.flatMap (FF ops.toList)) f ops.toList 0 U Z σ h a w rfl (λo ho=>⟨λs hs=>CA _ (wA.2 ⟨o,ho,hs⟩),λs hs=>BW _ (wA.2 ⟨o,ho,hs⟩)⟩) A4 hr hQ;simpa[aJv] using this
 |true=>
  simp only[BI] at A4;split at A4
  .rename_i Ge;obtain⟨L,σf,hf,h1,h2,l⟩:=Rs A4;refine wp_region_any hm ?_;have b:=h2;unfold W9 at b;simp only[Tp,BU,Bv] at b;have aFG:xE (W0 ops.toList) L:=by have:=aM b.1;rw[aPD] at this;exact this
   have hlt:=h1.lt;have cR:∀i,i<ops.size->i∈L.map (·.idx):=λi hi=>by have:=C9.1 b.2 i (by simpa using hi);simpa using this
   have K_:(L.map (·.idx)).Nodup:=by rw[List.Nodup,aPD];exact aFG.imp λh=>h.1
   have hlen:L.length=ops.size:=by
    have k:(L.map (·.idx)).length<=(List.range ops.size).length:=Ow K_ (λi hi=>by obtain⟨s,hs,rfl⟩:=Bm.1 hi;simpa using hlt s hs)
    have g:(List.range ops.size).length<=(L.map (·.idx)).length:=Ow List.nodup_range λi hi=>cR i (by simpa using hi);simp at k g;omega
   have f_:=sD (W:=ops.toList.flatMap (Ew ops.toList)++ops.toList.flatMap (FF ops.toList)) (λo ho s hs=>CA _ (wA.2 ⟨o,ho,hs⟩)) h1;refine gy f Ge (λd c a' w' F9=>hQ d c σf hf a' w' l f_ F9) ops.size L _ U Z σ h a w.drew hlen h1 aFG ⟨AH,λi hi=>⟨λ_=>cR i hi,λ_=>by simp[Array.getD,hi]⟩,λj hj e _=>?_⟩ hr.drew;exfalso;rcases AQ j ops.size with hlt|Ei
   .simp[Array.getD,hlt] at hj
   .simp[Array.getD,Nat.not_lt.2 Ei] at hj
  .cases A4
end
end Go.Am
end
section
namespace Go.Am
open Go
def Qo(x y:Et):Prop:=
 (∃u,x.Hr=some u/\y= .val u)\/(∃v,x= .Bt v/\y= .Bt v)\/∃ver cs ow Gt N9,x= .box ver cs ow/\y= .box Gt cs N9/\∀o∈N9,o∈ow
def BV.IB:∀(ws:List Nat) (σ:BV) (s:Nat),(σ.clear ws).at s=if s∈ws then .undef else σ.at s
 |[],σ,s=>by simp[BV.clear]
 |t::ws,σ,s=>by
  rw[BV.clear,BV.IB ws];by_cases h:s∈ws;.simp[h]
  .by_cases h2:s=t
   .subst h2;rw[BV.Xy];by_cases hl:s<σ.length;.simp[hl]
    .have:σ.at s= .undef:=by simp[BV.at,List.getD,hl]
     simp[h,hl,this]
   .rw[BV.Gi λe=>h2 e.symm];simp[h,h2]
def BV.Ko:∀(ws:List Nat) (σ:BV),(σ.clear ws).length=σ.length
 |[],σ=>rfl
 |t::ws,σ=>by rw[BV.clear,BV.Ko ws];simp
section
variable{C:F8}{U0 U:Gh}{w0 w:World}{Z:Nat->Nat}{σ:BV}{h:Ah}{a:Act}{fid:FuncId}{run:IT->Ah->Option Ke}
def Qo.rel{B s:Nat}{x y:Et}{v:Value}(hx:LM U Z B w s x v)(hf:Qo x y):LM U Z B w s y v:=by
 rcases hf with⟨u,hu,rfl⟩|⟨u,rfl,rfl⟩|⟨ver,cs,ow,Gt,N9,rfl,rfl,O9⟩
 .exact NC hx hu
 .exact hx
 .obtain⟨j,i,g,us,e,f,d,c,b⟩:=hx;exact⟨j,i,g,us,e,f,d,c,λo ho=>b o (O9 o ho)⟩
def UI{σs:BV}{G:BV->IT}{R:Ke}{vs:List Aa}:∀{l:List (Nat×Sh)} {i:Nat} {σa:BV},Xa σs l=some (vs.drop i)->σa.length=σs.length->IT.step (B9 C) run (JM vs l i σa G) h=some R->
  ∃b,IT.step (B9 C) run (G b) h=some R/\b.length=σa.length/\(∀s,s∉l.map (·.1)->b.at s=σa.at s)/\(∀s,s∈l.map (·.1)->Qo (σs.at s) (b.at s)/\
   ((∃Gt Ha N9,b.at s= .box Gt Ha N9/\Z0 (σa.at s)<Gt)\/∀ver cs ow,σs.at s≠ .box ver cs ow))
 |[],i,σa,_,_,hr=>⟨σa,hr,rfl,λ_ _=>rfl,AH⟩
 |(s,sh)::l,i,σa,hv,hl,hr=>by
  have hd:∃v HS,vs.drop i=v::HS/\vs.drop (i+1)=HS/\vs.getD i .nilIface=v/\Xa σs l=some HS/\
    (match(generalizing:=false) sh,σs.at s with| .val,x=>x.Hr| .Bt,.Bt v=>some v| .box n ow,.box _ cs N9=>if cs.length=n/\ow.all (N9.contains ·) then some (.agg cs) else none|_,_=>none)=some v:=by
   unfold Xa at hv;simp only at hv;split at hv
   .rename_i v HS h1 h2;simp only[BD] at hv;refine⟨v,HS,hv.symm,?_,?_,h2,h1⟩;.have:=Ca (List.drop 1) hv;simpa[El] using this.symm
    .have:=Ca (·[0]?) hv;simp only[IP,Cr,Bu] at this;simp[List.getD,<-this]
   .cases hv
  obtain⟨v,HS,r,aKX,dB,Sk,Sv⟩:=hd;have hlt:s<σa.length:=by rw[hl];refine BV.Ps λe=>?_;rw[e] at Sv;cases sh<;>simp[Et.Hr] at Sv
  have go:∀(y:Et),Qo (σs.at s) y->((∃Gt Ha N9,y= .box Gt Ha N9/\Z0 (σa.at s)<Gt)\/∀ver cs ow,σs.at s≠ .box ver cs ow)->IT.step (B9 C) run (JM vs l (i+1) (σa.set s y) G) h=some R->
    ∃b,IT.step (B9 C) run (G b) h=some R/\b.length=σa.length/\(∀t,t∉((s,sh)::l).map (·.1)->b.at t=σa.at t)/\(∀t,t∈((s,sh)::l).map (·.1)->Qo (σs.at t) (b.at t)/\
     ((∃Gt Ha N9,b.at t= .box Gt Ha N9/\Z0 (σa.at t)<Gt)\/∀ver cs ow,σs.at t≠ .box ver cs ow)):=by
   intro y hy c F9;obtain⟨b,q,p,j,m⟩:=UI (l:=l) (i:=i+1) (σa:=σa.set s y) (by rw[aKX];exact Sk) (by simpa using hl) F9;refine⟨b,q,by simpa using p,λt ht=>?_,λt ht=>?_⟩;.simp only[Bk,AX,Ns] at ht;rw[j t ht.2,BV.Gi λe=>ht.1 e.symm]
   .by_cases hm:t∈l.map (·.1)
    .obtain⟨g,k⟩:=m t hm;refine⟨g,k.imp (λ⟨Gt,Ha,N9,f,d⟩=>⟨Gt,Ha,N9,f,?_⟩) id⟩;by_cases cW:s=t
     .subst cW;rw[BV.Fy hlt] at d;rcases c with⟨z,B,A,rfl,h1⟩|hn
      .simp only[Z0] at d;omega
      .rcases g with⟨u,_,e⟩|⟨u,_,e⟩|⟨ver,cs,ow,_,_,e,_⟩
       .rw[f] at e;cases e
       .rw[f] at e;cases e
       .exact absurd e (hn _ _ _)
     .rwa [BV.Gi cW] at d
    .have cW:t=s:=by simp only[Bk,AX] at ht;exact ht.resolve_right hm
     subst cW;rw[j t hm,BV.Fy hlt];exact⟨hy,c⟩
  cases sh with
  |val=>
   simp only[JM,dB] at hr;have sq:(σs.at s).Hr=some v:=by simpa using Sv
   refine go (.val v) (.inl ⟨v,sq,rfl⟩) (.inr λver cs ow e=>?_) hr;rw[e] at sq;cases sq
  |Bt=>
   simp only[JM,dB] at hr;cases hx:σs.at s with
   |Bt u=>rw[hx] at Sv;cases Sv;exact go (.Bt v) (.inr (.inl ⟨v,hx,rfl⟩)) (.inr λver cs ow e=>by rw[hx] at e;cases e) hr
   |_=>rw[hx] at Sv;cases Sv
  |box n ow=>
   simp only[JM,dB,IT.step] at hr;cases hx:σs.at s with
   |box ver cs N9=>
    rw[hx] at Sv;simp only at Sv;split at Sv
    .rename_i HU;cases Sv;split at hr;.rename_i hn;rw[TH hn] at hr;refine go (.box (Z0 (σa.at s)+1) cs ow) (.inr (.inr ⟨ver,cs,N9,_,ow,hx,rfl,λo ho=>?_⟩)) (.inl ⟨_,_,_,rfl,Nt _⟩) hr;have:=C9.1 HU.2 o ho;simpa using this
     .cases hr
    .cases Sv
   |_=>rw[hx] at Sv;cases Sv
def De.aCe(hr:De C U0 w0 U Z σ h a w){O:BV}(hl:O.length=σ.length)(hs:∀s,O.at s= .undef\/O.at s=σ.at s\/Qo (σ.at s) (O.at s)):De C U0 w0 U Z O h a w:=by
 refine⟨hr.D8,⟨by rw[hl];exact hr.fr.size,λs=>?_⟩,hr.D0,hr.defers,hr.Hb⟩;have h0:=hr.fr.Ip s;rcases hs s with e|e|e
 .rw[e];trivial
 .rw[e];exact h0
 .exact e.rel h0
structure sr(σ0:BV)(ws:List Nat)(l:List (Nat×Sh))(σ':BV)(vs:List Aa):Prop where
 vec:Xa σ' l=some vs
 len:σ'.length=σ0.length
 same:∀s,s∉l.map (·.1)->σ0.at s= .undef\/σ0.at s=σ'.at s
 box:∀s ver cs ow,σ0.at s= .box ver cs ow->∃Gt Ha N9,σ'.at s= .box Gt Ha N9
def mX{σ0 σ':BV}{l:List (Nat×Sh)}(hk:qV σ0 σ' l=true){s:Nat}(hs:s∉l.map (·.1)):(∀ver cs ow,σ0.at s= .box ver cs ow->∃Ha N9,σ'.at s= .box ver Ha N9)/\(∀t o,σ0.at s= .Fl t o->∃t' o',σ'.at s= .Fl t' o'):=by
 have hc:(l.map (·.1)).contains s=false:=by
  cases hc:(l.map (·.1)).contains s with
  |false=>rfl
  |true=>exact absurd (by simpa using hc) hs
 have V5:s<σ0.length->(match σ0.at s with
   | .box ver _ _=>(l.map (·.1)).contains s||(match σ'.at s with| .box Gt _ _=>Gt==ver|_=>false)
   | .Fl _ _=>(l.map (·.1)).contains s||(match σ'.at s with| .Fl _ _=>true|_=>false)
   |_=>true)=true:=λhl=>by
  unfold qV at hk;exact C9.1 hk s (by simpa using hl)
 constructor
 .intro ver cs ow hx;have:=V5 (BV.Ps (by rw[hx];simp));rw[hx] at this;simp only[hc,Hl] at this;split at this
  .rename_i Gt Ha N9 hy;have e:Gt=ver:=by simpa using this
   subst e;exact⟨Ha,N9,hy⟩
  .cases this
 .intro t o hx;have:=V5 (BV.Ps (by rw[hx];simp));rw[hx] at this;simp only[hc,Hl] at this;split at this;.rename_i t' o' hy;exact⟨t',o',hy⟩
  .cases this
def PF{σ0 b σ':BV}{ws:List Nat}{l:List (Nat×Sh)}{x:DX}{R:Ke}(Vz:IT.step (B9 C) run (TF σ0 l x σ') h=some R)(f_:Gj ws b σ')(hlen:b.length=σ0.length)
  (Vx:∀s,s∈ws->σ0.at s= .undef) (NA:∀s,s∉l.map (·.1)->σ0.at s= .undef\/σ0.at s=b.at s) (aKY:∀s ver cs ow,σ0.at s= .box ver cs ow->∃Gt Ha N9,b.at s= .box Gt Ha N9):
  ∃vs,R=(x,vs,h)/\sr σ0 ws l σ' vs:=by
 unfold TF at Vz;split at Vz
 .rename_i hk;split at Vz
  .rename_i vs hv;cases Vz;refine⟨vs,rfl,hv,f_.1.trans hlen,λs hs=>?_,λs ver cs ow hb=>?_⟩
   .by_cases hw:s∈ws;.exact .inl (Vx s hw)
    .rcases NA s hs with e|e
     .exact .inl e
     .right;have Zl:=f_.2 s hw;obtain⟨i,g⟩:=mX hk hs;rw[e] at i g⊢;cases hx:b.at s with
      |box ver cs ow=>rw[hx] at Zl;obtain⟨m,p,n,c,_,d⟩:=Zl;obtain⟨k,f,j⟩:=i ver cs ow hx;rw[c] at j;cases j;obtain⟨rfl,rfl⟩:=d rfl;exact c.symm
      |Fl t o=>
       rw[hx] at Zl;rcases Zl with c|c
       .exact c.symm
       .obtain⟨t',o',d⟩:=g t o hx;rw[c] at d;cases d
      |_=>rw[hx] at Zl;exact(show σ'.at s=_ from Zl).symm
   .have hw:s∉ws:=λhw=>by rw[Vx s hw] at hb;cases hb
    obtain⟨m,p,n,c⟩:=aKY s ver cs ow hb;have Zl:=f_.2 s hw;rw[c] at Zl;obtain⟨v2,k,f,d,_⟩:=Zl;exact⟨v2,k,f,d⟩
  .cases Vz
 .cases Vz
def sr.next{σ0 σ':BV}{ws:List Nat}{l:List (Nat×Sh)}{vs:List Aa}(he:sr σ0 ws l σ' vs){G:BV->IT}{R:Ke}(hr:De C U0 w0 U Z σ' h a w)(A4:IT.step (B9 C) run (JM vs l 0 σ0 G) h=some R):
  ∃b,IT.step (B9 C) run (G b) h=some R/\De C U0 w0 U Z b h a w/\b.length=σ0.length/\(∀s,s∉l.map (·.1)->b.at s=σ0.at s)/\(∀s ver cs ow,σ0.at s= .box ver cs ow->∃Gt Ha N9,b.at s= .box Gt Ha N9/\(s∈l.map (·.1)->ver<Gt)):=by
 obtain⟨b,i,f,c,d⟩:=UI (σs:=σ') (by simpa using he.vec) he.len.symm A4;refine⟨b,i,hr.aCe (f.trans he.len.symm) λs=>?_,f,c,λs ver cs ow hb=>?_⟩
 .by_cases hm:s∈l.map (·.1);.exact .inr (.inr (d s hm).1)
  .rw[c s hm];rcases he.same s hm with e|e
   .exact .inl e
   .exact .inr (.inl e)
 .by_cases hm:s∈l.map (·.1)
  .obtain⟨_,q⟩:=d s hm;obtain⟨m,o,n,k⟩:=he.box s ver cs ow hb;rcases q with⟨Gt,Ha,N9,j,g⟩|q
   .exact⟨Gt,Ha,N9,j,λ_=>by rw[hb] at g;exact g⟩
   .exact absurd k (q _ _ _)
  .exact⟨ver,cs,ow,by rw[c s hm];exact hb,λh=>absurd h hm⟩
def PG{σ σ0 b:BV}{ws W:List Nat}{l:List (Nat×Sh)}(h0:σ0=σ.clear ws)(hv:ou l ws σ=true)(hl:b.length=σ0.length)(h1:∀s,s∉l.map (·.1)->b.at s=σ0.at s)
  (h2:∀s ver cs ow,σ0.at s= .box ver cs ow->∃Gt Ha N9,b.at s= .box Gt Ha N9/\(s∈l.map (·.1)->ver<Gt)) (hW:∀s∈ws,s∈W):Gj W σ b:=by
 refine⟨by rw[hl,h0,BV.Ko],λs hs=>?_⟩;have c:s∉ws:=λhm=>hs (hW s hm);have e0:σ0.at s=σ.at s:=by rw[h0,BV.IB,Ad c]
 by_cases hm:s∈l.map (·.1)
 .obtain⟨p,hp,rfl⟩:=Bm.1 hm;have:=C9.1 hv p hp;simp only[OR,aFd] at this;rcases this with this|this
  .exact absurd this c
  .cases hx:σ.at p.1 with
   |box ver cs ow=>obtain⟨d,j,f,i,g⟩:=h2 p.1 ver cs ow (by rw[e0];exact hx);have:=g hm;exact⟨d,j,f,i,Ab,λe=>Ab⟩
   |_=>rw[hx] at this;cases this
 .rw[h1 s hm,e0];exact .refl _
def Fh.le{n m:Nat}(h:Fh C (IT.run (B9 C) n))(b:m<=n):Fh C (IT.run (B9 C) m):=⟨h.1,λf args h0 r h' A4=>h.2 f args h0 r h' (IT.Ig b A4)⟩
def su(hm:C.P.follows .mixedOrders=true):∀(c:Code) (n:Nat),Fh C (IT.run (B9 C) n)->∀{K:DX->BV->IT} {R:Ke} {σ:BV} {h:Ah} {a:Act} {w:World} {U:Gh} {Z:Nat->Nat} {Q:Exit->Act->World->Prop},
  IT.step (B9 C) (IT.run (B9 C) n) (Gu C fid c σ K) h=some R->De C U0 w0 U Z σ h a w->
  (∀x f d σ' h' a' w',IT.step (B9 C) (IT.run (B9 C) n) (K x σ') h'=some R->Gj (Df c++Ce c) σ σ'->De C U0 w0 f d σ' h' a' w'->Q (sn x) a' w')->c.wp C.P Q a w:=by
 intro c;induction c with
 |skip=>intro n p K R σ h a w U Z Q A4 hr g;exact wp_skip (g .normal U Z σ h a w A4 (.refl _ _) hr)
 |region id ops draw=>
  intro n p K R σ h a w U Z Q A4 hr g;simp only[Gu] at A4;split at A4;.exact XC hm p A4 hr λf d σ' h' a' w' h1 h2 A=>g .normal f d σ' h' a' w' h1 h2 A
  .rename_i l hl;unfold cQ at A4;simp only at A4;split at A4
   .rename_i hv;simp only[IT.step] at A4;split at A4
    .rename_i x vs h1 XD;refine XC hm p XD hr λf d σ' h' a' w' z u q=>?_;obtain⟨HS,e,he⟩:=PF (h:=h') z u (by rw[BV.Ko]) (λs hs=>by rw[BV.IB,Af hs]) (λs _=>by rw[BV.IB];split<;>simp) (λs ver cs ow hb=>by
      rw[BV.IB] at hb;split at hb;.cases hb
      .exact⟨ver,cs,ow,hb⟩)
     cases e;obtain⟨k,F,E,L,J,I⟩:=he.next q A4;exact g .normal f d k h1 a' w' F (PG rfl hv L J I (λs hs=>hs)) E
    .cases A4
   .cases A4
 |seq x y D B=>
  intro n p K R σ h a w U Z Q A4 hr g;simp only[Gu] at A4;refine wp_seq (D n p A4 hr λe f d σ' h' a' w' h1 h2 A=>?_);have up:∀j,Gj (Df x++Ce x) σ j->Gj (Df (.seq x y)++Ce (.seq x y)) σ j:=λj ho=>ho.mono λs hs=>by simp only[Df,Ce,Ax] at hs⊢;rcases hs with hs|hs<;>simp[hs]
  cases e with
  |normal=>refine B n p h1 A λY U2 Z2 j aK a2 w2 z u q=>g Y U2 Z2 j aK a2 w2 z ((up _ h2).trans (u.mono λs hs=>?_)) q;simp only[Df,Ce,Ax] at hs⊢;rcases hs with hs|hs<;>simp[hs]
  |exit i=>exact g (.exit i) f d σ' h' a' w' h1 (up _ h2) A
  |ret=>exact g .ret f d σ' h' a' w' h1 (up _ h2) A
 |cond c x y D B=>
  intro n p K R σ h a w U Z Q A4 hr g;have N:∀{o j:BV},Gj (Df x++Ce x) o j->Gj (Df (.cond c x y)++Ce (.cond c x y)) o j:=λ{o j} ho=>ho.mono λs hs=>by cases c<;>simp only[Df,Ce,Ax,AX] at hs⊢<;>rcases hs with hs|hs<;>simp[hs]
  have M:∀{o j:BV},Gj (Df y++Ce y) o j->Gj (Df (.cond c x y)++Ce (.cond c x y)) o j:=λ{o j} ho=>ho.mono λs hs=>by cases c<;>simp only[Df,Ce,Ax,AX] at hs⊢<;>rcases hs with hs|hs<;>simp[hs]
  simp only[Gu] at A4;split at A4;.rename_i hc;obtain⟨s,h1,_⟩:=Gv hr hc;exact wp_cond_true h1 (D n p A4 hr λe f d σ' h' a' w' z u q=>g e f d σ' h' a' w' z (N u) q)
  .rename_i hc;obtain⟨s,h1,_⟩:=Gv hr hc;exact wp_cond_false h1 (B n p A4 hr λe f d σ' h' a' w' z u q=>g e f d σ' h' a' w' z (M u) q)
  .rename_i s v hc;have T:σ.at s= .val v:=He hc;have h0:=hr.fr.Ip s;rw[T] at h0;have G:∀{S:DX->BV->IT} {R':Ke} {Q':Exit->Act->World->Prop},IT.step (B9 C) (IT.run (B9 C) n) (.Gg v (Gu C fid x (σ.set s (.O5 true)) S) (Gu C fid y (σ.set s (.O5 false)) S)) h=some R'->
     (∀e f d σ' h' a' w',IT.step (B9 C) (IT.run (B9 C) n) (S e σ') h'=some R'->Gj (Df (.cond (.tmp s) x y)++Ce (.cond (.tmp s) x y)) σ σ'->De C U0 w0 f d σ' h' a' w'->Q' (sn e) a' w')->(Code.cond (.tmp s) x y).wp C.P Q' a w:=by
    intro S R' Q' QY O;have gq:∀b:Bool,Gj (Df (.cond (.tmp s) x y)++Ce (.cond (.tmp s) x y)) σ (σ.set s (.O5 b)):=λb=> .set (by simp[Ce]);simp only[IT.step] at QY;split at QY;.have hv:a.eval (.tmp s)= .bool true:=h0;exact wp_cond_true hv (D n p QY (hr.lV h0) λe f d σ' h' a' w' z u q=>O e f d σ' h' a' w' z ((gq true).trans (N u)) q)
    .have hv:a.eval (.tmp s)= .bool false:=h0;exact wp_cond_false hv (B n p QY (hr.lV h0) λe f d σ' h' a' w' z u q=>O e f d σ' h' a' w' z ((gq false).trans (M u)) q)
    .cases QY
   split at A4;.exact G A4 g
   .rename_i l hl;unfold cQ at A4;simp only at A4;split at A4
    .rename_i hv;simp only[IT.step] at A4;split at A4
     .rename_i e vs h1 XD;refine G XD λY f d σ' h' a' w' z u q=>?_;obtain⟨HS,eq,he⟩:=PF (h:=h') (ws:=s::(Df x++Df y++Ce x++Ce y)) z (u.mono λt ht=>by
        simp only[Df,Ce,Ax,AX] at ht⊢;rcases ht with(ht|ht)|ht|ht|ht<;>simp[ht]) (by rw[BV.Ko]) (λt ht=>by rw[BV.IB,Af ht]) (λt _=>by rw[BV.IB];split<;>simp) (λt ver cs ow hb=>by
       rw[BV.IB] at hb;split at hb;.cases hb
       .exact⟨ver,cs,ow,hb⟩)
      cases eq;obtain⟨k,F,E,L,J,I⟩:=he.next q A4;exact g e f d k h1 a' w' F (PG rfl hv L J I (λt ht=>by simp only[Df,Ce,Ax,AX] at ht⊢;rcases ht with ht|((ht|ht)|ht)|ht<;>simp[ht])) E
     .cases A4
    .cases A4
  .cases A4
 |block id b ih=>
  intro n p K R σ h a w U Z Q A4 hr g;simp only[Gu] at A4;refine wp_block (ih n p A4 hr λe f d σ' h' a' w' h1 h2 A=>?_);cases e with
  |normal=>exact g .normal f d σ' h' a' w' h1 h2 A
  |exit i=>
   simp only at h1;show if i=id then Q .normal a' w' else Q (.exit i) a' w'
   by_cases hi:i=id;.rw[Af hi] at h1⊢;exact g .normal f d σ' h' a' w' h1 h2 A
   .rw[Ad hi] at h1⊢;exact g (.exit i) f d σ' h' a' w' h1 h2 A
  |ret=>exact g .ret f d σ' h' a' w' h1 h2 A
 |loop b ih=>
  intro n p K R σ h a w U Z Q A4 hr g;simp only[Gu] at A4;generalize hl:C.aBJ fid ((GP b).getD 0)=l at A4;generalize aP7:(GP b).getD 0=key at A4;generalize h0:σ.clear (Df b++Ce b)=σ0 at A4;split at A4
  .rename_i hv;split at A4;.cases A4
   .rename_i init aFH;have aFI:σ0.length=σ.length:=by rw[<-h0,BV.Ko]
    have Vx:∀s,s∈Df b++Ce b->σ0.at s= .undef:=λs hs=>by rw[<-h0,BV.IB,Af hs]
    refine dI (λm a w=>∃U Z o h vs,De C U0 w0 U Z o h a w/\sr σ0 (Df b++Ce b) l o vs/\m<=n+1/\
     IT.run (B9 C) m (.loop key vs (λvs=>JM vs l 0 σ0 λk=>Gu C fid b k λx σ'=>TF σ0 l x σ') λx vs=>JM vs l 0 σ0 λσ'=>aAm K x σ') h=some R) ?_ (n+1) a w
     ⟨U,Z,σ,h,init,hr,⟨aFH,aFI.symm,λs _=>by rw[<-h0,BV.IB];split<;>simp,λs ver cs ow hb=>by
      rw[<-h0,BV.IB] at hb;split at hb;.cases hb
      .exact⟨ver,cs,ow,hb⟩⟩,Ag _,A4⟩
    rintro m a1 w1 ⟨U1,Z1,o,h1,vs,KC,V,hmn,Jf⟩;cases m with
    |zero=>simp[IT.run] at Jf
    |succ m=>
     simp only[IT.run,IT.step] at Jf;have body:∀{x:DX} {HS:List Aa} {h':Ah},IT.step (B9 C) (IT.run (B9 C) m) (JM vs l 0 σ0 λk=>Gu C fid b k λx σ'=>TF σ0 l x σ') h1=some (x,HS,h')->∀{Q':Exit->Act->World->Prop},
       (∀f d σ' a' w',De C U0 w0 f d σ' h' a' w'->sr σ0 (Df b++Ce b) l σ' HS->Q' (sn x) a' w')->b.wp C.P Q' a1 w1:=by
      intro x HS h' hb Q' X;obtain⟨k,F,E,L,J,I⟩:=V.next KC hb;refine ih m (p.le Ab) F E λy f d σ' h2 a' w' z u q=>?_;obtain⟨vs2,eq,he⟩:=PF z u L Vx (λs hs=> .inr (J s hs).symm) λs ver cs ow hb=>by obtain⟨v1,c1,o1,e1,_⟩:=I s ver cs ow hb;exact⟨v1,c1,o1,e1⟩
      cases eq;exact X f d σ' a' w' q he
     split at Jf;.rename_i HS h' hb;exact body hb λf d σ' a' w' F9 PH=>⟨m,Nt m,f,d,σ',h',HS,F9,PH,Ab,Jf⟩
     .rename_i x HS h' hne hb;refine body hb λf d σ' a' w' F9 PH=>?_;have UH:=IT.JY (λt h r=>IT.Ig (fn:=B9 C) (Ab:m<=n)) _ _ _ Jf;obtain⟨k,F,E,L,J,I⟩:=PH.next F9 UH;have ho:=PG h0.symm hv L J I λs hs=>hs;cases x with
      |normal=>exact absurd rfl hne
      |exit i=>exact g _ f d k h' a' w' F ho E
      |ret=>exact g _ f d k h' a' w' F ho E
     .cases Jf
  .cases A4
 |exit id=>intro n p K R σ h a w U Z Q A4 hr g;exact wp_exit (g (.exit id) U Z σ h a w A4 (.refl _ _) hr)
 |ret=>intro n p K R σ h a w U Z Q A4 hr g;exact wp_ret (g .ret U Z σ h a w A4 (.refl _ _) hr)
 |label l=>intro n p K R σ h a w U Z Q A4 hr g;exact wp_label (g .normal U Z σ h a w A4 (.refl _ _) hr)
 |scope b ih=>
  intro n p K R σ h a w U Z Q A4 hr g;simp only[Gu] at A4;refine wp_scope_straight (ih n p A4 hr λe f d σ' h' a' w' h1 h2 A=>?_);cases e with
  |normal=>exact g .normal f d σ' h' a' w' h1 h2 A
  |exit i=>exact g (.exit i) f d σ' h' a' w' h1 h2 A
  |ret=>exact g .ret f d σ' h' a' w' h1 h2 A
 |_=>intros n p K R σ h a w U Z Q A4 hr g;cases A4
end
end Go.Am
end
section
namespace Go.Am
open Go
section
variable{C:F8}{U0 U:Gh}{w0 w:World}{Z:Nat->Nat}{σ:BV}{h:Ah}{a:Act}{fid:FuncId}{run:IT->Ah->Option Ke}
def IC(tmps:Array Value):ResultVar->Sem Value
 | .tmp t=>pure (tmps.getD t undef)
 | .cell a t=>do loadVar t (<-asAddr (tmps.getD a undef))
def Sw{P:Program}{t:TypeId}{b o:Nat}{v:Value}(h:(Instr.loadAt t (.pointer (some ⟨b,o,none⟩))).run P w= .ok v w):(loadVar t ⟨b,o,none⟩).run P w= .ok v w:=by simpa[Instr.loadAt,Instr.sureAddr] using h
def UJ{K:List Aa->IT}{R:Ke}:∀{rs:List ResultVar} {D0:List Aa},IT.step (B9 C) run (GL C σ rs D0 K) h=some R->De C U0 w0 U Z σ h a w->
  ∃vs us,(rs.mapM (IC a.tmps)).run C.P w= .ok us w/\Bj U vs us/\IT.step (B9 C) run (K (D0.reverse++vs)) h=some R
 |[],D0,A4,hr=>⟨[],[],AH,rfl,by simpa[GL] using A4⟩
 |f::rs,D0,A4,hr=>by
  have one:∀(v:Aa) (u:Value),(IC a.tmps f).run C.P w= .ok u w->BR U v u->IT.step (B9 C) run (GL C σ rs (v::D0) K) h=some R->
    ∃vs us,((f::rs).mapM (IC a.tmps)).run C.P w= .ok us w/\Bj U vs us/\IT.step (B9 C) run (K (D0.reverse++vs)) h=some R:=by
   intro v u h1 h2 m;obtain⟨vs,us,z,y,x⟩:=UJ m hr;refine⟨v::vs,u::us,?_,⟨u,us,rfl,h2,y⟩,by simpa using x⟩;simp[List.mapM_cons,h1,z]
  cases f with
  |tmp t=>
   simp only[GL] at A4;split at A4;.rename_i v hv;exact one v _ (by simp[IC]) (NC (hr.fr.Ip t) hv) A4
   .cases A4
  |cell p t=>
   have c:∀(b o:Nat) (v:Aa),a.tmps.getD p undef= .pointer (some ⟨b,o,none⟩)->(∃u,(Instr.loadAt t (.pointer (some ⟨b,o,none⟩))).run C.P w= .ok u w/\BR U v u)->IT.step (B9 C) run (GL C σ rs (v::D0) K) h=some R->
     ∃vs us,((ResultVar.cell p t::rs).mapM (IC a.tmps)).run C.P w= .ok us w/\Bj U vs us/\IT.step (B9 C) run (K (D0.reverse++vs)) h=some R:=by
    intro b o v hp ⟨u,h1,h2⟩ m;refine one v u ?_ h2 m;simp only[IC,hp,asAddr,Sem.run_bind,Sem.run_pure,Result.andThen_ok];exact Sw h1
   simp only[GL] at A4;split at A4
   .rename_i s off ver cs ow ht ha;split at A4;.rename_i hlt;obtain⟨hs,hx⟩:=Ls hr ha;obtain⟨u,i,g,_⟩:=Lc hr ht hs (r:=cs.getD off .nilIface) (off:=off) (by simp[Fv,List.getD,Ak hlt]);exact c _ _ _ hx ⟨u,i,g⟩ A4
    .cases A4
   .rename_i n s off ver cs ow ht ha;split at A4;.rename_i Eo;obtain⟨hs,hx⟩:=Ls hr ha;obtain⟨u,i,g,_⟩:=Lc hr ht hs (r:= .agg ((cs.drop off).take n)) (off:=off) (by simp[Fv,Eo]);exact c _ _ _ hx ⟨u,i,g⟩ A4
    .cases A4
   .rename_i n p' ht ha;simp only[IT.step] at A4;split at A4
    .rename_i v hv;have wZ:=Rp hr ha;unfold A7 at hv;split at hv;.rename_i cs;obtain⟨b,k,mK,hm⟩:=wZ;obtain⟨us,l,d⟩:=hm.values;exact c b k v mK (IA (w:=w) ht l (λj u hj=>(hr.D8.It _ _ _ (d j u hj)).1) (λu hu=>by obtain⟨j,hj⟩:=CU hu;exact(hr.D8.It _ _ _ (d j u hj)).2.1) hv) A4
     .rename_i id off;obtain⟨b,hb,mK⟩:=wZ;split at hv
      .rename_i cs hcs;obtain⟨us,e,fr,l,pf,d,q⟩:=hr.D8.cells id cs hcs b hb;refine c b off v mK (IA (w:=w) (b:=b) (o:=off) ht (d.drop off) (λj u hj=>?_) (λu hu=>q u (Bw hu)) (Px hv)) A4;rw[cell_of_row w _ _ us e fr l];rw[Cr,Cg] at hj;split at hj;.simpa using hj
       .cases hj
      .cases hv
     .cases hv
    .cases A4
   .cases A4
def De.Pn(hr:De C U0 w0 U Z σ h a w){p:Aa}{off:Nat}{u:Value}{h':Ah}(hp:BR U p u)(hf:KR h off p=some h'):∃t,De C U0 w0 t Z σ h' a w:=by
 unfold KR at hf;split at hf;.cases hf;exact⟨U,hr⟩
 .rename_i id r;generalize r+off=o at hf;obtain⟨b,hb,_⟩:=hp;split at hf
  .rename_i cs hcs;split at hf
   .rename_i v hv;obtain⟨us,e,fr,c,pf,n,B⟩:=hr.D8.cells id cs hcs b hb;obtain⟨x,hx,g⟩:=n.get hv;cases hq:Kd h v with
    |none=>rw[hq] at hf;cases hf
    |some q=>
     obtain⟨h1,v'⟩:=q;rw[hq] at hf;simp only[Cm] at hf;split at hf
     .rename_i Ha aFJ;cases hf;obtain⟨U1,Eo,KC,Ä⟩:=hr.Ph g hq;have Tw:=Eo.mu _ _ hb;obtain⟨k,D,s,j,l,r2,m⟩:=KC.D8.cells id Ha aFJ b Tw;rw[c] at j;cases j;have gq:Bj U1 (Ha.set o v') (us.toList.take (Ha.set o v').length):=by
       rw[Bp];refine Bj.Hd (by simp[r2.length]) λi y z hy hz=>?_;by_cases hi:o=i
       .subst hi;by_cases hlt:o<Ha.length
        .rw[AO hlt] at hy;cases hy;have f:x=z:=by rw[C1 hlt] at hz;have aK0:o<cs.length:=(Al.1 hv).1;rw[C1 aK0] at hx;rw[hx] at hz;exact D7 hz
         rw[<-f];exact Ä
        .rw[Ef (by simpa using hlt)] at hy;cases hy
       .rw[Ap hi] at hy;obtain⟨A,Zt,d⟩:=r2.get hy;rw[hz] at Zt;cases Zt;exact d
      obtain⟨V0,O8⟩:=Nz KC.D8 aFJ Tw c us (Ha.set o v') rfl l gq (by rw[Bp];exact m);rw[setRow_self w b us e fr c] at V0 O8;exact⟨U1,KC.Jd V0 O8⟩
     .cases hf
   .cases hf
  .cases hf
 .cases hf
def xH{t:IT}{R:Ke}:∀{l:List (Nat×Nat)} {U:Gh} {h:Ah},IT.step (B9 C) run (wM C σ l t) h=some R->De C U0 w0 U Z σ h a w->∃b h',De C U0 w0 b Z σ h' a w/\IT.step (B9 C) run t h'=some R
 |[],U,h,A4,hr=>⟨U,h,hr,A4⟩
 |(s,off)::l,U,h,A4,hr=>by
  simp only[wM] at A4;split at A4
  .rename_i p hp;simp only[IT.step] at A4;split at A4;.rename_i h1 hf;obtain⟨U1,KC⟩:=hr.Pn (NC (hr.fr.Ip s) hp) hf;exact xH A4 KC
   .cases A4
  .cases A4
def XE{R:Ke}:∀{vs D0:List Aa} {U:Gh} {h:Ah} {us mz:List Value},IT.step (B9 C) run (Pq vs D0 Uv) h=some R->De C U0 w0 U Z σ h a w->Bj U vs us->Bj U D0.reverse mz->
  ∃c h' HS,De C U0 w0 c Z σ h' a w/\Bj c HS (mz++us)/\IT.step (B9 C) run (Uv HS) h'=some R
 |[],D0,U,h,us,mz,A4,hr,h1,h2=>by rw[show us=[] from h1,By];exact⟨U,h,D0.reverse,hr,h2,A4⟩
 |v::vs,D0,U,h,us,mz,A4,hr,h1,h2=>by
  obtain⟨u,DR,rfl,hv,h1⟩:=h1;simp only[Pq,IT.step] at A4;split at A4
  .rename_i k v' hf;obtain⟨U1,Eo,KC,Ä⟩:=hr.Ph hv hf;have i:Bj U1 (v'::D0).reverse (mz++[u]):=by rw[EJ];exact(Bj.mono Eo _ _ h2).append ⟨u,[],rfl,Ä,rfl⟩
   obtain⟨j,g,b,f,e,d⟩:=XE A4 KC (Bj.mono Eo _ _ h1) i;exact⟨j,g,b,f,by rwa [AI] at e,d⟩
  .cases A4
def xI{R:Ke}{vs:List Aa}{us:List Value}{U:Gh}{h:Ah}(A4:IT.step (B9 C) run (Uv vs) h=some R)(hv:Bj U vs us):
  ∃r,R=(.ret,[r],h)/\BR U r (if c:us.toArray.size=1 then us.toArray[0] else .tuple us.toArray):=by
 unfold Uv at A4;split at A4;.rename_i v;obtain⟨u,DR,rfl,b,hnil⟩:=hv;rw[show DR=[] from hnil];simp only[IT.step] at A4;cases A4;exact⟨v,rfl,by simpa using b⟩
 .rename_i hne;simp only[IT.step] at A4;cases A4;have hlen:us.length≠1:=λe=>by have:=hv.length;rw[e] at this;obtain⟨v,hv⟩:=aEw.1 this.symm;exact hne v hv
  refine⟨_,rfl,?_⟩;rw[dif_neg (by simpa using hlen)];exact⟨us.toArray,rfl,by simpa using hv⟩
def UK{fn:Func}{tmps:Array Value}{us:List Value}(h:(fn.results.toList.mapM (IC tmps)).run C.P w= .ok us w):(results fn tmps).run C.P w= .ok (if b:us.toArray.size=1 then us.toArray[0] else .tuple us.toArray) w:=by
 have e:fn.results.mapM (IC tmps)=(do let l<-fn.results.toList.mapM (IC tmps);pure l.toArray:Sem (Array Value)):=by rw[Array.mapM_eq_mapM_toList];simp
 have c:results fn tmps=(do let vs<-fn.results.mapM (IC tmps);pure (if b:vs.size=1 then vs[0] else .tuple vs):Sem Value):=by unfold results;congr 2
 rw[c,e];simp only[Sem.run_bind,h,Result.andThen_ok,Sem.run_pure]
def Ò{fn:Func}{R:Ke}(A4:IT.step (B9 C) run (lU C fid fn σ) h=some R)(hr:De C U0 w0 U Z σ h a w):
  ∃r h' v f,R=(.ret,[r],h')/\(results fn a.tmps).run C.P w= .ok v w/\Hn f h' w/\Lq U0 w0 f w/\BR f r v/\(C.Jk fid=true->∃s c,IY f w0.heap.size w s c v r):=by
 unfold lU at A4;split at A4;.cases A4
 .rename_i FI;obtain⟨U1,h1,KC,Jf⟩:=xH A4 hr;by_cases ho:C.Jk fid=true
  .have g:∃t x,fn.results.toList=[.tmp t]/\σ.at t= .Bt x:=by
    have:Qg σ fn.results.toList=true:=by
     cases hq:Qg σ fn.results.toList with
     |true=>rfl
     |false=>exact absurd (by simp[ho,hq]) FI
    unfold Qg at this;split at this
    .rename_i t KD;split at this;.rename_i x hx;exact⟨t,x,KD,hx⟩
     .cases this
    .cases this
   obtain⟨t,x,d,hx⟩:=g;have h0:=KC.fr.Ip t;rw[hx] at h0;have Ó:=UK (C:=C) (w:=w) (fn:=fn) (tmps:=a.tmps) (us:=[a.tmps.getD t undef]) (by rw[d];simp[IC]);rw[d] at Jf;simp only[GL,hx,Et.Hr,EJ,Tp,BU] at Jf;have aFK:Kd h1 x=some (h1,x):=by rcases h0.2 with(rfl|⟨_,rfl⟩)|⟨_,_,_,_,_,_,_,rfl,_⟩<;>rfl
   have hR:R=(.ret,[x],h1):=by
    split at Jf;.simp only[Pq,IT.step,aFK,EJ,Tp,BU,Uv] at Jf;cases Jf;rfl
    .simp only[IT.step,Uv] at Jf;cases Jf;rfl
   exact⟨x,h1,_,U1,hR,by simpa using Ó,KC.D8,KC.D0,h0.1,λ_=>⟨t,none,h0.2⟩⟩
  .obtain⟨vs,us,n,k,UH⟩:=UJ Jf KC;simp only[Tp,BU] at UH;have Ó:=UK (C:=C) n;split at UH;.obtain⟨o,h2,l,j,i,m⟩:=XE UH KC k (mz:=[]) rfl;rw[BU] at i;obtain⟨r,hR,b⟩:=xI m i;exact⟨r,h2,_,o,hR,Ó,j.D8,j.D0,b,λe=>absurd e ho⟩
   .obtain⟨r,hR,b⟩:=xI UH k;exact⟨r,h1,_,U1,hR,Ó,KC.D8,KC.D0,b,λe=>absurd e ho⟩
def De.start{U:Gh}{h:Ah}{w:World}(hi:Hn U h w)(hg:∀g cs,C.Hb g=some cs->C6 U cs g 0){args:List Aa}{cargs:Array Value}(ha:Bj U args cargs.toList)(n:Nat)(Z:Nat->Nat):
  De C U w U Z (args.map .val++List.replicate (n-args.length) .undef) h {tmps:=cargs++Array.replicate (n-cargs.size) undef,defers:=[]} w:=by
 have hlen:cargs.size=args.length:=by have:=ha.length;simpa using this
 refine⟨hi,⟨by simp[hlen],λs=>?_⟩,Lq.refl U w,rfl,hg⟩;by_cases hs:s<args.length
 .have h1:BV.at (args.map .val++List.replicate (n-args.length) .undef) s= .val args[s]:=by simp[BV.at,List.getD,Ai,hs]
  obtain⟨u,hu,hr⟩:=ha.get (Ak hs);have h2:(cargs++Array.replicate (n-cargs.size) undef).getD s undef=u:=by
   rw[Hk,Array.getElem?_append_left Ab];have:cargs[s]?=some u:=by simpa using hu
   rw[this];rfl
  rw[h1,h2];exact hr
 .have h1:BV.at (args.map .val++List.replicate (n-args.length) .undef) s= .undef:=by have hm:(args.map Et.val).length=args.length:=AH;simp only[BV.at,List.getD];rw[Bd Ab,List.getElem?_replicate];split<;>rfl
  rw[h1];trivial
def dM(C:F8):Prop:=
 (∀f,C.MR f=true->qp C f)/\∀(f:FuncId) (p:List Aa->IT),C.aBK f=some p->∀n,Fh C (IT.run (B9 C) n)->∀(args:List Aa) (h:Ah) (r:Aa) (h':Ah),IT.step (B9 C) (IT.run (B9 C) n) (p args) h=some (.ret,[r],h')->
  (∃fn c,C.P.funcs[EF f]?=some fn/\(fn.name== "runtime.NumGoroutine")=false/\fn.body=some c)/\
  ∀(U:Gh) (w:World) (cargs:Array Value),Hn U h w->(∀g cs,C.Hb g=some cs->C6 U cs g 0)->Bj U args cargs.toList->
   Calls C.P (EF f) cargs w λe w'=>match e with
    | .returned v=>∃b,Hn b h' w'/\Lq U w b w'/\BR b r v/\(C.Jk f=true->∃s c,IY b w.heap.size w' s c v r)
    |_=>False
def mY(hm:C.P.follows .mixedOrders=true)(sx:∀g cs,C.Hb g=some cs->cs.all Aa.MQ=true)(d:dM C):∀n,Fh C (IT.run (B9 C) n)
 |0=>⟨⟨sx,d.1⟩,λf args h r h' A4=>by simp[IT.run] at A4⟩
 |n+1=>⟨⟨sx,d.1⟩,λf args h r h' A4=>by
  have ih:=mY hm sx d n;simp only[IT.run] at A4;unfold B9 at A4;split at A4;.rename_i p hp;exact d.2 f p hp n ih args h r h' A4
  unfold aFk at A4;split at A4
  .rename_i fn hf;split at A4;.cases A4
   .rename_i hname;unfold ov at A4;split at A4;.cases A4
    .rename_i c hb;refine⟨⟨fn,c,hf,by simpa using hname,hb⟩,λU w cargs hi hg ha=>calls_of_wp hf hb ?_⟩;refine su (C:=C) (fid:=f) hm c n ih A4 (De.start hi hg ha fn.ntmps (λ_=>0)) λx y u σ' h1 a' w' j _ k=>?_;have HG:IT.step (B9 C) (IT.run (B9 C) n) (lU C f fn σ') h1=some (.ret,[r],h')->a'.defers=[]/\∃v,(results fn a'.tmps).run C.P w'= .ok v w'/\∃b,Hn b h' w'/\Lq U w b w'/\BR b r v/\(C.Jk f=true->∃s c,IY b w.heap.size w' s c v r):=λaK2=>by obtain⟨r',h2,v,b,e,t,q,o,m,l⟩:=Ò aK2 k;cases e;exact⟨k.defers,v,t,b,q,o,m,l⟩
     cases x with
     |normal=>exact HG j
     |ret=>exact HG j
     |exit i=>cases j
  .cases A4⟩
end
def Ev.calls{C:F8}(hm:C.P.follows .mixedOrders=true)(sx:∀g cs,C.Hb g=some cs->cs.all Aa.MQ=true)(c:dM C){f:FuncId}{args:List Aa}{h:Ah}{Q:Aa->Ah->Prop}(Jl:Ev C f args h Q){U:Gh}{w:World}{cargs:Array Value}(hi:Hn U h w)(hg:∀g cs,C.Hb g=some cs->C6 U cs g 0)(ha:Bj U args cargs.toList):
  Calls C.P (EF f) cargs w λe w'=>match e with
   | .returned v=>∃r h' b,Q r h'/\Hn b h' w'/\Lq U w b w'/\BR b r v
   |_=>False:=by
 obtain⟨n,x,vs,h',A4,rfl,r,rfl,hQ⟩:=Jl;refine(((mY hm sx c n).2 f args h r h' A4).2 U w cargs hi hg ha).mono λe w' he=>?_;cases e with
 |returned v=>obtain⟨b,j,i,d,_⟩:=he;exact⟨r,h',b,hQ,j,i,d⟩
 |_=>exact he
end Go.Am
end
section
namespace Go.Am
open Go
inductive Ty where
 |bool
 |int (k:IntKind)
 |str
 |sl (e:Ty)
 |st (fs:List Ty)
 deriving Inhabited
mutual
def Ty.size:Ty->Nat
 | .bool| .int _| .str| .sl _=>1
 | .st fs=>Ty.M2 fs
def Ty.M2:List Ty->Nat
 |[]=>0
 |t::ts=>Ty.size t+Ty.M2 ts
end
mutual
def QL(P:Program):Ty->TypeId->Bool
 | .bool,t=>match P.underlying t with|some .bool=>true|_=>false
 | .int k,t=>match P.underlying t with|some (.int k')=>decide (k'=k)|_=>false
 | .str,t=>match P.underlying t with|some .string=>true|_=>false
 | .sl e,t=>match P.underlying t with
  |some (.slice b)=>P.cellsOf b==Ty.size e&&decide (0<Ty.size e)&&QL P e b
  |_=>false
 | .st fs,t=>match P.underlying t with
  |some (.struct fields)=>P.cellsOf t==Ty.M2 fs&&PI P fs fields.toList 0
  |_=>false
def PI(P:Program):List Ty->List Field->Nat->Bool
 |[],[],_=>true
 |ty::tys,f::fs,off=>f.offset==off&&P.cellsOf f.type==Ty.size ty&&QL P ty f.type&&PI P tys fs (off+Ty.size ty)
 |_,_,_=>false
end
mutual
def aN:Ty->List Aa->Prop
 | .bool,l=>∃b,l=[.bool b]
 | .int k,l=>∃n,l=[.int k n]/\(Lit.int k n).wf=true
 | .str,l=>∃s:An,l=[.str s]/\s.length<=maxLen
 | .sl e,l=>l=[.slnil]\/∃AD:List (List Aa),l=[.sl (Ty.size e) AD]/\AD.length<=maxLen/\∀r∈AD,aN e r
 | .st fs,l=>g_ fs l
def g_:List Ty->List Aa->Prop
 |[],l=>l=[]
 |ty::tys,l=>∃a b,l=a++b/\aN ty a/\g_ tys b
end
def Ty.aCh:Ty->Bool
 | .st _=>true
 |_=>false
def sE(ty:Ty)(a:Aa):Prop:=if ty.aCh then∃cs,a= .agg cs/\aN ty cs else aN ty [a]
def V6:List Ty->List Aa->Prop
 |[],l=>l=[]
 |ty::tys,l=>∃a b,l=a::b/\sE ty a/\V6 tys b
def Gy(W:World):Gh:={It:=λb o=>(W.cell? ⟨b,o,none⟩).filter (·.oneCell'),mu:=λ_=>none,Bt:=λ_=>none,sz:=λ_=>none}
def sy(W:World):Hn (Gy W) [] W:=by refine⟨λb o v h=>?_,λid x h=>by simp at h,λid cs h=>by simp at h,λid es h=>by simp at h,λid b h=>(by cases h),λb x h=>(by cases h),λb n h=>(by cases h)⟩;simp only[Gy,QQ] at h;exact⟨h.1,h.2,.inl rfl⟩
def TN{W:World}{b o:Nat}{v:Value}(h:W.cell? ⟨b,o,none⟩=some v)(h1:v.oneCell'=true):(Gy W).It b o=some v:=by simp[Gy,h,h1,Option.filter]
def UL{V:Type}{p:Nat->V->Prop}:∀(n:Nat),(∀i,i<n->∃x,p i x)->∃l:List V,l.length=n/\∀i x,l[i]?=some x->p i x
 |0,_=>⟨[],rfl,AH⟩
 |n+1,h=>by
  obtain⟨l,hl,hp⟩:=UL n λi hi=>h i Ab;obtain⟨x,hx⟩:=h n Ab;refine⟨l++[x],by simp[hl],λi y hy=>?_⟩;rw[aJu] at hy;split at hy;.exact hp i y hy
  .have:i-l.length=0:=by
    rcases Jp (i-l.length) with h0|h0
    .exact h0
    .rw[Ef D9] at hy;cases hy
   rw[this] at hy;simp at hy;subst hy;have:i=n:=Ab;rw[this];exact hx
section
variable{H:Type}{enc:TypeId×Value->H}{P:Program}{W:World}
def QZ{a:Addr}{n:Nat}{cs:List Value}(h:W.cells? 0 a n=some cs)(hn:0<n):a.spot=none:=by
 obtain⟨_,hl,hc⟩:=World.cells?_some h;have h0:=hc 0 hn;have hlt:0<cs.length:=Ab;rw[Ak hlt] at h0;unfold World.cell? at h0;have ha:a.add 0=a:=by simp[Addr.add]
 rw[ha] at h0;split at h0
 .split at h0;.cases h0
  .rename_i hs;simpa using hs
 .cases h0
mutual
def dN:∀(ty:Ty) {t:TypeId} {fuel:Nat} {cs:List Value} {x:DataW H×List MemPlace},QL P ty t=true->DataW.trod enc P W 0 (λ_=>true) true fuel t cs=some x->
  ∃as,aN ty as/\Bj (Gy W) as cs/\(∀u∈cs,u.oneCell'=true)/\as.length=Ty.size ty
 | .bool,t,fuel,cs,x,LV,h=>by
  unfold QL at LV;split at LV;.rename_i ht;obtain⟨b,rfl,_⟩:=DataW.trod_bool ht h;exact⟨[.bool b],⟨b,rfl⟩,⟨_,[],rfl,rfl,rfl⟩,by simp[Value.oneCell'],rfl⟩
  .cases LV
 | .int k,t,fuel,cs,x,LV,h=>by
  unfold QL at LV;split at LV
  .rename_i k' ht;have hk:k'=k:=by simpa using LV
   subst hk;obtain⟨n,rfl,_,hw⟩:=DataW.trod_int ht h;exact⟨[.int k' n],⟨n,rfl,hw⟩,⟨_,[],rfl,rfl,rfl⟩,by simp[Value.oneCell'],rfl⟩
  .cases LV
 | .str,t,fuel,cs,x,LV,h=>by
  unfold QL at LV;split at LV
  .rename_i ht;obtain⟨s,rfl,_,hs⟩:=DataW.trod_string ht h;refine⟨[.str s.data.toList],⟨_,rfl,by
    have e:s.data.toList.length=s.size:=by rw[Cf];rfl
    rw[e];exact hs⟩,⟨_,[],rfl,?_,rfl⟩,by simp[Value.oneCell'],rfl⟩
   show Value.string s= .string ⟨⟨s.data.toList⟩⟩;congr 1
  .cases LV
 | .sl e,t,fuel,cs,x,LV,h=>by
  unfold QL at LV;split at LV
  .rename_i A ht;simp only[Bv,E_,CL] at LV;obtain⟨⟨hce,hpos⟩,aK3⟩:=LV;rcases DataW.trod_slice ht h with⟨rfl,_⟩|⟨a,len,cap,elems,rest,n,_,rfl,_,_,hl,hm,hlen,c,hsp,_⟩
   .exact⟨[.slnil],.inl rfl,⟨_,[],rfl,rfl,rfl⟩,by simp[Value.oneCell'],rfl⟩
   .have spot:0<cap->a.spot=none:=λhc=>by
     have ha:a.add 0=a:=by simp[Addr.add]
     rcases Jp len with h0|h0
     .obtain⟨KC,L0⟩:=hsp rfl;have:=L0 0 Ab;rw[Ak (Ab:0<rest.length)] at this;have z:(len+0)*P.cellsOf A=0:=by rw[h0];simp
      rw[z,ha] at this;obtain⟨vs,hv,_⟩:=Tq.1 this;exact QZ hv Ab
     .have:=c 0 h0;rw[Ak (Ab:0<elems.length)] at this;rw[MH,ha] at this;obtain⟨vs,hv,_⟩:=Tq.1 this;exact QZ hv Ab
    obtain⟨AD,qF,mO⟩:=UL (p:=λi (r:List Aa)=>aN e r/\r.length=Ty.size e/\C6 (Gy W) r a.block (a.off+i*Ty.size e)) len λi hi=>by
     have:=c i hi;rw[Ak (Ab:i<elems.length)] at this;obtain⟨vs,hv,hd⟩:=Tq.1 this;obtain⟨r,m,g,d,l⟩:=dN e aK3 hd;refine⟨r,m,l,C6.Hd λj y hj=>?_⟩;obtain⟨u,hu,q⟩:=g.get hj;obtain⟨_,hvl,v⟩:=World.cells?_some hv;have aF:j<P.cellsOf A:=by have:=(Al.1 hu).1;omega
     have hc:=v j aF;rw[hu] at hc;have rE:a=⟨a.block,a.off,none⟩:=by have:=spot Ab;cases a;simp_all
     have ND:(a.add (i*P.cellsOf A)).add j=⟨a.block,a.off+i*Ty.size e+j,none⟩:=by rw[hce];generalize a.block=b at*;generalize a.off=o at*;subst rE;rw[Addr.add_lit,Addr.add_lit]
     rw[ND] at hc;exact⟨u,TN hc (d u (Cz hu)),q⟩
    refine⟨[.sl (Ty.size e) AD],.inr ⟨AD,rfl,Ab,λr hr=>?_⟩,⟨_,[],rfl,⟨a,cap,by rw[qF],Ab,?_,E9.Hd λi r hr=>?_⟩,rfl⟩,by simp[Value.oneCell'],rfl⟩;.obtain⟨i,hi⟩:=CU hr;exact(mO i r hi).1
    .rcases Jp cap with h0|h0
     .exact .inr h0
     .exact .inl (spot h0)
    .exact⟨(mO i r hr).2.1,(mO i r hr).2.2⟩
  .cases LV
 | .st fs,t,fuel,cs,x,LV,h=>by
  unfold QL at LV;split at LV
  .rename_i fields ht;simp only[Bv,E_] at LV;obtain⟨hct,hf⟩:=LV;obtain⟨xs,n,_,_,hcl,B,cR⟩:=DataW.trod_struct ht h;obtain⟨as,m,g,d,l⟩:=UM fs (fields:=fields.toList) (off:=0) (cs:=cs) (n:=n) hf (λi f hi=>by
    have:=cR i f (by simpa using hi);have hlt:i<fields.size:=by have:=(Al.1 hi).1;simpa using this
    rw[Ak (Ab:i<xs.length)] at this;exact⟨_,this⟩) (by rw[hcl,hct];omega)
   have D:(cs.drop 0).take (Ty.M2 fs)=cs:=by rw[Ky];exact AF (by rw[hcl,hct];exact Ag _)
   rw[D] at g d;exact⟨as,m,g,d,l⟩
  .cases LV
def UM:∀(tys:List Ty) {fields:List Field} {off:Nat} {cs:List Value} {n:Nat},PI P tys fields off=true->
  (∀(i:Nat) (f:Field),fields[i]?=some f->∃y,DataW.trod enc P W 0 (λ_=>true) true n f.type ((cs.drop f.offset).take (P.cellsOf f.type))=some y)->off+Ty.M2 tys<=cs.length->
  ∃as,g_ tys as/\Bj (Gy W) as ((cs.drop off).take (Ty.M2 tys))/\(∀u∈(cs.drop off).take (Ty.M2 tys),u.oneCell'=true)/\as.length=Ty.M2 tys
 |[],fields,off,cs,n,LV,h,hl=>by refine⟨[],rfl,?_,?_,rfl⟩<;>simp[Ty.M2,Bj]
 |ty::tys,fields,off,cs,n,LV,h,hl=>by
  cases fields with
  |nil=>simp[PI] at LV
  |cons f fs=>
   simp only[PI,Bv,E_] at LV;obtain⟨⟨⟨ho,hc⟩,Z7⟩,q_⟩:=LV;obtain⟨y,hy⟩:=h 0 f rfl;rw[ho,hc] at hy;obtain⟨as,m,l,k,j⟩:=dN ty Z7 hy;simp only[Ty.M2] at hl;obtain⟨bs,e,d,c,b⟩:=UM tys q_ (λi g hi=>h (i+1) g (by simpa using hi)) Ab;have o:(cs.drop off).take (Ty.M2 (ty::tys))=(cs.drop off).take (Ty.size ty)++(cs.drop (off+Ty.size ty)).take (Ty.M2 tys):=by simp only[Ty.M2];rw[aAb,El]
   rw[o];refine⟨as++bs,⟨as,bs,rfl,m,e⟩,l.append d,λu hu=>?_,by simp[j,b,Ty.M2]⟩;rcases Ax.1 hu with hu|hu
   .exact k u hu
   .exact c u hu
end
def dO{ty:Ty}{t:TypeId}{v:Value}{base:Nat}(LV:QL P ty t=true)(hv:Value.okWide P W .any base t v):if ty.aCh then∃cs,v= .agg cs else v.cells=#[v]:=by
 cases ty with
 |st fs=>
  unfold QL at LV;split at LV;.rename_i fields ht;unfold Value.okWide at hv;rw[ht] at hv;obtain⟨cs,e,_⟩:=hv;exact⟨cs,e⟩
  .cases LV
 |_=>
  unfold QL at LV;split at LV;.rename_i ht;unfold Value.okWide at hv;rw[ht] at hv;simp only[Cell.okWide,ht,Cell.ok] at hv;cases v<;>first|rfl|exact hv.elim
  .cases LV
def aO:∀{tys:List Ty} {ts:List TypeId} {vs:List Value} {ds:List (DataW H)} {ps:List MemPlace} {base:Nat},DataW.TrodAll enc P W 0 (λ_=>true) true ts vs ds ps->tys.length=ts.length->(∀(i:Nat) (ty:Ty) (t:TypeId),tys[i]?=some ty->ts[i]?=some t->QL P ty t=true)->
  (∀(i:Nat) (t:TypeId) (v:Value),ts[i]?=some t->vs[i]?=some v->Value.okWide P W .any base t v)->∃as,V6 tys as/\Bj (Gy W) as vs
 |[],[],[],[],_,_,_,_,_,_=>⟨[],rfl,rfl⟩
 |ty::tys,t::ts,v::vs,d::ds,ps,base,⟨p,q,⟨fuel,h1⟩,h2,_⟩,hl,LV,Rt=>by
  have Z7:=LV 0 ty t rfl rfl;obtain⟨cells,f,b,k,l⟩:=dN ty Z7 h1;obtain⟨bs,j,g⟩:=aO h2 (by simpa using hl) (λi ty t h h'=>LV (i+1) ty t (by simpa using h) (by simpa using h')) (λi t v h h'=>Rt (i+1) t v (by simpa using h) (by simpa using h'));have hc:=dO Z7 (Rt 0 t v rfl rfl);have:∃a,sE ty a/\BR (Gy W) a v:=by
   by_cases HT:ty.aCh=true;.rw[Af HT] at hc;obtain⟨us,rfl⟩:=hc;exact⟨.agg cells,(by unfold sE;rw[Af HT];exact⟨cells,rfl,f⟩),us,rfl,by simpa[Value.cells] using b,by simpa[Value.cells] using k⟩
   .rw[Ad HT] at hc;rw[hc] at b;obtain⟨u,us,e,hu,hnil⟩:∃c Ha,cells=c::Ha/\BR (Gy W) c v/\Ha=[]:=by
     cases cells with
     |nil=>cases b
     |cons c Ha=>obtain⟨u,DR,e,h1,h2⟩:=b;simp at e;obtain⟨rfl,rfl⟩:=e;exact⟨c,Ha,rfl,h1,by cases Ha with|nil=>rfl|cons _ _=>obtain⟨_,_,e,_⟩:=h2;cases e⟩
    subst hnil;subst e;exact⟨u,(by unfold sE;rw[Ad HT];exact f),hu⟩
  obtain⟨a,ha,hr⟩:=this;exact⟨a::bs,⟨a,bs,rfl,ha,j⟩,⟨v,vs,rfl,hr,g⟩⟩
 |[],_::_,_,_,_,_,_,hl,_,_=>by simp at hl
 |_::_,[],_,_,_,_,_,hl,_,_=>by simp at hl
 |[],[],_::_,_,_,_,h,_,_,_=>by cases h
 |[],[],[],_::_,_,_,h,_,_,_=>by cases h
 |_::_,_::_,[],_,_,_,h,_,_,_=>by cases h
 |_::_,_::_,_::_,[],_,_,h,_,_,_=>by cases h
def XF{W':World}{may:MemPlace->Prop}(h1:W'.os=W.os)(h2:W'.output=W.output)(hb:∀i,i<W.heap.size->W'.heap[i]?=W.heap[i]?):W.keptBut W' may:=by
 refine⟨h1,h2,λi hi=>?_⟩;rw[hb i hi];split;.rename_i c t fr c' t' fc d b;rw[d] at b;cases b;exact⟨rfl,rfl,rfl,λ_ _=>rfl⟩
 .rename_i d b;rw[d] at b;cases b;exact .inr ⟨rfl,rfl⟩
 .rfl
def Q0(hl:laidOutB P=true){W':World}(hb:RowKit.Below W.heap.size W W'):∀{ts:List TypeId} {vs:List Value} {ds:List (DataW H)} {ps:List MemPlace},(∀t∈ts,P.readableRec t=true/\t<P.types.size)->
  DataW.TrodAll enc P W 0 (λ_=>true) true ts vs ds ps->(∀x∈ps,x.block<W.heap.size)->DataW.TrodAll enc P W' 0 (λb=>decide (b<W.heap.size)) true ts vs ds ps
 |[],[],[],ps,_,h,_=>h
 |t::ts,v::vs,d::ds,ps,cW,⟨p,q,h1,h2,e⟩,hlt=>by subst e;have ht:=cW t AH;exact⟨p,q,RowKit.Below.trod hl ht.1 ht.2 h1 hb λx hx=>hlt x (CA _ hx),Q0 hl hb (λt' h'=>cW t' (by simp[h'])) h2 λx hx=>hlt x (BW _ hx),rfl⟩
 |[],[],_::_,_,_,h,_=>by cases h
 |[],_::_,_,_,_,h,_=>by cases h
 |_::_,[],_,_,_,h,_=>by cases h
 |_::_,_::_,[],_,_,h,_=>by cases h
end
def dQ{C:F8}(hm:C.P.follows .mixedOrders=true)(sx:∀g cs,C.Hb g=some cs->cs.all Aa.MQ=true)(n:dM C)(hl:laidOutB C.P=true){f:FuncId}{fn:Func}{rt:TypeId}(l:f<=99999)(k:fn.resultTypes=#[rt])(m:C.P.underlying rt=some .bool){tys:List Ty}(hlen:tys.length=fn.params.size)
  (aK4:∀(i:Nat) (ty:Ty) (t:TypeId),tys[i]?=some ty->fn.params[i]?=some t->QL C.P ty t=true) (aFL:∀t∈fn.params.toList,C.P.readableRec t=true/\t<C.P.types.size)
  (Jl:∀as,V6 tys as->Ev C f as [] λr _=>r= .bool true) {s:ChangeSpec} (c:s.vars=[])
  {H:Type} (Ë:∀ds:List (DataW H),ds.length=fn.params.size->s.fn H ds={results:=[.lit (.bool true)],args:=ds})
  {enc:TypeId×Value->H} {W:World} {base:Nat} {args:Array Value} {ds gs:List (DataW H)} {before:List MemPlace} (hg:∀g cs,C.Hb g=some cs->C6 (Gy W) cs g 0)
  (Rt:∀(j:Nat) (t:TypeId) (v:Value),fn.params[j]?=some t->args[j]?=some v->Value.okWide C.P W .any base t v) (hW:DataW.Whole enc C.P fn.params.toList s.vars false W args.toList ds gs before):
  Calls C.P f args W λe W'=>∃v,e= .returned v/\s.post enc C.P fn false true false false W args v W':=by
 have u:=hW;have hlt:=hW.lt;obtain⟨p,q,z,y,rfl,hfz,K_⟩:=hW;rw[c] at y;have o:gs=[]/\q=[]:=by
  cases gs with
  |nil=>exact⟨rfl,y⟩
  |cons _ _=>cases y
 obtain⟨rfl,rfl⟩:=o;obtain⟨as,ZE,O8⟩:=aO z (by simpa using hlen) (λi ty t h h'=>aK4 i ty t h (by simpa using h')) (λi t v h h'=>Rt i t v (by simpa using h) (by simpa using h'));have rZ:ds.length=fn.params.size:=by
  have key:∀{ts:List TypeId} {vs:List Value} {ds:List (DataW H)} {ps:List MemPlace},DataW.TrodAll enc C.P W 0 (λ_=>true) true ts vs ds ps->ds.length=ts.length:=by
   intro ts;induction ts with
   |nil=>intro vs ds ps h;cases vs<;>cases ds<;>first|rfl|cases h
   |cons t ts ih=>
    intro vs ds ps h;cases vs with
    |nil=>cases h
    |cons v vs=>
     cases ds with
     |nil=>cases h
     |cons d ds=>obtain⟨_,_,_,h2,_⟩:=h;simp[ih h2]
  simpa using key z
 have VZ:=(Jl as ZE).calls hm sx n (sy W) hg O8;rw[show EF f=f from Af l] at VZ;refine VZ.mono λe W' he=>?_;cases e with
 |returned v=>
  obtain⟨r,h',A,rfl,hi,Kn,hv⟩:=he;have hvb:v= .bool true:=hv;subst hvb;have hold:∀i,i<W.heap.size->W'.heap[i]?=W.heap[i]?:=λi qx=>(Kn.Og i qx λid h0=>by cases h0).1;have b:RowKit.Below W.heap.size W W':=⟨Kn.os,Kn.tape,Kn.output,Kn.size,hold⟩;refine⟨_,rfl,ds,[],p++[],[],p,[],u,?_,?_,?_,XF Kn.os Kn.output hold,λh0=>by cases h0⟩;.rw[By,Ë ds rZ,k];exact⟨[],[],RowKit.shut_bool m true,rfl,rfl⟩
  .rw[By,Ë ds rZ];exact Q0 hl b aFL z λx hx=>hlt x (by simpa using hx)
  .rw[By,Ë ds rZ,c];rfl
 |_=>exact he.elim
end Go.Am
end
