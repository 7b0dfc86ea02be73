/- Lemmas -/
import Derived.Scope
import Derived.Test.YtjboelmdplaenaaGreatDoorQ7
import Derived.Carry
import Derived.ReadAgain
set_option linter.unusedVariables false
set_option linter.unusedSimpArgs false
section
namespace Go.Am
open Go
def Kpt (x y:Slot):Prop:=
 match x with
 | .box ver cs ow=>∃ver' cs' ow',y= .box ver' cs' ow'∧ver≤ver'∧(ver'=ver→cs'=cs∧ow'=ow)
 | .lref t o=>y= .lref t o∨y= .undef
 |x=>y=x
theorem Kpt.refl (x:Slot):Kpt x x:=by
 cases x with
 |box ver cs ow=>exact⟨ver,cs,ow,rfl,Nat.le_refl _,λ_=>⟨rfl,rfl⟩⟩
 |lref t o=>exact .inl rfl
 |_=>rfl
theorem Kpt.trans {x y z:Slot} (h:Kpt x y) (k:Kpt y z):Kpt x z:=by
 cases x with
 |box ver cs ow=>
  obtain⟨v1,c1,o1,rfl,h1,h2⟩:=h;obtain⟨v2,c2,o2,rfl,k1,k2⟩:=k;refine⟨v2,c2,o2,rfl,Nat.le_trans h1 k1,λe=>?_⟩
  grind
 |lref t o=>
  rcases h with rfl|rfl
  ·exact k
  ·exact .inr k
 |_=>rw[show y=_ from h] at k;exact k
def Only (W:List Nat) (σ τ:Env):Prop:=τ.length=σ.length∧∀s,s∉W→Kpt (σ.at s) (τ.at s)
theorem Only.refl (W:List Nat) (σ:Env):Only W σ σ:=⟨rfl,λ_ _=> .refl _⟩
theorem Only.trans {W:List Nat} {σ τ ρ:Env} (h:Only W σ τ) (k:Only W τ ρ):Only W σ ρ:=⟨k.1.trans h.1,λs hs=>(h.2 s hs).trans (k.2 s hs)⟩
theorem Only.mono {W W':List Nat} {σ τ:Env} (h:Only W σ τ) (hw:∀s∈W,s∈W'):Only W' σ τ:=⟨h.1,λs hs=>h.2 s λhm=>hs (hw s hm)⟩
theorem Only.set {W:List Nat} {σ:Env} {s:Nat} {x:Slot} (hs:s∈W):Only W σ (σ.set s x):=
 ⟨by simp,λt ht=>by rw[Env.at_set_ne λe=>ht (by rw[←e];exact hs)];exact .refl _⟩
theorem Only.put {W:List Nat} {σ:Env} {d:Option Nat} {x:Slot} (hs:∀s∈d.toList,s∈W):Only W σ (σ.put d x):=by
 cases d with
 |none=>exact .refl _ _
 |some d=>exact .set (hs d (by simp))
section
variable {C:Ctx} {fid:FuncId} {ops:List Oper} {run:IT→AHeap→Option Res} {σ σ':Env} {h h':AHeap} {W:List Nat}
theorem Only.drop (σ:Env) (ds:List Nat):Only W σ (σ.drop ds):=by
 refine⟨Env.length_drop σ ds,λs _=>?_⟩;rw[Env.at_drop]
 cases hx:σ.at s with
 |lref t o=>
  simp only
  split
  ·exact .inr rfl
  ·exact .inl rfl
 |_=>exact .refl _
theorem only_of_wf {r:OpR} {ds:List Nat} (hd:r.does C run (σ.drop ds) h σ' h') (hw:∀s∈r.wf,s∈W):Only W σ σ':=by obtain⟨ws,rfl,h1,_⟩:=does_puts hd;refine(Only.drop σ ds).trans ⟨Env.length_puts ws _,λs hs=>?_⟩;rw[Env.at_puts_out ws _ s λp hp e=>hs (hw s (by rw[←e];exact h1 p hp))];exact .refl _
theorem moveOp_wf {x:Operand} {d:Nat} {take:Bool} {r:OpR} (h:moveOp C σ x d take=some r):∀s∈r.wf,s=d∨(take=true∧x= .tmp s):=by
 unfold moveOp at h;split at h
 ·cases h;simp[OpR.wf]
 ·cases h;simp[OpR.wf]
 ·split at h
  ·rename_i ht
   cases h
   intro s hs;simp only[OpR.wf,List.map_append,List.mem_append] at hs;rcases hs with hs|hs
   ·revert hs;generalize hX:takeFrom _ _=tf;intro hs;unfold takeFrom at hX
    grind
   ·grind
  ·cases hc:copySlot _ with
   |none=>rw[hc] at h;cases h
   |some sl=>rw[hc] at h;cases h;simp[OpR.wf]
 ·cases hc:copySlot _ with
  |none=>rw[hc] at h;cases h
  |some sl=>rw[hc] at h;cases h;simp[OpR.wf]
 ·cases h
theorem demoteOf_tmp {x:Operand} {p:Nat×AVal} (h:demoteOf σ x=some p):x= .tmp p.1:=by
 cases x with
 |tmp t=>
  simp only[demoteOf] at h
  cases hx:σ.at t with
  |own v=>rw[hx] at h;cases h;rfl
  |_=>rw[hx] at h;cases h
 |_=>cases h
theorem boxOp_wf {t:TypeId} {v:AVal} {d:Nat} {r:OpR} (h:boxOp C fid t v d=some r):r.wf=[d]:=by
 unfold boxOp at h;split at h
 ·cases h
 ·split at h
  ·cases h
  ·split at h<;>(cases h;rfl)
theorem captures_tmps:∀{xs:List Operand} {vs:List AVal} {fz:List (Nat×List AVal)},captures C σ xs=some (vs,fz)→∀p∈fz,p.1∈tmpsOf xs
 |[],vs,fz,hc=>by cases hc;simp
 |x::xs,vs,fz,hc=>by
  unfold captures at hc;split at hc
  ·cases hc
  ·rename_i vs' fz' hxs;have ih:=captures_tmps hxs;have up:∀p∈fz',p.1∈tmpsOf (x::xs):=λp hp=>by obtain⟨y,hy,he⟩:=List.mem_filterMap.1 (ih p hp);exact List.mem_filterMap.2 ⟨y,List.mem_cons_of_mem _ hy,he⟩
   split at hc
   ·rename_i s ver cs ow hs;split at hc
    ·cases hc
    ·cases hc
     intro p hp;rcases List.mem_cons.1 hp with rfl|hp
     ·simp[tmpsOf]
     ·exact up p hp
   ·grind
   ·cases hc
theorem op_only {o:Oper} {r:OpR} (hc:classify C fid ops σ o=some r) (hd:r.does C run (σ.drop r.news) h σ' h'):Only (opWrites ops o) σ σ':=by
 have hdst:∀s∈o.dst.toList,s∈opWrites ops o:=λs hs=>List.mem_append_left _ hs
 have hwf:(∀s∈r.wf,s∈opWrites ops o)→Only (opWrites ops o) σ σ':=only_of_wf hd
 have hdd:r.wf=o.dst.toList→Only (opWrites ops o) σ σ':=λe=>hwf (by rw[e];exact hdst)
 have hamem:∀{m x},amem m o.dst x=some r→Only (opWrites ops o) σ σ':=λ{m x} he=>by
  obtain⟨_,_,rfl⟩:=amem_some he
  exact hdd rfl
 have haop:∀{p x},aop p o.dst x=some r→Only (opWrites ops o) σ σ':=λ{p x} he=>by
  obtain⟨args,_,rfl⟩:=aop_some he
  exact hdd (by simp[OpR.wf])
 unfold classify at hc
 split at hc
 ·rename_i x ho
  split at hc
  ·rename_i d hdo
   refine hwf λs hs=>?_
   rcases moveOp_wf hc s hs with rfl|⟨ht,rfl⟩
   ·exact hdst s (by rw[hdo];simp)
   ·refine List.mem_append_right _ ?_
    simp[ho,hdo,ht]
  ·cases hc
 ·rename_i x ho
  split at hc
  ·rename_i d hdo
   refine hwf λs hs=>?_
   rcases moveOp_wf hc s hs with rfl|⟨ht,rfl⟩
   ·exact hdst s (by rw[hdo];simp)
   ·refine List.mem_append_right _ ?_
    simp[ho]
  ·cases hc
 ·rename_i c x y ho
  split at hc
  ·rename_i d _ hdo
   refine hwf λs hs=>?_
   rcases moveOp_wf hc s hs with rfl|⟨ht,rfl⟩
   ·exact hdst s (by rw[hdo];simp)
   ·cases ht
  ·rename_i d _ hdo
   refine hwf λs hs=>?_
   rcases moveOp_wf hc s hs with rfl|⟨ht,rfl⟩
   ·exact hdst s (by rw[hdo];simp)
   ·cases ht
  ·exact haop hc
 ·split at hc
  ·rename_i d z hdo hz
   split at hc
   ·split at hc
    ·cases hc;exact hdd (by rw[hdo];rfl)
    ·cases hc
   ·exact hdd (by rw[boxOp_wf hc,hdo];rfl)
  ·cases hc
 ·split at hc
  ·rename_i d v hdo hz
   exact hdd (by rw[boxOp_wf hc,hdo];rfl)
  ·cases hc
 ·split at hc
  ·split at hc
   ·exact haop hc
   ·cases hc
  ·cases hc
 ·split at hc
  ·split at hc
   ·split at hc
    ·split at hc
     ·cases hc;exact hdd (by simp[OpR.wf])
     ·cases ha:opVals C σ _ with
      |none=>rw[ha] at hc;cases hc
      |some args=>rw[ha] at hc;cases hc;exact hdd (by simp[OpR.wf])
    ·cases hc
   ·cases hc
  ·cases hc
 ·split at hc
  ·rename_i d hdo
   unfold loadOp at hc
   split at hc
   ·cases hc;exact hdd (by rw[hdo];rfl)
   ·rename_i s off ver cs ow ht ha
    split at hc
    ·simp only at hc
     split at hc
     ·cases hc
      rw[noNews (by simp)] at hd
      obtain⟨rfl,rfl⟩:=hd
      have hs:σ.at s= .box ver cs ow:=by
       unfold addrOf at ha
       split at ha
       ·rename_i hs;cases ha;exact opSlot_tmp hs
       ·split at ha
        ·rename_i hb;cases ha;exact hb
        ·cases ha
       ·exact absurd ha (by cases hv:Slot.value? _<;>simp)
       ·cases ha
      refine⟨by simp[Env.drop,Env.puts],λt htW=>?_⟩
      have htd:t≠d:=λe=>htW (hdst t (by rw[hdo,e];simp))
      have hls:s<σ.length:=Env.at_lt (by rw[hs];simp)
      show Kpt (σ.at t) (Env.at ((σ.set s _).set d _) t)
      rw[Env.at_set_ne (λe=>htd e.symm)]
      by_cases hts:s=t
      ·subst hts
       rw[Env.at_set_self hls,hs]
       exact⟨_,_,_,rfl,Nat.le_succ _,λe=>absurd e (by omega)⟩
      ·rw[Env.at_set_ne hts];exact .refl _
     ·cases hc;exact hdd (by rw[hdo];rfl)
    ·cases hc
   ·split at hc
    ·cases hc;exact hdd (by rw[hdo];rfl)
    ·cases hc
   ·cases hc
  ·cases hc
 ·rename_i t x y ho
  split at hc
  ·rename_i hdo
   unfold storeOp at hc
   split at hc
   ·cases hc;exact hwf (by simp[OpR.wf])
   ·rename_i m sh s off ver cs ow v hsz hsh ha hv
    split at hc
    ·cases hc
     obtain⟨_,rfl,rfl⟩:=hd
     have hs:σ.at s= .box ver cs ow:=by
      unfold addrOf at ha
      split at ha
      ·rename_i hs;cases ha;exact opSlot_tmp hs
      ·split at ha
       ·rename_i hb;cases ha;exact hb
       ·cases ha
      ·exact absurd ha (by cases hv:Slot.value? _<;>simp)
      ·cases ha
     have hdem:∀(D:Option (Nat×AVal)),(∀p,D=some p→p.1∈opWrites ops o∧p.1≠s)→∀X:List AVal×List Nat,Only (opWrites ops o) σ ((σ.demote D).set s (.box (ver+1) X.1 X.2)):=by
      intro D hD X
      refine⟨by cases D<;>simp[Env.demote],λt htW=>?_⟩
      have hlen:s<(σ.demote D).length:=by
       have:s<σ.length:=Env.at_lt (by rw[hs];simp)
       cases D<;>simpa[Env.demote] using this
      by_cases hts:s=t
      ·subst hts
       rw[Env.at_set_self hlen,hs]
       exact⟨_,_,_,rfl,Nat.le_succ _,λe=>absurd e (by omega)⟩
      ·rw[Env.at_set_ne hts]
       cases D with
       |none=>exact .refl _
       |some p=>
        obtain⟨k1,k2⟩:=hD p rfl
        simp only[Env.demote]
        rw[Env.at_set_ne (λe=>htW (by rw[←e];exact k1))]
        exact .refl _
     refine hdem _ (λp hp=>?_) (_,_)
     split at hp
     ·have hy:=demoteOf_tmp hp
      subst hy
      refine⟨List.mem_append_right _ (by simp[ho]),λe=>?_⟩
      simp only[demoteOf] at hp
      rw[e,hs] at hp
      cases hp
     ·cases hp
    ·cases hc
   ·cases hc
  ·cases hc
 ·split at hc
  ·rename_i hdo _ _
   cases hc;exact hdd (by rw[hdo];rfl)
  ·rename_i hdo _ _
   cases hc;exact hdd (by rw[hdo];rfl)
  ·exact haop hc
 ·split at hc
  ·exact haop hc
  ·cases hc
 ·exact haop hc
 ·split at hc
  ·cases hv:opVal C σ _ with
   |none=>rw[hv] at hc;cases hc
   |some v=>rw[hv] at hc;cases hc;exact hdd rfl
  ·split at hc
   ·cases hv:opVal C σ _ with
    |none=>rw[hv] at hc;cases hc
    |some v=>rw[hv] at hc;cases hc;exact hdd rfl
   ·exact haop hc
  ·exact haop hc
  ·cases hc
 ·rename_i fn first captured ho
  split at hc
  ·rename_i d as bs fz hdo ha hb
   cases hc
   refine hwf λs hs=>?_
   simp only[OpR.wf,List.mem_cons] at hs
   rcases hs with rfl|hs
   ·exact hdst s (by rw[hdo];simp)
   ·obtain⟨p,hp,rfl⟩:=List.mem_map.1 hs
    refine List.mem_append_right _ ?_
    simp only[ho]
    exact captures_tmps hb p hp
  ·cases hc
 ·cases hc;exact hdd rfl
 ·split at hc
  ·split at hc
   ·cases hc;exact hdd rfl
   ·cases hc
  ·cases hc
 ·split at hc
  ·split at hc
   ·cases hc;exact hwf (by simp[OpR.wf])
   ·cases hc;exact hwf (by simp[OpR.wf])
   ·cases hc
  ·cases hc
 ·split at hc
  ·split at hc
   ·cases hc;exact hwf (by simp[OpR.wf])
   ·cases hc;exact hwf (by simp[OpR.wf])
   ·cases hc
  ·cases hc
 ·split at hc
  ·split at hc
   ·cases hc;exact hdd rfl
   ·cases hc;exact hdd rfl
   ·cases hc
  ·cases hc
 ·split at hc
  ·split at hc
   ·exact hamem hc
   ·cases hc
  ·cases hc
 ·split at hc
  ·cases hc
  ·exact hamem hc
  ·cases hc
 ·split at hc
  ·split at hc<;>first|exact hamem hc|cases hc
  ·cases hc
 ·split at hc
  ·rename_i hdo
   exact hamem (by rw[hdo];exact hc)
  ·cases hc
 ·split at hc
  ·exact haop hc
  ·split at hc
   ·split at hc
    ·exact hamem hc
    ·exact haop hc
   ·cases hc
  ·cases hc
 ·split at hc
  ·rename_i off sh d hf hdo
   split at hc
   ·cases hc;exact hdd (by rw[hdo];rfl)
   ·cases hc;exact hdd (by rw[hdo];rfl)
   ·exact haop (by rw[hdo];exact hc)
  ·cases hc
 ·split at hc
  ·exact haop hc
  ·cases hc
 ·split at hc
  ·split at hc
   ·exact haop hc
   ·cases hc
  ·split at hc
   ·split at hc
    ·cases hc
    ·exact haop hc
   ·cases hc
  ·cases hc
 ·split at hc
  ·exact haop hc
  ·split at hc
   ·exact haop hc
   ·cases hc
  ·cases hc
 ·exact haop hc
 ·rename_i c ho
  unfold callOp at hc
  split at hc
  ·split at hc
   ·split at hc
    ·exact haop hc
    ·exact haop hc
    ·cases hc
   ·cases hc
  ·rename_i hcl
   split at hc
   ·rename_i t t' s x h0 h1 hargs
    have hdem:∀p,demoteOf σ s=some p→p.1∈opWrites ops o:=λp hp=>by
     have:=demoteOf_tmp hp
     subst this
     refine List.mem_append_right _ ?_
     simp only[ho,hcl,hargs]
     simp[tmpsOf]
    split at hc
    all_goals first
     |(cases hc;done)
     | (split at hc
        · split at hc
          · split at hc
            · split at hc
              · split at hc
                · cases hc
                  refine hwf fun q hq => ?_
                  simp only [OpR.wf, List.mem_append] at hq
                  rcases hq with hq | hq
                  · exact hdst q hq
                  · cases hds : demoteOf σ s with
                    | none => rw [hds] at hq; simp at hq
                    | some p => rw [hds] at hq; simp at hq; rw [hq]; exact hdem p hds
                · split at hc
                  · cases hc
                    refine hwf fun q hq => ?_
                    simp only [OpR.wf, List.mem_append] at hq
                    rcases hq with hq | hq
                    · exact hdst q hq
                    · cases hds : demoteOf σ s with
                      | none => rw [hds] at hq; simp at hq
                      | some p => rw [hds] at hq; simp at hq; rw [hq]; exact hdem p hds
                  · cases hc
                    refine hwf fun q hq => ?_
                    simp only [OpR.wf, List.mem_append] at hq
                    rcases hq with hq | hq
                    · exact hdst q hq
                    · cases hds : demoteOf σ s with
                      | none => rw [hds] at hq; simp at hq
                      | some p => rw [hds] at hq; simp at hq; rw [hq]; exact hdem p hds
              · split at hc
                · cases hc
                  refine hwf fun q hq => hdst q (by simpa [OpR.wf] using hq)
                · cases hc
            · cases hc
          · cases hc
        · cases hc)
   ·cases hc
  ·split at hc
   ·split at hc
    all_goals first
     |(cases hc;done)
     | (split at hc
        · exact hamem hc
        · cases hc)
   ·cases hc
  ·split at hc
   ·split at hc
    ·split at hc
     ·exact hamem hc
     ·cases hc
    ·cases hc
   ·cases hc
  ·split at hc
   ·exact haop hc
   ·cases hc
  ·split at hc
   ·exact haop hc
   ·cases hc
  ·split at hc
   ·split at hc
    ·split at hc
     ·exact hamem hc
     ·cases hc
    ·cases hc
   split at hc
   ·cases ha:opVals C σ c.args.toList with
    |none=>rw[ha] at hc;cases hc
    |some args=>
     rw[ha] at hc
     simp only[Option.map_some,Option.some.injEq] at hc
     split at hc<;>(cases hc;exact hdd rfl)
   ·cases hc
  ·split at hc
   ·cases hc;exact hdd rfl
   ·cases hc
  ·cases hc
 ·cases hc
end
end Go.Am
end
section
namespace Go.Am
open Go
def aexit:AExit→Exit
 | .normal=> .normal
 | .exit i=> .exit i
 | .ret=> .ret
theorem nodup_length:∀{l m:List Nat},l.Nodup→(∀x∈l,x∈m)→l.length≤m.length
 |[],_,_,_=>Nat.zero_le _
 |x::l,m,hn,hs=>by
  have h1:=nodup_length (m:=m.erase x) (List.nodup_cons.1 hn).2 λy hy=>(List.mem_erase_of_ne λe=>(List.nodup_cons.1 hn).1 (by rw[←e];exact hy)).2 (hs y (by simp[hy]))
  grind
theorem wp_loop_fuel {P:Program} {c:Code} {Q:Exit→Act→World→Prop} (T:Nat→Act→World→Prop) (round:∀n a w,T n a w→c.wp P (Exit.then (λa' w'=>∃m,m<n∧T m a' w') Q) a w) (n:Nat) (a:Act) (w:World) (h0:T n a w):(Code.loop c).wp P Q a w:=by
 intro b k cs;have key:∀n a w,T n a w→∃e a' w',Q e a' w'∧Arrives P (lone (b.at a (.code c:: .inLoop c::k)) cs w) b k cs e a' w':=by
  intro n
  induction n using Nat.strongRecOn with
  |_ n ih=>
   intro a w hT;obtain⟨e,a1,w1,hq,harr⟩:=round n a w hT b (.inLoop c::k) cs;by_cases he:e= .normal
   ·subst he;obtain⟨m,hm,hT1⟩:=hq;obtain⟨e2,a2,w2,q2,r2⟩:=ih m hm a1 w1 hT1;exact⟨e2,a2,w2,q2,.of_steps (Go.Steps.trans harr (.one step_inLoop)) r2⟩
   ·exact⟨e,a1,w1,by cases e<;>first|exact hq|exact absurd rfl he,.pass rfl (λ_ _=> .inl he) harr⟩
 obtain⟨e,a',w',hq,harr⟩:=key n a w h0;exact⟨e,a',w',hq,.of_steps (.one step_loop) harr⟩
section
variable {C:Ctx} {γ0 γ:Gh} {w0 w:World} {β:Nat→Nat} {σ:Env} {h:AHeap} {a:Act} {fid:FuncId} {run:IT→AHeap→Option Res}
theorem step_guarded {ops:List Oper} {o:Oper} {K:Env→IT} {R:Res} (hr:IT.step (afun C) run (sxGuarded C fid ops σ o K) h=some R):
  ∃σ1,(σ1=σ∨∃s b,s∈guardSlot ops o∧σ.at s= .val (.bool b)∧σ1=σ.set s (.cst b))∧
   ((guardOf ops σ1 o= .known true∧IT.step (afun C) run (sxOp C fid ops σ1 o K) h=some R)∨(guardOf ops σ1 o= .known false∧IT.step (afun C) run (K (σ1.put o.dst .skip)) h=some R)):=by
 unfold sxGuarded at hr;split at hr
 ·grind
 ·rename_i hg;exact⟨σ,.inl rfl,.inr ⟨hg,hr⟩⟩
 ·rename_i s v want hg;have hgs:s∈guardSlot ops o∧σ.at s= .val v∧∀b,guardOf ops (σ.set s (.cst b)) o= .known (b==want):=by
   unfold guardOf at hg⊢;unfold guardSlot
   cases ho:o.guard with
   |none=>rw[ho] at hg;cases hg
   |some g=>
    obtain⟨j,want'⟩:=g;rw[ho] at hg;simp only at hg⊢
    cases hd:(ops[j]?).bind (·.dst) with
    |none=>rw[hd] at hg;cases hg
    |some s'=>
     rw[hd] at hg;simp only at hg⊢
     cases hx:σ.at s' with
     |val v'=>
      rw[hx] at hg
      cases hg
      refine⟨by simp,hx,λb=>?_⟩;rw[Env.at_set_self (Env.at_lt (by rw[hx];simp))]
     |cst c=>rw[hx] at hg;cases hg
     |skip=>rw[hx] at hg;cases hg
     |_=>rw[hx] at hg;cases hg
  obtain⟨g1,g2,g3⟩:=hgs;simp only[IT.step] at hr
  grind
 ·cases hr
theorem lent_spec (a:Act) {ops:List Oper} {o:Oper}:(∀p∈lent C σ o,∃ver ow,σ.at p.1= .box ver p.2 ow)∧((lent C σ o).map (·.1)).Nodup∧∀p∈lent C σ o,p.1∈opWrites ops o:=by
 have no:∀l:List (Nat×List AVal),l=[]→(∀p∈l,∃ver ow,σ.at p.1= .box ver p.2 ow)∧(l.map (·.1)).Nodup∧∀p∈l,p.1∈opWrites ops o:=by grind
 cases ho:o.op with
 |call c=>
  cases hc:c.callee with
  |value g=>
   cases g with
   |func f=>
    cases hf:frzCallee f with
    |true=>
     cases hx:captures C σ c.args.toList with
     |some q=>
      obtain⟨vs,fz⟩:=q;have e:lent C σ o=fz:=by unfold lent;simp only[ho,hc,hf,hx,if_true]
      rw[e];obtain⟨h1,h2,_⟩:=captures_spec (a:=a) hx;refine⟨h1,h2,λp hp=>List.mem_append_right _ ?_⟩;simp only[ho,hc,hf,if_true];exact captures_tmps hx p hp
     |none=>exact no _ (by unfold lent;simp only[ho,hc,hf,hx,if_true])
    |false=>exact no _ (by unfold lent;simp[ho,hc,hf])
   |_=>exact no _ (by unfold lent;simp only[ho,hc])
  |_=>exact no _ (by unfold lent;simp only[ho,hc])
 |_=>exact no _ (by unfold lent;simp only[ho])
theorem Only.puts {W:List Nat}:∀{l:List (Nat×Slot)} {σ:Env},(∀p∈l,p.1∈W)→Only W σ (σ.puts l)
 |[],σ,_=> .refl _ _
 |(s,x)::l,σ,h=>(Only.set (h (s,x) (by simp))).trans (Only.puts λp hp=>h p (by simp[hp]))
theorem rel_lend {ops:List Oper} {o:Oper} {W:List Nat} (hr:Rel C γ0 w0 γ β σ h a w) (hw:∀s∈opWrites ops o,s∈W):∃γ',Rel C γ0 w0 γ' β (lend C σ o) h a w∧Only W σ (lend C σ o):=by
 obtain⟨h1,h2,h3⟩:=lent_spec a (ops:=ops);obtain⟨γ',_,hr',_⟩:=(hr.drop ((lent C σ o).map (·.1))).freezeAll (λp hp=>by obtain⟨ver,ow,hs⟩:=h1 p hp;exact⟨ver,ow,by rw[Env.at_drop,hs]⟩) h2
 refine⟨γ',hr',(Only.drop σ _).trans (Only.puts λp hp=>?_)⟩
 grind
theorem sim_ops (hS:SimCalls C run) {ops:Array Oper} {Q:Exit→Act→World→Prop} {W:List Nat} {K:Env→IT} {R:Res}:∀(rest:List Oper) (k:Nat) (γ:Gh) (β:Nat→Nat) (σ:Env) (h:AHeap) (a:Act) (w:World),
  ops.toList.drop k=rest→(∀o∈rest,(∀s∈opWrites ops.toList o,s∈W)∧∀s∈guardSlot ops.toList o,s∈W)→IT.step (afun C) run (sxOps C fid ops.toList rest σ K) h=some R→Rel C γ0 w0 γ β σ h a w→
  (∀γ' β' σ' h' a' w',IT.step (afun C) run (K σ') h'=some R→Only W σ σ'→Rel C γ0 w0 γ' β' σ' h' a' w'→Q .normal a' w')→wpOps C.P ops Q (List.range' k rest.length) a w
 |[],k,γ,β,σ,h,a,w,_,_,hrun,hr,hQ=>by simp only[List.length_nil,List.range'_zero,wpOps];exact hQ γ β σ h a w hrun (.refl _ _) hr
 |o::rest,k,γ,β,σ,h,a,w,hk,hW,hrun,hr,hQ=>by
  have ho:ops[k]?=some o:=by
   have:ops.toList[k]?=some o:=by have h0:=congrArg (·[0]?) hk;simpa[List.getElem?_drop] using h0
   simpa using this
  have hk':ops.toList.drop (k+1)=rest:=by have h0:=congrArg (List.drop 1) hk;simpa[List.drop_drop] using h0
  obtain⟨hw1,hw2⟩:=hW o (by simp);simp only[List.length_cons,List.range'_succ,wpOps,ho];obtain⟨γ1,hrL,honL⟩:=rel_lend hr hw1;obtain⟨σ1,hσ1,hcase⟩:=step_guarded hrun;have hr1:Rel C γ0 w0 γ1 β σ1 h a w∧Only W σ σ1:=by
   rcases hσ1 with rfl|⟨s,b,g1,g2,rfl⟩
   ·exact⟨hrL,honL⟩
   ·have h0:=hrL.fr.slots s;rw[g2] at h0;exact⟨hrL.turn h0,honL.trans (.set (hw2 s g1))⟩
  obtain⟨hr1,hon1⟩:=hr1;have next:∀γ' β' σ' h' a' w',IT.step (afun C) run (sxOps C fid ops.toList rest σ' K) h'=some R→Only W σ σ'→Rel C γ0 w0 γ' β' σ' h' a' w'→wpOps C.P ops Q (List.range' (k+1) rest.length) a' w':=λγ' β' σ' h' a' w' hrun' hon hr'=>sim_ops hS rest (k+1) γ' β' σ' h' a' w' hk' (λo ho=>hW o (by simp[ho])) hrun' hr' λγ2 β2 σ2 h2 a2 w2 hr2 hon2 hrel2=>hQ γ2 β2 σ2 h2 a2 w2 hr2 (hon.trans hon2) hrel2
  rcases hcase with⟨hg,hrun1⟩|⟨hg,hrun1⟩
  ·rw[if_pos (guard_wanted hr1 hg)];unfold sxOp at hrun1;split at hrun1
   ·rename_i r hc;obtain⟨σ2,h2,hd,hrun2⟩:=tree_does hrun1;exact .inl (sim_op hS hc hd hr1 λγ' β' a' w' hr'=>next γ' β' σ2 h2 a' w' hrun2 (hon1.trans ((op_only hc hd).mono hw1)) hr')
   ·cases hrun1
  ·rw[if_neg (by rw[guard_wanted hr1 hg];simp)];exact next γ1 β _ h _ w hrun1 (hon1.trans (.put λs hs=>hw1 s (List.mem_append_left _ hs))) (hr1.put λ_ _=>rfl)
theorem asked_only {W:List Nat} {d:Option Nat} {σ σ':Env} (h:Asked d σ σ') (hd:∀s∈d.toList,s∈W):Only W σ σ':=by
 unfold Asked at h
 cases d with
 |none=>simp only at h;rw[h];exact .refl _ _
 |some d=>
  simp only at h;split at h
  ·obtain⟨b,_,rfl⟩:=h;exact .set (hd d (by simp))
  ·rw[h];exact .refl _ _
theorem steps_only {ops:List Oper} {an:List Nat} {W:List Nat} (hW:∀o∈ops,∀s∈opWrites ops o,s∈W) {fl:List Float} {L:List St} {σ σf:Env} {h hf:AHeap} (hs:Steps C fid ops run an fl L σ h σf hf):Only W σ σf:=by
 induction hs with
 |nil=>exact .refl _ _
 |cons h1 _ _ ih=>
  refine Only.trans ?_ ih;obtain⟨o,ho,⟨_,_,_,rfl,rfl⟩|⟨r,σ2,hg,hc,_,hd,_,ha⟩⟩:=h1
  ·exact .put λs hs=>hW o (List.mem_of_getElem? ho) s (List.mem_append_left _ hs)
  ·refine((op_only hc hd).mono λs hs=>hW o (List.mem_of_getElem? ho) s hs).trans (asked_only ha λs hs=>?_);split at hs
   ·exact hW o (List.mem_of_getElem? ho) s (List.mem_append_left _ hs)
   ·grind
theorem sim_region (hm:C.P.follows .mixedOrders=true) (hS:SimCalls C run) {id:Nat} {ops:Array Oper} {draw:Bool} {Q:Exit→Act→World→Prop} {K:Env→IT} {R:Res} (hrun:IT.step (afun C) run (sxRegion C fid ops.toList draw σ K) h=some R) (hr:Rel C γ0 w0 γ β σ h a w)
  (hQ:∀γ' β' σ' h' a' w',IT.step (afun C) run (K σ') h'=some R→Only (ops.toList.flatMap (opWrites ops.toList)++ops.toList.flatMap (guardSlot ops.toList)) σ σ'→Rel C γ0 w0 γ' β' σ' h' a' w'→Q .normal a' w'):(Code.region id ops draw).wp C.P Q a w:=by
 unfold sxRegion at hrun
 cases draw with
 |false=>refine wp_region ?_;have:=sim_ops (W:=ops.toList.flatMap (opWrites ops.toList)++ops.toList.flatMap (guardSlot ops.toList)) hS ops.toList 0 γ β σ h a w rfl (λo ho=>⟨λs hs=>List.mem_append_left _ (List.mem_flatMap.2 ⟨o,ho,hs⟩),λs hs=>List.mem_append_right _ (List.mem_flatMap.2 ⟨o,ho,hs⟩)⟩) hrun hr hQ;simpa[List.range_eq_range'] using this
 |true=>
  simp only[if_true] at hrun;split at hrun
  ·rename_i hdo;obtain⟨L,σf,hf,h1,h2,h3⟩:=draw_steps hrun;refine wp_region_any hm ?_;have hdk:=h2;unfold drawOk at hdk;simp only[List.reverse_nil,List.nil_append,Bool.and_eq_true] at hdk;have hord:Ordered (ancs ops.toList) L:=by have:=drawOk_go hdk.1;rw[List.pairwise_map] at this;exact this
   have hlt:=h1.lt;have hall:∀i,i<ops.size→i∈L.map (·.idx):=λi hi=>by have:=List.all_eq_true.1 hdk.2 i (by simpa using hi);simpa using this
   have hnd:(L.map (·.idx)).Nodup:=by rw[List.Nodup,List.pairwise_map];exact hord.imp λh=>h.1
   have hlen:L.length=ops.size:=by
    have p1:(L.map (·.idx)).length≤(List.range ops.size).length:=nodup_length hnd (λi hi=>by obtain⟨s,hs,rfl⟩:=List.mem_map.1 hi;simpa using hlt s hs)
    have p2:(List.range ops.size).length≤(L.map (·.idx)).length:=nodup_length List.nodup_range λi hi=>hall i (by simpa using hi);simp at p1 p2;omega
   have hon:=steps_only (W:=ops.toList.flatMap (opWrites ops.toList)++ops.toList.flatMap (guardSlot ops.toList)) (λo ho s hs=>List.mem_append_left _ (List.mem_flatMap.2 ⟨o,ho,hs⟩)) h1;refine any_steps hS hdo (λγ' β' a' w' hr'=>hQ γ' β' σf hf a' w' h3 hon hr') ops.size L _ γ β σ h a w.drew hlen h1 hord ⟨by simp,λi hi=>⟨λ_=>hall i hi,λ_=>by simp[Array.getD,hi]⟩,λj hj e _=>?_⟩ hr.drew;exfalso;rcases Nat.lt_or_ge j ops.size with hlt|hge
   ·simp[Array.getD,hlt] at hj
   ·simp[Array.getD,Nat.not_lt.2 hge] at hj
  ·cases hrun
end
end Go.Am
end
section
namespace Go.Am
open Go
def ArgFits (x y:Slot):Prop:=
 (∃u,x.value?=some u∧y= .val u)∨(∃v,x= .own v∧y= .own v)∨∃ver cs ow ver' ow',x= .box ver cs ow∧y= .box ver' cs ow'∧∀o∈ow',o∈ow
theorem Env.at_clear:∀(ws:List Nat) (σ:Env) (s:Nat),(σ.clear ws).at s=if s∈ws then .undef else σ.at s
 |[],σ,s=>by simp[Env.clear]
 |t::ws,σ,s=>by
  rw[Env.clear,Env.at_clear ws];by_cases h:s∈ws
  ·simp[h]
  ·by_cases h2:s=t
   ·subst h2;rw[Env.at_set];by_cases hl:s<σ.length
    ·simp[hl]
    ·have:σ.at s= .undef:=by simp[Env.at,List.getD,hl]
     grind
   ·rw[Env.at_set_ne λe=>h2 e.symm];simp[h,h2]
theorem Env.length_clear:∀(ws:List Nat) (σ:Env),(σ.clear ws).length=σ.length
 |[],σ=>rfl
 |t::ws,σ=>by rw[Env.clear,Env.length_clear ws];simp
section
variable {C:Ctx} {γ0 γ:Gh} {w0 w:World} {β:Nat→Nat} {σ:Env} {h:AHeap} {a:Act} {fid:FuncId} {run:IT→AHeap→Option Res}
theorem ArgFits.rel {B s:Nat} {x y:Slot} {v:Value} (hx:SRel γ β B w s x v) (hf:ArgFits x y):SRel γ β B w s y v:=by
 rcases hf with⟨u,hu,rfl⟩|⟨u,rfl,rfl⟩|⟨ver,cs,ow,ver',ow',rfl,rfl,hsub⟩
 ·exact value_rel hx hu
 ·exact hx
 ·obtain⟨p1,p2,p3,us,e,p4,p5,p6,p7⟩:=hx;exact⟨p1,p2,p3,us,e,p4,p5,p6,λo ho=>p7 o (hsub o ho)⟩
theorem setVec_spec {σs:Env} {G:Env→IT} {R:Res} {vs:List AVal}:∀{l:List (Nat×Sh)} {i:Nat} {σa:Env},vecOf σs l=some (vs.drop i)→σa.length=σs.length→IT.step (afun C) run (setVec vs l i σa G) h=some R→
  ∃σh,IT.step (afun C) run (G σh) h=some R∧σh.length=σa.length∧(∀s,s∉l.map (·.1)→σh.at s=σa.at s)∧(∀s,s∈l.map (·.1)→ArgFits (σs.at s) (σh.at s)∧
   ((∃ver' cs' ow',σh.at s= .box ver' cs' ow'∧verOf (σa.at s)<ver')∨∀ver cs ow,σs.at s≠ .box ver cs ow))
 |[],i,σa,_,_,hr=>⟨σa,hr,rfl,λ_ _=>rfl,by simp⟩
 |(s,sh)::l,i,σa,hv,hl,hr=>by
  have hd:∃v vs',vs.drop i=v::vs'∧vs.drop (i+1)=vs'∧vs.getD i .nilIface=v∧vecOf σs l=some vs'∧
    (match(generalizing:=false) sh,σs.at s with| .val,x=>x.value?| .own,.own v=>some v| .box n ow,.box _ cs ow'=>if cs.length=n∧ow.all (ow'.contains ·) then some (.agg cs) else none|_,_=>none)=some v:=by
   unfold vecOf at hv;simp only at hv;split at hv
   ·rename_i v vs' h1 h2;simp only[Option.some.injEq] at hv;refine⟨v,vs',hv.symm,?_,?_,h2,h1⟩
    ·have:=congrArg (List.drop 1) hv;simpa[List.drop_drop] using this.symm
    ·have:=congrArg (·[0]?) hv;simp only[List.getElem?_cons_zero,List.getElem?_drop,Nat.add_zero] at this;simp[List.getD,←this]
   ·cases hv
  obtain⟨v,vs',hdr,hdr2,hget,hv2,hone⟩:=hd;have hlt:s<σa.length:=by
   rw[hl];refine Env.at_lt λe=>?_;rw[e] at hone
   cases sh<;>simp[Slot.value?] at hone
  have go:∀(y:Slot),ArgFits (σs.at s) y→((∃ver' cs' ow',y= .box ver' cs' ow'∧verOf (σa.at s)<ver')∨∀ver cs ow,σs.at s≠ .box ver cs ow)→IT.step (afun C) run (setVec vs l (i+1) (σa.set s y) G) h=some R→
    ∃σh,IT.step (afun C) run (G σh) h=some R∧σh.length=σa.length∧(∀t,t∉((s,sh)::l).map (·.1)→σh.at t=σa.at t)∧(∀t,t∈((s,sh)::l).map (·.1)→ArgFits (σs.at t) (σh.at t)∧
     ((∃ver' cs' ow',σh.at t= .box ver' cs' ow'∧verOf (σa.at t)<ver')∨∀ver cs ow,σs.at t≠ .box ver cs ow)):=by
   intro y hy hy2 hr';obtain⟨σh,k1,k2,k3,k4⟩:=setVec_spec (l:=l) (i:=i+1) (σa:=σa.set s y) (by rw[hdr2];exact hv2) (by simpa using hl) hr';refine⟨σh,k1,by simpa using k2,λt ht=>?_,λt ht=>?_⟩
   ·simp only[List.map_cons,List.mem_cons,not_or] at ht;rw[k3 t ht.2,Env.at_set_ne λe=>ht.1 e.symm]
   ·by_cases hm:t∈l.map (·.1)
    ·obtain⟨q1,q2⟩:=k4 t hm;refine⟨q1,q2.imp (λ⟨ver',cs',ow',e1,e2⟩=>⟨ver',cs',ow',e1,?_⟩) id⟩;by_cases hts:s=t
     ·subst hts;rw[Env.at_set_self hlt] at e2;rcases hy2 with⟨v1,c1,o1,rfl,h1⟩|hn
      ·simp only[verOf] at e2;omega
      ·rcases q1 with⟨u,_,e⟩|⟨u,_,e⟩|⟨ver,cs,ow,_,_,e,_⟩
       ·rw[e1] at e;cases e
       ·rw[e1] at e;cases e
       ·exact absurd e (hn _ _ _)
     ·rwa [Env.at_set_ne hts] at e2
    ·have hts:t=s:=by simp only[List.map_cons,List.mem_cons] at ht;exact ht.resolve_right hm
     subst hts;rw[k3 t hm,Env.at_set_self hlt];exact⟨hy,hy2⟩
  cases sh with
  |val=>
   simp only[setVec,hget] at hr;have hone':(σs.at s).value?=some v:=by simpa using hone
   refine go (.val v) (.inl ⟨v,hone',rfl⟩) (.inr λver cs ow e=>?_) hr;rw[e] at hone'
   cases hone'
  |own=>
   simp only[setVec,hget] at hr
   cases hx:σs.at s with
   |own u=>
    rw[hx] at hone
    cases hone
    exact go (.own v) (.inr (.inl ⟨v,hx,rfl⟩)) (.inr λver cs ow e=>by rw[hx] at e;cases e) hr
   |_=>rw[hx] at hone;cases hone
  |box n ow=>
   simp only[setVec,hget,IT.step] at hr
   cases hx:σs.at s with
   |box ver cs ow'=>
    rw[hx] at hone;simp only at hone;split at hone
    ·rename_i hcond
     cases hone
     split at hr
     ·rename_i hn;rw[unpack_eq hn] at hr;refine go (.box (verOf (σa.at s)+1) cs ow) (.inr (.inr ⟨ver,cs,ow',_,ow,hx,rfl,λo ho=>?_⟩)) (.inl ⟨_,_,_,rfl,Nat.lt_succ_self _⟩) hr;have:=List.all_eq_true.1 hcond.2 o ho;simpa using this
     ·cases hr
    ·cases hone
   |_=>rw[hx] at hone;cases hone
theorem Rel.weaken (hr:Rel C γ0 w0 γ β σ h a w) {τ:Env} (hl:τ.length=σ.length) (hs:∀s,τ.at s= .undef∨τ.at s=σ.at s∨ArgFits (σ.at s) (τ.at s)):Rel C γ0 w0 γ β τ h a w:=by
 refine⟨hr.inv,⟨by rw[hl];exact hr.fr.size,λs=>?_⟩,hr.acc,hr.defers,hr.glob⟩;have h0:=hr.fr.slots s;rcases hs s with e|e|e
 ·rw[e];trivial
 ·rw[e];exact h0
 ·exact e.rel h0
structure Ends (σ0:Env) (ws:List Nat) (l:List (Nat×Sh)) (σ':Env) (vs:List AVal):Prop where
 vec:vecOf σ' l=some vs
 len:σ'.length=σ0.length
 same:∀s,s∉l.map (·.1)→σ0.at s= .undef∨σ0.at s=σ'.at s
 box:∀s ver cs ow,σ0.at s= .box ver cs ow→∃ver' cs' ow',σ'.at s= .box ver' cs' ow'
theorem keptOk_spec {σ0 σ':Env} {l:List (Nat×Sh)} (hk:keptOk σ0 σ' l=true) {s:Nat} (hs:s∉l.map (·.1)):(∀ver cs ow,σ0.at s= .box ver cs ow→∃cs' ow',σ'.at s= .box ver cs' ow')∧(∀t o,σ0.at s= .lref t o→∃t' o',σ'.at s= .lref t' o'):=by
 have hat:s<σ0.length→(match σ0.at s with
   | .box ver _ _=>(l.map (·.1)).contains s||(match σ'.at s with| .box ver' _ _=>ver'==ver|_=>false)
   | .lref _ _=>(l.map (·.1)).contains s||(match σ'.at s with| .lref _ _=>true|_=>false)
   |_=>true)=true:=λhl=>by
  exact List.all_eq_true.1 hk s (by simpa using hl)
 constructor
 ·intro ver cs ow hx;have:=hat (Env.at_lt (by rw[hx];simp))
  grind
 ·intro t o hx;have:=hat (Env.at_lt (by rw[hx];simp))
  grind
theorem finish_ends {σ0 σh σ':Env} {ws:List Nat} {l:List (Nat×Sh)} {x:AExit} {R:Res} (hfin:IT.step (afun C) run (finish σ0 l x σ') h=some R) (hon:Only ws σh σ') (hlen:σh.length=σ0.length)
  (hin:∀s,s∈ws→σ0.at s= .undef) (hsame:∀s,s∉l.map (·.1)→σ0.at s= .undef∨σ0.at s=σh.at s) (hbox:∀s ver cs ow,σ0.at s= .box ver cs ow→∃ver' cs' ow',σh.at s= .box ver' cs' ow'):
  ∃vs,R=(x,vs,h)∧Ends σ0 ws l σ' vs:=by
 unfold finish at hfin;split at hfin
 ·rename_i hk;split at hfin
  ·rename_i vs hv
   cases hfin
   refine⟨vs,rfl,hv,hon.1.trans hlen,λs hs=>?_,λs ver cs ow hb=>?_⟩
   ·by_cases hw:s∈ws
    ·exact .inl (hin s hw)
    ·rcases hsame s hs with e|e
     ·exact .inl e
     ·right;have hk2:=hon.2 s hw;obtain⟨k1,k2⟩:=keptOk_spec hk hs;rw[e] at k1 k2⊢
      cases hx:σh.at s with
      |box ver cs ow=>
       rw[hx] at hk2;obtain⟨v1,c1,o1,e1,_,e2⟩:=hk2
       grind
      |lref t o=>
       rw[hx] at hk2;rcases hk2 with e1|e1
       ·exact e1.symm
       ·grind
      |_=>rw[hx] at hk2;exact(show σ'.at s=_ from hk2).symm
   ·have hw:s∉ws:=λhw=>by rw[hin s hw] at hb;cases hb
    obtain⟨v1,c1,o1,e1⟩:=hbox s ver cs ow hb;have hk2:=hon.2 s hw;rw[e1] at hk2;obtain⟨v2,c2,o2,e2,_⟩:=hk2;exact⟨v2,c2,o2,e2⟩
  ·cases hfin
 ·cases hfin
theorem Ends.next {σ0 σ':Env} {ws:List Nat} {l:List (Nat×Sh)} {vs:List AVal} (he:Ends σ0 ws l σ' vs) {G:Env→IT} {R:Res} (hr:Rel C γ0 w0 γ β σ' h a w) (hrun:IT.step (afun C) run (setVec vs l 0 σ0 G) h=some R):
  ∃σh,IT.step (afun C) run (G σh) h=some R∧Rel C γ0 w0 γ β σh h a w∧σh.length=σ0.length∧(∀s,s∉l.map (·.1)→σh.at s=σ0.at s)∧(∀s ver cs ow,σ0.at s= .box ver cs ow→∃ver' cs' ow',σh.at s= .box ver' cs' ow'∧(s∈l.map (·.1)→ver<ver')):=by
 obtain⟨σh,k1,k2,k3,k4⟩:=setVec_spec (σs:=σ') (by simpa using he.vec) he.len.symm hrun;refine⟨σh,k1,hr.weaken (k2.trans he.len.symm) λs=>?_,k2,k3,λs ver cs ow hb=>?_⟩
 ·by_cases hm:s∈l.map (·.1)
  ·exact .inr (.inr (k4 s hm).1)
  ·rw[k3 s hm];rcases he.same s hm with e|e
   ·exact .inl e
   ·exact .inr (.inl e)
 ·by_cases hm:s∈l.map (·.1)
  ·obtain⟨_,q⟩:=k4 s hm;obtain⟨v1,c1,o1,e1⟩:=he.box s ver cs ow hb;rcases q with⟨ver',cs',ow',e2,e3⟩|q
   ·exact⟨ver',cs',ow',e2,λ_=>by rw[hb] at e3;exact e3⟩
   ·exact absurd e1 (q _ _ _)
  ·grind
theorem only_behind {σ σ0 σh:Env} {ws W:List Nat} {l:List (Nat×Sh)} (h0:σ0=σ.clear ws) (hv:vecIn l ws σ=true) (hl:σh.length=σ0.length) (h1:∀s,s∉l.map (·.1)→σh.at s=σ0.at s)
  (h2:∀s ver cs ow,σ0.at s= .box ver cs ow→∃ver' cs' ow',σh.at s= .box ver' cs' ow'∧(s∈l.map (·.1)→ver<ver')) (hW:∀s∈ws,s∈W):Only W σ σh:=by
 refine⟨by rw[hl,h0,Env.length_clear],λs hs=>?_⟩;have hws:=λhm=>hs (hW s hm);have e0:σ0.at s=σ.at s:=by rw[h0,Env.at_clear,if_neg hws]
 by_cases hm:s∈l.map (·.1)
 ·obtain⟨p,hp,rfl⟩:=List.mem_map.1 hm;have:=List.all_eq_true.1 hv p hp;simp only[Bool.or_eq_true,List.contains_iff_mem] at this;rcases this with this|this
  ·exact absurd this hws
  ·cases hx:σ.at p.1 with
   |box ver cs ow=>obtain⟨v1,c1,o1,e1,e2⟩:=h2 p.1 ver cs ow (by rw[e0];exact hx);have:=e2 hm;exact⟨v1,c1,o1,e1,by omega,λe=>by omega⟩
   |_=>rw[hx] at this;cases this
 ·rw[h1 s hm,e0];exact .refl _
theorem SimCalls.le {n m:Nat} (h:SimCalls C (IT.run (afun C) n)) (hmn:m≤n):SimCalls C (IT.run (afun C) m):=⟨h.1,λf args h0 r h' hrun=>h.2 f args h0 r h' (IT.run_le hmn hrun)⟩
theorem sim_code (hm:C.P.follows .mixedOrders=true):∀(c:Code) (n:Nat),SimCalls C (IT.run (afun C) n)→∀{K:AExit→Env→IT} {R:Res} {σ:Env} {h:AHeap} {a:Act} {w:World} {γ:Gh} {β:Nat→Nat} {Q:Exit→Act→World→Prop},
  IT.step (afun C) (IT.run (afun C) n) (sxCode C fid c σ K) h=some R→Rel C γ0 w0 γ β σ h a w→
  (∀x γ' β' σ' h' a' w',IT.step (afun C) (IT.run (afun C) n) (K x σ') h'=some R→Only (writesOf c++guardSlots c) σ σ'→Rel C γ0 w0 γ' β' σ' h' a' w'→Q (aexit x) a' w')→c.wp C.P Q a w:=by
 intro c
 induction c with
 |skip=>intro n hS K R σ h a w γ β Q hrun hr hK;exact wp_skip (hK .normal γ β σ h a w hrun (.refl _ _) hr)
 |region id ops draw=>
  intro n hS K R σ h a w γ β Q hrun hr hK;simp only[sxCode] at hrun;split at hrun
  ·exact sim_region hm hS hrun hr λγ' β' σ' h' a' w' h1 h2 h3=>hK .normal γ' β' σ' h' a' w' h1 h2 h3
  ·rename_i l hl;unfold sxJoin at hrun;simp only at hrun;split at hrun
   ·rename_i hv;simp only[IT.step] at hrun;split at hrun
    ·rename_i x vs h1 hbody;refine sim_region hm hS hbody hr λγ' β' σ' h' a' w' k1 k2 k3=>?_;obtain⟨vs',e,he⟩:=finish_ends (h:=h') k1 k2 (by rw[Env.length_clear]) (λs hs=>by rw[Env.at_clear,if_pos hs]) (λs _=>by rw[Env.at_clear];split<;>simp) (λs ver cs ow hb=>by
      rw[Env.at_clear] at hb;split at hb
      ·cases hb
      ·exact⟨ver,cs,ow,hb⟩)
     cases e
     obtain⟨σh,p1,p2,p3,p4,p5⟩:=he.next k3 hrun;exact hK .normal γ' β' σh h1 a' w' p1 (only_behind rfl hv p3 p4 p5 (λs hs=>hs)) p2
    ·cases hrun
   ·cases hrun
 |seq x y ihx ihy=>
  intro n hS K R σ h a w γ β Q hrun hr hK;simp only[sxCode] at hrun;refine wp_seq (ihx n hS hrun hr λe γ' β' σ' h' a' w' h1 h2 h3=>?_);have up:∀σ2,Only (writesOf x++guardSlots x) σ σ2→Only (writesOf (.seq x y)++guardSlots (.seq x y)) σ σ2:=λσ2 ho=>ho.mono λs hs=>by simp only[writesOf,guardSlots,List.mem_append] at hs⊢;rcases hs with hs|hs<;>simp[hs]
  cases e with
  |normal=>refine ihy n hS h1 h3 λe2 γ2 β2 σ2 h2' a2 w2 k1 k2 k3=>hK e2 γ2 β2 σ2 h2' a2 w2 k1 ((up _ h2).trans (k2.mono λs hs=>?_)) k3;simp only[writesOf,guardSlots,List.mem_append] at hs⊢;rcases hs with hs|hs<;>simp[hs]
  |exit i=>exact hK (.exit i) γ' β' σ' h' a' w' h1 (up _ h2) h3
  |ret=>exact hK .ret γ' β' σ' h' a' w' h1 (up _ h2) h3
 |cond c x y ihx ihy=>
  intro n hS K R σ h a w γ β Q hrun hr hK;have upx:∀{σ1 σ2:Env},Only (writesOf x++guardSlots x) σ1 σ2→Only (writesOf (.cond c x y)++guardSlots (.cond c x y)) σ1 σ2:=λ{σ1 σ2} ho=>ho.mono λs hs=>by cases c<;>simp only[writesOf,guardSlots,List.mem_append,List.mem_cons] at hs⊢<;>rcases hs with hs|hs<;>simp[hs]
  have upy:∀{σ1 σ2:Env},Only (writesOf y++guardSlots y) σ1 σ2→Only (writesOf (.cond c x y)++guardSlots (.cond c x y)) σ1 σ2:=λ{σ1 σ2} ho=>ho.mono λs hs=>by cases c<;>simp only[writesOf,guardSlots,List.mem_append,List.mem_cons] at hs⊢<;>rcases hs with hs|hs<;>simp[hs]
  simp only[sxCode] at hrun;split at hrun
  ·rename_i hc;obtain⟨s,h1,_⟩:=opSlot_any hr hc;exact wp_cond_true h1 (ihx n hS hrun hr λe γ' β' σ' h' a' w' k1 k2 k3=>hK e γ' β' σ' h' a' w' k1 (upx k2) k3)
  ·rename_i hc;obtain⟨s,h1,_⟩:=opSlot_any hr hc;exact wp_cond_false h1 (ihy n hS hrun hr λe γ' β' σ' h' a' w' k1 k2 k3=>hK e γ' β' σ' h' a' w' k1 (upy k2) k3)
  ·rename_i s v hc;have hsv:σ.at s= .val v:=opSlot_tmp hc;have h0:=hr.fr.slots s;rw[hsv] at h0;have arms:∀{K':AExit→Env→IT} {R':Res} {Q':Exit→Act→World→Prop},IT.step (afun C) (IT.run (afun C) n) (.cnd v (sxCode C fid x (σ.set s (.cst true)) K') (sxCode C fid y (σ.set s (.cst false)) K')) h=some R'→
     (∀e γ' β' σ' h' a' w',IT.step (afun C) (IT.run (afun C) n) (K' e σ') h'=some R'→Only (writesOf (.cond (.tmp s) x y)++guardSlots (.cond (.tmp s) x y)) σ σ'→Rel C γ0 w0 γ' β' σ' h' a' w'→Q' (aexit e) a' w')→(Code.cond (.tmp s) x y).wp C.P Q' a w:=by
    intro K' R' Q' hrun' hK';have hset:∀b:Bool,Only (writesOf (.cond (.tmp s) x y)++guardSlots (.cond (.tmp s) x y)) σ (σ.set s (.cst b)):=λb=> .set (by simp[guardSlots]);simp only[IT.step] at hrun';split at hrun'
    ·have hv:a.eval (.tmp s)= .bool true:=h0;exact wp_cond_true hv (ihx n hS hrun' (hr.turn h0) λe γ' β' σ' h' a' w' k1 k2 k3=>hK' e γ' β' σ' h' a' w' k1 ((hset true).trans (upx k2)) k3)
    ·have hv:a.eval (.tmp s)= .bool false:=h0;exact wp_cond_false hv (ihy n hS hrun' (hr.turn h0) λe γ' β' σ' h' a' w' k1 k2 k3=>hK' e γ' β' σ' h' a' w' k1 ((hset false).trans (upy k2)) k3)
    ·cases hrun'
   split at hrun
   ·exact arms hrun hK
   ·rename_i l hl;unfold sxJoin at hrun;simp only at hrun;split at hrun
    ·rename_i hv;simp only[IT.step] at hrun;split at hrun
     ·rename_i e vs h1 hbody;refine arms hbody λe2 γ' β' σ' h' a' w' k1 k2 k3=>?_;obtain⟨vs',eq,he⟩:=finish_ends (h:=h') (ws:=s::(writesOf x++writesOf y++guardSlots x++guardSlots y)) k1 (k2.mono λt ht=>by
        simp only[writesOf,guardSlots,List.mem_append,List.mem_cons] at ht⊢;rcases ht with(ht|ht)|ht|ht|ht<;>simp[ht]) (by rw[Env.length_clear]) (λt ht=>by rw[Env.at_clear,if_pos ht]) (λt _=>by rw[Env.at_clear];split<;>simp) (λt ver cs ow hb=>by
       rw[Env.at_clear] at hb;split at hb
       ·cases hb
       ·exact⟨ver,cs,ow,hb⟩)
      cases eq
      obtain⟨σh,p1,p2,p3,p4,p5⟩:=he.next k3 hrun;exact hK e γ' β' σh h1 a' w' p1 (only_behind rfl hv p3 p4 p5 (λt ht=>by simp only[writesOf,guardSlots,List.mem_append,List.mem_cons] at ht⊢;rcases ht with ht|((ht|ht)|ht)|ht<;>simp[ht])) p2
     ·cases hrun
    ·cases hrun
  ·cases hrun
 |block id b ih=>
  intro n hS K R σ h a w γ β Q hrun hr hK;simp only[sxCode] at hrun;refine wp_block (ih n hS hrun hr λe γ' β' σ' h' a' w' h1 h2 h3=>?_)
  cases e with
  |normal=>exact hK .normal γ' β' σ' h' a' w' h1 h2 h3
  |exit i=>
   simp only at h1;show if i=id then Q .normal a' w' else Q (.exit i) a' w'
   by_cases hi:i=id
   ·rw[if_pos hi] at h1⊢;exact hK .normal γ' β' σ' h' a' w' h1 h2 h3
   ·rw[if_neg hi] at h1⊢;exact hK (.exit i) γ' β' σ' h' a' w' h1 h2 h3
  |ret=>exact hK .ret γ' β' σ' h' a' w' h1 h2 h3
 |loop b ih=>
  intro n hS K R σ h a w γ β Q hrun hr hK;simp only[sxCode] at hrun;generalize hl:C.live fid ((firstRegion b).getD 0)=l at hrun;generalize hkey:(firstRegion b).getD 0=key at hrun;generalize h0:σ.clear (writesOf b++guardSlots b)=σ0 at hrun;split at hrun
  ·rename_i hv;split at hrun
   ·cases hrun
   ·rename_i init hinit;have hlen0:σ0.length=σ.length:=by rw[←h0,Env.length_clear]
    have hin:∀s,s∈writesOf b++guardSlots b→σ0.at s= .undef:=λs hs=>by rw[←h0,Env.at_clear,if_pos hs]
    refine wp_loop_fuel (λm a w=>∃γ β σ1 h vs,Rel C γ0 w0 γ β σ1 h a w∧Ends σ0 (writesOf b++guardSlots b) l σ1 vs∧m≤n+1∧
     IT.run (afun C) m (.loop key vs (λvs=>setVec vs l 0 σ0 λσh=>sxCode C fid b σh λx σ'=>finish σ0 l x σ') λx vs=>setVec vs l 0 σ0 λσ'=>exitK K x σ') h=some R) ?_ (n+1) a w
     ⟨γ,β,σ,h,init,hr,⟨hinit,hlen0.symm,λs _=>by rw[←h0,Env.at_clear];split<;>simp,λs ver cs ow hb=>by
      rw[←h0,Env.at_clear] at hb;split at hb
      ·cases hb
      ·exact⟨ver,cs,ow,hb⟩⟩,Nat.le_refl _,hrun⟩
    rintro m a1 w1 ⟨γ1,β1,σ1,h1,vs,hr1,he1,hmn,hrun1⟩
    cases m with
    |zero=>simp[IT.run] at hrun1
    |succ m=>
     simp only[IT.run,IT.step] at hrun1;have body:∀{x:AExit} {vs':List AVal} {h':AHeap},IT.step (afun C) (IT.run (afun C) m) (setVec vs l 0 σ0 λσh=>sxCode C fid b σh λx σ'=>finish σ0 l x σ') h1=some (x,vs',h')→∀{Q':Exit→Act→World→Prop},
       (∀γ' β' σ' a' w',Rel C γ0 w0 γ' β' σ' h' a' w'→Ends σ0 (writesOf b++guardSlots b) l σ' vs'→Q' (aexit x) a' w')→b.wp C.P Q' a1 w1:=by
      intro x vs' h' hb Q' hQ';obtain⟨σh,p1,p2,p3,p4,p5⟩:=he1.next hr1 hb;refine ih m (hS.le (by omega)) p1 p2 λy γ' β' σ' h2 a' w' k1 k2 k3=>?_;obtain⟨vs2,eq,he⟩:=finish_ends k1 k2 p3 hin (λs hs=> .inr (p4 s hs).symm) λs ver cs ow hb=>by obtain⟨v1,c1,o1,e1,_⟩:=p5 s ver cs ow hb;exact⟨v1,c1,o1,e1⟩
      cases eq
      exact hQ' γ' β' σ' a' w' k3 he
     split at hrun1
     ·rename_i vs' h' hb;exact body hb λγ' β' σ' a' w' hr' he'=>⟨m,Nat.lt_succ_self m,γ',β',σ',h',vs',hr',he',by omega,hrun1⟩
     ·rename_i x vs' h' hne hb;refine body hb λγ' β' σ' a' w' hr' he'=>?_;have hrun2:=IT.step_mono (λt h r=>IT.run_le (fn:=afun C) (show m≤n by omega)) _ _ _ hrun1;obtain⟨σh,p1,p2,p3,p4,p5⟩:=he'.next hr' hrun2;have ho:=only_behind h0.symm hv p3 p4 p5 λs hs=>hs
      cases x with
      |normal=>exact absurd rfl hne
      |exit i=>exact hK _ γ' β' σh h' a' w' p1 ho p2
      |ret=>exact hK _ γ' β' σh h' a' w' p1 ho p2
     ·cases hrun1
  ·cases hrun
 |exit id=>intro n hS K R σ h a w γ β Q hrun hr hK;exact wp_exit (hK (.exit id) γ β σ h a w hrun (.refl _ _) hr)
 |ret=>intro n hS K R σ h a w γ β Q hrun hr hK;exact wp_ret (hK .ret γ β σ h a w hrun (.refl _ _) hr)
 |label l=>intro n hS K R σ h a w γ β Q hrun hr hK;exact wp_label (hK .normal γ β σ h a w hrun (.refl _ _) hr)
 |scope b ih=>
  intro n hS K R σ h a w γ β Q hrun hr hK;simp only[sxCode] at hrun;refine wp_scope_straight (ih n hS hrun hr λe γ' β' σ' h' a' w' h1 h2 h3=>?_)
  cases e with
  |normal=>exact hK .normal γ' β' σ' h' a' w' h1 h2 h3
  |exit i=>exact hK (.exit i) γ' β' σ' h' a' w' h1 h2 h3
  |ret=>exact hK .ret γ' β' σ' h' a' w' h1 h2 h3
 |_=>
  intros n hS K R σ h a w γ β Q hrun hr hK
  cases hrun
end
end Go.Am
end
section
namespace Go.Am
open Go
section
variable {C:Ctx} {γ0 γ:Gh} {w0 w:World} {β:Nat→Nat} {σ:Env} {h:AHeap} {a:Act} {fid:FuncId} {run:IT→AHeap→Option Res}
def resultOf (tmps:Array Value):ResultVar→Sem Value
 | .tmp t=>pure (tmps.getD t undef)
 | .cell a t=>do loadVar t (←asAddr (tmps.getD a undef))
theorem loadVar_of_loadAt {P:Program} {t:TypeId} {b o:Nat} {v:Value} (h:(Instr.loadAt t (.pointer (some ⟨b,o,none⟩))).run P w= .ok v w):(loadVar t ⟨b,o,none⟩).run P w= .ok v w:=by simpa[Instr.loadAt,Instr.sureAddr] using h
theorem results_rel {K:List AVal→IT} {R:Res}:∀{rs:List ResultVar} {acc:List AVal},IT.step (afun C) run (sxResults C σ rs acc K) h=some R→Rel C γ0 w0 γ β σ h a w→
  ∃vs us,(rs.mapM (resultOf a.tmps)).run C.P w= .ok us w∧VRelV γ vs us∧IT.step (afun C) run (K (acc.reverse++vs)) h=some R
 |[],acc,hrun,hr=>⟨[],[],by simp,rfl,by simpa[sxResults] using hrun⟩
 |rv::rs,acc,hrun,hr=>by
  have one:∀(v:AVal) (u:Value),(resultOf a.tmps rv).run C.P w= .ok u w→VRel γ v u→IT.step (afun C) run (sxResults C σ rs (v::acc) K) h=some R→
    ∃vs us,((rv::rs).mapM (resultOf a.tmps)).run C.P w= .ok us w∧VRelV γ vs us∧IT.step (afun C) run (K (acc.reverse++vs)) h=some R:=by
   intro v u h1 h2 h3;obtain⟨vs,us,k1,k2,k3⟩:=results_rel h3 hr;refine⟨v::vs,u::us,?_,⟨u,us,rfl,h2,k2⟩,by simpa using k3⟩;simp[List.mapM_cons,h1,k1]
  cases rv with
  |tmp t=>
   simp only[sxResults] at hrun;split at hrun
   ·rename_i v hv;exact one v _ (by simp[resultOf]) (value_rel (hr.fr.slots t) hv) hrun
   ·cases hrun
  |cell p t=>
   have hld:∀(b o:Nat) (v:AVal),a.tmps.getD p undef= .pointer (some ⟨b,o,none⟩)→(∃u,(Instr.loadAt t (.pointer (some ⟨b,o,none⟩))).run C.P w= .ok u w∧VRel γ v u)→IT.step (afun C) run (sxResults C σ rs (v::acc) K) h=some R→
     ∃vs us,((ResultVar.cell p t::rs).mapM (resultOf a.tmps)).run C.P w= .ok us w∧VRelV γ vs us∧IT.step (afun C) run (K (acc.reverse++vs)) h=some R:=by
    intro b o v hp ⟨u,h1,h2⟩ h3;refine one v u ?_ h2 h3;simp only[resultOf,hp,asAddr,Sem.run_bind,Sem.run_pure,Result.andThen_ok];exact loadVar_of_loadAt h1
   simp only[sxResults] at hrun;split at hrun
   ·rename_i s off ver cs ow ht ha;split at hrun
    ·rename_i hlt;obtain⟨hs,hx⟩:=addrOf_priv hr ha;obtain⟨u,q1,q2,_⟩:=run_load_priv hr ht hs (r:=cs.getD off .nilIface) (off:=off) (by simp[partOf,List.getD,List.getElem?_eq_getElem hlt]);exact hld _ _ _ hx ⟨u,q1,q2⟩ hrun
    ·cases hrun
   ·rename_i n s off ver cs ow ht ha;split at hrun
    ·rename_i hle;obtain⟨hs,hx⟩:=addrOf_priv hr ha;obtain⟨u,q1,q2,_⟩:=run_load_priv hr ht hs (r:= .agg ((cs.drop off).take n)) (off:=off) (by simp[partOf,hle]);exact hld _ _ _ hx ⟨u,q1,q2⟩ hrun
    ·cases hrun
   ·rename_i n p' ht ha;simp only[IT.step] at hrun;split at hrun
    ·rename_i v hv;have hvr:=addrOf_ptr hr ha;unfold hload at hv;split at hv
     ·rename_i cs;obtain⟨b,k,hve,hm⟩:=hvr;obtain⟨us,p1,p2⟩:=hm.values;exact hld b k v hve (run_loadAt_rel (w:=w) ht p1 (λj u hj=>(hr.inv.imm _ _ _ (p2 j u hj)).1) (λu hu=>by obtain⟨j,hj⟩:=List.getElem?_of_mem hu;exact(hr.inv.imm _ _ _ (p2 j u hj)).2.1) hv) hrun
     ·rename_i id off;obtain⟨b,hb,hve⟩:=hvr;split at hv
      ·rename_i cs hcs;obtain⟨us,e,fr,p1,pf,p2,p3⟩:=hr.inv.cells id cs hcs b hb;refine hld b off v hve (run_loadAt_rel (w:=w) (b:=b) (o:=off) ht (p2.drop off) (λj u hj=>?_) (λu hu=>p3 u (List.mem_of_mem_drop hu)) (partOf_drop hv)) hrun;rw[cell_of_row w _ _ us e fr p1];rw[List.getElem?_drop,List.getElem?_take] at hj;split at hj
       ·simpa using hj
       ·cases hj
      ·cases hv
     ·cases hv
    ·cases hrun
   ·cases hrun
theorem Rel.frzAt (hr:Rel C γ0 w0 γ β σ h a w) {p:AVal} {off:Nat} {u:Value} {h':AHeap} (hp:VRel γ p u) (hf:hfrzAt h off p=some h'):∃γ',Rel C γ0 w0 γ' β σ h' a w:=by
 unfold hfrzAt at hf;split at hf
 ·cases hf;exact⟨γ,hr⟩
 ·rename_i id o0;generalize o0+off=o at hf;obtain⟨b,hb,_⟩:=hp;split at hf
  ·rename_i cs hcs;split at hf
   ·rename_i v hv;obtain⟨us,e,fr,p1,pf,p2,p3⟩:=hr.inv.cells id cs hcs b hb;obtain⟨x,hx,hxr⟩:=p2.get hv
    cases hq:hfrz h v with
    |none=>rw[hq] at hf;cases hf
    |some q=>
     obtain⟨h1,v'⟩:=q;rw[hq] at hf;simp only[Option.bind_some] at hf;split at hf
     ·rename_i cs' hcs'
      cases hf
      obtain⟨γ1,hle,hr1,hv1⟩:=hr.frz hxr hq;have hb1:=hle.mu _ _ hb;obtain⟨us1,e1,fr1,r1,rf,r2,r3⟩:=hr1.inv.cells id cs' hcs' b hb1;rw[p1] at r1
      cases r1
      have hset:VRelV γ1 (cs'.set o v') (us.toList.take (cs'.set o v').length):=by
       rw[List.length_set];refine VRelV.of_get (by simp[r2.length]) λi y z hy hz=>?_;by_cases hi:o=i
       ·grind
       ·rw[List.getElem?_set_ne hi] at hy;obtain⟨z',hz',hyz⟩:=r2.get hy;rw[hz] at hz';cases hz';exact hyz
      obtain⟨hi2,ha2⟩:=write_obj hr1.inv hcs' hb1 p1 us (cs'.set o v') rfl rf hset (by rw[List.length_set];exact r3);rw[setRow_self w b us e fr p1] at hi2 ha2;exact⟨γ1,hr1.world hi2 ha2⟩
     ·cases hf
   ·cases hf
  ·cases hf
 ·cases hf
theorem frz_rel {t:IT} {R:Res}:∀{l:List (Nat×Nat)} {γ:Gh} {h:AHeap},IT.step (afun C) run (sxFrz C σ l t) h=some R→Rel C γ0 w0 γ β σ h a w→∃γ' h',Rel C γ0 w0 γ' β σ h' a w∧IT.step (afun C) run t h'=some R
 |[],γ,h,hrun,hr=>⟨γ,h,hr,hrun⟩
 |(s,off)::l,γ,h,hrun,hr=>by
  simp only[sxFrz] at hrun;split at hrun
  ·rename_i p hp;simp only[IT.step] at hrun;split at hrun
   ·rename_i h1 hf;obtain⟨γ1,hr1⟩:=hr.frzAt (value_rel (hr.fr.slots s) hp) hf;exact frz_rel hrun hr1
   ·cases hrun
  ·cases hrun
theorem frzAll_rel {R:Res}:∀{vs acc:List AVal} {γ:Gh} {h:AHeap} {us us0:List Value},IT.step (afun C) run (sxFrzAll vs acc retOf) h=some R→Rel C γ0 w0 γ β σ h a w→VRelV γ vs us→VRelV γ acc.reverse us0→
  ∃γ' h' vs',Rel C γ0 w0 γ' β σ h' a w∧VRelV γ' vs' (us0++us)∧IT.step (afun C) run (retOf vs') h'=some R
 |[],acc,γ,h,us,us0,hrun,hr,h1,h2=>by rw[show us=[] from h1,List.append_nil];exact⟨γ,h,acc.reverse,hr,h2,hrun⟩
 |v::vs,acc,γ,h,us,us0,hrun,hr,h1,h2=>by
  obtain⟨u,us',rfl,hv,h1⟩:=h1;simp only[sxFrzAll,IT.step] at hrun;split at hrun
  ·rename_i h3 v' hf;obtain⟨γ1,hle,hr1,hv1⟩:=hr.frz hv hf;have h4:VRelV γ1 (v'::acc).reverse (us0++[u]):=by rw[List.reverse_cons];exact(VRelV.mono hle _ _ h2).append ⟨u,[],rfl,hv1,rfl⟩
   obtain⟨γ2,h5,vs2,q1,q2,q3⟩:=frzAll_rel hrun hr1 (VRelV.mono hle _ _ h1) h4
   grind
  ·grind
theorem ret_rel {R:Res} {vs:List AVal} {us:List Value} {γ:Gh} {h:AHeap} (hrun:IT.step (afun C) run (retOf vs) h=some R) (hv:VRelV γ vs us):
  ∃r,R=(.ret,[r],h)∧VRel γ r (if hh:us.toArray.size=1 then us.toArray[0] else .tuple us.toArray):=by
 unfold retOf at hrun;split at hrun
 ·rename_i v;obtain⟨u,us',rfl,hvu,hnil⟩:=hv;rw[show us'=[] from hnil];simp only[IT.step] at hrun
  grind
 ·rename_i hne;simp only[IT.step] at hrun
  cases hrun
  have hlen:us.length≠1:=λe=>by have:=hv.length;rw[e] at this;obtain⟨v,hv⟩:=List.length_eq_one_iff.1 this.symm;exact hne v hv
  refine⟨_,rfl,?_⟩;rw[dif_neg (by simpa using hlen)];exact⟨us.toArray,rfl,by simpa using hv⟩
theorem run_results {fn:Func} {tmps:Array Value} {us:List Value} (h:(fn.results.toList.mapM (resultOf tmps)).run C.P w= .ok us w):(results fn tmps).run C.P w= .ok (if hh:us.toArray.size=1 then us.toArray[0] else .tuple us.toArray) w:=by
 have e:fn.results.mapM (resultOf tmps)=(do let l←fn.results.toList.mapM (resultOf tmps);pure l.toArray:Sem (Array Value)):=by rw[Array.mapM_eq_mapM_toList];simp
 have e2:results fn tmps=(do let vs←fn.results.mapM (resultOf tmps);pure (if hh:vs.size=1 then vs[0] else .tuple vs):Sem Value):=by congr 2
 simp_all
theorem sim_end {fn:Func} {R:Res} (hrun:IT.step (afun C) run (sxEnd C fid fn σ) h=some R) (hr:Rel C γ0 w0 γ β σ h a w):
  ∃r h' v γ',R=(.ret,[r],h')∧(results fn a.tmps).run C.P w= .ok v w∧Inv γ' h' w∧Acc γ0 w0 γ' w∧VRel γ' r v∧(C.ownRet fid=true→∃s c,OwnT γ' w0.heap.size w s c v r):=by
 unfold sxEnd at hrun;split at hrun
 ·cases hrun
 ·rename_i hown;obtain⟨γ1,h1,hr1,hrun1⟩:=frz_rel hrun hr;by_cases ho:C.ownRet fid=true
  ·have hor:∃t x,fn.results.toList=[.tmp t]∧σ.at t= .own x:=by
    have:ownResult σ fn.results.toList=true:=by
     cases hq:ownResult σ fn.results.toList with
     |true=>rfl
     |false=>exact absurd (by simp[ho,hq]) hown
    unfold ownResult at this
    grind
   obtain⟨t,x,hrs,hx⟩:=hor;have h0:=hr1.fr.slots t;rw[hx] at h0;have hres:=run_results (C:=C) (w:=w) (fn:=fn) (tmps:=a.tmps) (us:=[a.tmps.getD t undef]) (by rw[hrs];simp[resultOf]);rw[hrs] at hrun1;simp only[sxResults,hx,Slot.value?,List.reverse_cons,List.reverse_nil,List.nil_append] at hrun1;have hfrz':hfrz h1 x=some (h1,x):=by rcases h0.2 with(rfl|⟨_,rfl⟩)|⟨_,_,_,_,_,_,_,rfl,_⟩<;>rfl
   have hR:R=(.ret,[x],h1):=by
    split at hrun1
    ·simp only[sxFrzAll,IT.step,hfrz',List.reverse_cons,List.reverse_nil,List.nil_append,retOf] at hrun1
     cases hrun1;rfl
    ·simp only[IT.step,retOf] at hrun1
     cases hrun1;rfl
   exact⟨x,h1,_,γ1,hR,by simpa using hres,hr1.inv,hr1.acc,h0.1,λ_=>⟨t,none,h0.2⟩⟩
  ·obtain⟨vs,us,k1,k2,hrun2⟩:=results_rel hrun1 hr1;simp only[List.reverse_nil,List.nil_append] at hrun2;have hres:=run_results (C:=C) k1;split at hrun2
   ·obtain⟨γ2,h2,vs2,q1,q2,q3⟩:=frzAll_rel hrun2 hr1 k2 (us0:=[]) rfl;rw[List.nil_append] at q2;obtain⟨r,hR,hrv⟩:=ret_rel q3 q2;exact⟨r,h2,_,γ2,hR,hres,q1.inv,q1.acc,hrv,λe=>absurd e ho⟩
   ·obtain⟨r,hR,hrv⟩:=ret_rel hrun2 k2;exact⟨r,h1,_,γ1,hR,hres,hr1.inv,hr1.acc,hrv,λe=>absurd e ho⟩
theorem Rel.start {γ:Gh} {h:AHeap} {w:World} (hi:Inv γ h w) (hg:∀g cs,C.glob g=some cs→VRelM γ cs g 0) {args:List AVal} {cargs:Array Value} (ha:VRelV γ args cargs.toList) (n:Nat) (β:Nat→Nat):
  Rel C γ w γ β (args.map .val++List.replicate (n-args.length) .undef) h {tmps:=cargs++Array.replicate (n-cargs.size) undef,defers:=[]} w:=by
 have hlen:cargs.size=args.length:=by have:=ha.length;simpa using this
 refine⟨hi,⟨by simp[hlen],λs=>?_⟩,Acc.refl γ w,rfl,hg⟩;by_cases hs:s<args.length
 ·have h1:Env.at (args.map .val++List.replicate (n-args.length) .undef) s= .val args[s]:=by simp[Env.at,List.getD,List.getElem?_append_left,hs]
  obtain⟨u,hu,hr⟩:=ha.get (List.getElem?_eq_getElem hs);have h2:(cargs++Array.replicate (n-cargs.size) undef).getD s undef=u:=by
   rw[Array.getD_eq_getD_getElem?,Array.getElem?_append_left (by omega)];have:cargs[s]?=some u:=by simpa using hu
   rw[this];rfl
  rw[h1,h2];exact hr
 ·have h1:Env.at (args.map .val++List.replicate (n-args.length) .undef) s= .undef:=by
   have hm:(args.map Slot.val).length=args.length:=by simp
   simp only[Env.at,List.getD]
   grind
  rw[h1];trivial
def PrimOk (C:Ctx):Prop:=
 (∀f,C.ins f=true→InsOk C f)∧∀(f:FuncId) (p:List AVal→IT),C.prim f=some p→∀n,SimCalls C (IT.run (afun C) n)→∀(args:List AVal) (h:AHeap) (r:AVal) (h':AHeap),IT.step (afun C) (IT.run (afun C) n) (p args) h=some (.ret,[r],h')→
  (∃fn c,C.P.funcs[realOf f]?=some fn∧(fn.name== "runtime.NumGoroutine")=false∧fn.body=some c)∧
  ∀(γ:Gh) (w:World) (cargs:Array Value),Inv γ h w→(∀g cs,C.glob g=some cs→VRelM γ cs g 0)→VRelV γ args cargs.toList→
   Calls C.P (realOf f) cargs w λe w'=>match e with
    | .returned v=>∃γ',Inv γ' h' w'∧Acc γ w γ' w'∧VRel γ' r v∧(C.ownRet f=true→∃s c,OwnT γ' w.heap.size w' s c v r)
    |_=>False
theorem simCalls (hm:C.P.follows .mixedOrders=true) (hgf:∀g cs,C.glob g=some cs→cs.all AVal.flat=true) (hpr:PrimOk C):∀n,SimCalls C (IT.run (afun C) n)
 |0=>⟨⟨hgf,hpr.1⟩,λf args h r h' hrun=>by simp[IT.run] at hrun⟩
 |n+1=>⟨⟨hgf,hpr.1⟩,λf args h r h' hrun=>by
  have ih:=simCalls hm hgf hpr n;unfold afun at hrun;split at hrun
  ·rename_i p hp;exact hpr.2 f p hp n ih args h r h' hrun
  unfold cfun at hrun;split at hrun
  ·rename_i fn hf;split at hrun
   ·cases hrun
   ·rename_i hname;unfold sxFunc at hrun;split at hrun
    ·cases hrun
    ·rename_i c hb;refine⟨⟨fn,c,hf,by simpa using hname,hb⟩,λγ w cargs hi hg ha=>calls_of_wp hf hb ?_⟩;refine sim_code (C:=C) (fid:=f) hm c n ih hrun (Rel.start hi hg ha fn.ntmps (λ_=>0)) λx γ' β' σ' h1 a' w' k1 _ k3=>?_;have fin:IT.step (afun C) (IT.run (afun C) n) (sxEnd C f fn σ') h1=some (.ret,[r],h')→a'.defers=[]∧∃v,(results fn a'.tmps).run C.P w'= .ok v w'∧∃γ'',Inv γ'' h' w'∧Acc γ w γ'' w'∧VRel γ'' r v∧(C.ownRet f=true→∃s c,OwnT γ'' w.heap.size w' s c v r):=λhend=>by
      obtain⟨r',h2,v,γ'',e,p1,p2,p3,p4,p5⟩:=sim_end hend k3
      cases e
      exact⟨k3.defers,v,p1,γ'',p2,p3,p4,p5⟩
     cases x with
     |normal=>exact fin k1
     |ret=>exact fin k1
     |exit i=>cases k1
  ·cases hrun⟩
end
theorem Ev.calls {C:Ctx} (hm:C.P.follows .mixedOrders=true) (hgf:∀g cs,C.glob g=some cs→cs.all AVal.flat=true) (hpr:PrimOk C) {f:FuncId} {args:List AVal} {h:AHeap} {Q:AVal→AHeap→Prop} (hev:Ev C f args h Q) {γ:Gh} {w:World} {cargs:Array Value} (hi:Inv γ h w) (hg:∀g cs,C.glob g=some cs→VRelM γ cs g 0) (ha:VRelV γ args cargs.toList):
  Calls C.P (realOf f) cargs w λe w'=>match e with
   | .returned v=>∃r h' γ',Q r h'∧Inv γ' h' w'∧Acc γ w γ' w'∧VRel γ' r v
   |_=>False:=by
 obtain⟨n,x,vs,h',hrun,rfl,r,rfl,hQ⟩:=hev;refine(((simCalls hm hgf hpr n).2 f args h r h' hrun).2 γ w cargs hi hg ha).mono λe w' he=>?_
 cases e with
 |returned v=>grind
 |_=>exact he
end Go.Am
end
section
namespace Go.Am
open Go
inductive Ty where
 |bool
 |int (k:IntKind)
 |str
 |sl (e:Ty)
 |st (fs:List Ty)
 deriving Inhabited
mutual
def Ty.size:Ty→Nat
 | .bool| .int _| .str| .sl _=>1
 | .st fs=>Ty.sizeL fs
def Ty.sizeL:List Ty→Nat
 |[]=>0
 |t::ts=>Ty.size t+Ty.sizeL ts
end
mutual
def tyOk (P:Program):Ty→TypeId→Bool
 | .bool,t=>match P.underlying t with|some .bool=>true|_=>false
 | .int k,t=>match P.underlying t with|some (.int k')=>decide (k'=k)|_=>false
 | .str,t=>match P.underlying t with|some .string=>true|_=>false
 | .sl e,t=>match P.underlying t with
  |some (.slice e')=>P.cellsOf e'==Ty.size e&&decide (0<Ty.size e)&&tyOk P e e'
  |_=>false
 | .st fs,t=>match P.underlying t with
  |some (.struct fields)=>P.cellsOf t==Ty.sizeL fs&&fieldsOk P fs fields.toList 0
  |_=>false
def fieldsOk (P:Program):List Ty→List Field→Nat→Bool
 |[],[],_=>true
 |ty::tys,f::fs,off=>f.offset==off&&P.cellsOf f.type==Ty.size ty&&tyOk P ty f.type&&fieldsOk P tys fs (off+Ty.size ty)
 |_,_,_=>false
end
mutual
def Has:Ty→List AVal→Prop
 | .bool,l=>∃b,l=[.bool b]
 | .int k,l=>∃n,l=[.int k n]∧(Lit.int k n).wf=true
 | .str,l=>∃s:Bytes,l=[.str s]∧s.length≤maxLen
 | .sl e,l=>l=[.slnil]∨∃rows:List (List AVal),l=[.sl (Ty.size e) rows]∧rows.length≤maxLen∧∀r∈rows,Has e r
 | .st fs,l=>HasL fs l
def HasL:List Ty→List AVal→Prop
 |[],l=>l=[]
 |ty::tys,l=>∃a b,l=a++b∧Has ty a∧HasL tys b
end
def Ty.isSt:Ty→Bool
 | .st _=>true
 |_=>false
def HasV (ty:Ty) (a:AVal):Prop:=if ty.isSt then∃cs,a= .agg cs∧Has ty cs else Has ty [a]
def HasArgs:List Ty→List AVal→Prop
 |[],l=>l=[]
 |ty::tys,l=>∃a b,l=a::b∧HasV ty a∧HasArgs tys b
def memGh (W:World):Gh:={imm:=λb o=>(W.cell? ⟨b,o,none⟩).filter (·.oneCell'),mu:=λ_=>none,own:=λ_=>none,sz:=λ_=>none}
theorem memInv (W:World):Inv (memGh W) [] W:=by refine⟨λb o v h=>?_,λid x h=>by simp at h,λid cs h=>by simp at h,λid es h=>by simp at h,λid b h=>(by cases h),λb x h=>(by cases h),λb n h=>(by cases h)⟩;simp only[memGh,Option.filter_eq_some_iff] at h;exact⟨h.1,h.2,.inl rfl⟩
theorem memImm {W:World} {b o:Nat} {v:Value} (h:W.cell? ⟨b,o,none⟩=some v) (h1:v.oneCell'=true):(memGh W).imm b o=some v:=by simp[memGh,h,h1,Option.filter]
theorem exists_list {α:Type} {p:Nat→α→Prop}:∀(n:Nat),(∀i,i<n→∃x,p i x)→∃l:List α,l.length=n∧∀i x,l[i]?=some x→p i x
 |0,_=>⟨[],rfl,by simp⟩
 |n+1,h=>by
  obtain⟨l,hl,hp⟩:=exists_list n λi hi=>h i (by omega);obtain⟨x,hx⟩:=h n (by omega);refine⟨l++[x],by simp[hl],λi y hy=>?_⟩
  grind
section
variable {H:Type} {enc:TypeId×Value→H} {P:Program} {W:World}
theorem spot_of_cells {a:Addr} {n:Nat} {cs:List Value} (h:W.cells? 0 a n=some cs) (hn:0<n):a.spot=none:=by
 obtain⟨_,hl,hc⟩:=World.cells?_some h;have h0:=hc 0 hn;have hlt:0<cs.length:=by omega
 rw[List.getElem?_eq_getElem hlt] at h0;unfold World.cell? at h0;have ha:a.add 0=a:=by simp[Addr.add]
 split at h0
 ·simp_all
 ·cases h0
mutual
theorem read_ty:∀(ty:Ty) {t:TypeId} {fuel:Nat} {cs:List Value} {x:DataW H×List MemPlace},tyOk P ty t=true→DataW.trod enc P W 0 (λ_=>true) true fuel t cs=some x→
  ∃as,Has ty as∧VRelV (memGh W) as cs∧(∀u∈cs,u.oneCell'=true)∧as.length=Ty.size ty
 | .bool,t,fuel,cs,x,hok,h=>by
  unfold tyOk at hok;split at hok
  ·rename_i ht;obtain⟨b,rfl,_⟩:=DataW.trod_bool ht h;exact⟨[.bool b],⟨b,rfl⟩,⟨_,[],rfl,rfl,rfl⟩,by simp[Value.oneCell'],rfl⟩
  ·cases hok
 | .int k,t,fuel,cs,x,hok,h=>by
  unfold tyOk at hok;split at hok
  ·rename_i k' ht;have hk:k'=k:=by simpa using hok
   subst hk;obtain⟨n,rfl,_,hw⟩:=DataW.trod_int ht h;exact⟨[.int k' n],⟨n,rfl,hw⟩,⟨_,[],rfl,rfl,rfl⟩,by simp[Value.oneCell'],rfl⟩
  ·cases hok
 | .str,t,fuel,cs,x,hok,h=>by
  unfold tyOk at hok;split at hok
  ·rename_i ht;obtain⟨s,rfl,_,hs⟩:=DataW.trod_string ht h;refine⟨[.str s.data.toList],⟨_,rfl,by
    have e:s.data.toList.length=s.size:=by rw[Array.length_toList];rfl
    rw[e];exact hs⟩,⟨_,[],rfl,?_,rfl⟩,by simp[Value.oneCell'],rfl⟩
   show Value.string s= .string ⟨⟨s.data.toList⟩⟩
   congr 1
  ·cases hok
 | .sl e,t,fuel,cs,x,hok,h=>by
  unfold tyOk at hok;split at hok
  ·rename_i e' ht;simp only[Bool.and_eq_true,beq_iff_eq,decide_eq_true_eq] at hok;obtain⟨⟨hce,hpos⟩,hoke⟩:=hok;rcases DataW.trod_slice ht h with⟨rfl,_⟩|⟨a,len,cap,elems,rest,n,_,rfl,_,_,hl,hm,hlen,hel,hsp,_⟩
   ·exact⟨[.slnil],.inl rfl,⟨_,[],rfl,rfl,rfl⟩,by simp[Value.oneCell'],rfl⟩
   ·have spot:0<cap→a.spot=none:=λhc=>by
     have ha:a.add 0=a:=by simp[Addr.add]
     rcases Nat.eq_zero_or_pos len with h0|h0
     ·obtain⟨hr1,hr2⟩:=hsp rfl;have:=hr2 0 (by omega);rw[List.getElem?_eq_getElem (show 0<rest.length by omega)] at this;have h00:(len+0)*P.cellsOf e'=0:=by rw[h0];simp
      rw[h00,ha] at this;obtain⟨vs,hv,_⟩:=Option.bind_eq_some_iff.1 this;exact spot_of_cells hv (by omega)
     ·have:=hel 0 h0;rw[List.getElem?_eq_getElem (show 0<elems.length by omega)] at this;rw[Nat.zero_mul,ha] at this;obtain⟨vs,hv,_⟩:=Option.bind_eq_some_iff.1 this;exact spot_of_cells hv (by omega)
    obtain⟨rows,hrl,hrows⟩:=exists_list (p:=λi (r:List AVal)=>Has e r∧r.length=Ty.size e∧VRelM (memGh W) r a.block (a.off+i*Ty.size e)) len λi hi=>by
     have:=hel i hi;rw[List.getElem?_eq_getElem (show i<elems.length by omega)] at this;obtain⟨vs,hv,hd⟩:=Option.bind_eq_some_iff.1 this;obtain⟨r,p1,p2,p3,p4⟩:=read_ty e hoke hd;refine⟨r,p1,p4,VRelM.of_get λj y hj=>?_⟩;obtain⟨u,hu,hyu⟩:=p2.get hj;obtain⟨_,hvl,hvc⟩:=World.cells?_some hv;have hjl:j<P.cellsOf e':=by have:=(List.getElem?_eq_some_iff.1 hu).1;omega
     have hc:=hvc j hjl;rw[hu] at hc;have had:a=⟨a.block,a.off,none⟩:=by
      have:=spot (by omega)
      cases a;simp_all
     have hadd:(a.add (i*P.cellsOf e')).add j=⟨a.block,a.off+i*Ty.size e+j,none⟩:=by rw[hce];generalize a.block=b at*;generalize a.off=o at*;subst had;rw[Addr.add_lit,Addr.add_lit]
     rw[hadd] at hc;exact⟨u,memImm hc (p3 u (List.mem_of_getElem? hu)),hyu⟩
    refine⟨[.sl (Ty.size e) rows],.inr ⟨rows,rfl,by omega,λr hr=>?_⟩,⟨_,[],rfl,⟨a,cap,by rw[hrl],by omega,?_,VRelR.of_get λi r hr=>?_⟩,rfl⟩,by simp[Value.oneCell'],rfl⟩
    ·obtain⟨i,hi⟩:=List.getElem?_of_mem hr;exact(hrows i r hi).1
    ·rcases Nat.eq_zero_or_pos cap with h0|h0
     ·exact .inr h0
     ·exact .inl (spot h0)
    ·exact⟨(hrows i r hr).2.1,(hrows i r hr).2.2⟩
  ·cases hok
 | .st fs,t,fuel,cs,x,hok,h=>by
  unfold tyOk at hok;split at hok
  ·rename_i fields ht;simp only[Bool.and_eq_true,beq_iff_eq] at hok;obtain⟨hct,hf⟩:=hok;obtain⟨xs,n,_,_,hcl,hxl,hall⟩:=DataW.trod_struct ht h;obtain⟨as,p1,p2,p3,p4⟩:=read_fields fs (fields:=fields.toList) (off:=0) (cs:=cs) (n:=n) hf (λi f hi=>by
    have:=hall i f (by simpa using hi);have hlt:i<fields.size:=by have:=(List.getElem?_eq_some_iff.1 hi).1;simpa using this
    rw[List.getElem?_eq_getElem (show i<xs.length by omega)] at this;exact⟨_,this⟩) (by rw[hcl,hct];omega)
   have e1:(cs.drop 0).take (Ty.sizeL fs)=cs:=by rw[List.drop_zero];exact List.take_of_length_le (by rw[hcl,hct];exact Nat.le_refl _)
   rw[e1] at p2 p3;exact⟨as,p1,p2,p3,p4⟩
  ·cases hok
theorem read_fields:∀(tys:List Ty) {fields:List Field} {off:Nat} {cs:List Value} {n:Nat},fieldsOk P tys fields off=true→
  (∀(i:Nat) (f:Field),fields[i]?=some f→∃y,DataW.trod enc P W 0 (λ_=>true) true n f.type ((cs.drop f.offset).take (P.cellsOf f.type))=some y)→off+Ty.sizeL tys≤cs.length→
  ∃as,HasL tys as∧VRelV (memGh W) as ((cs.drop off).take (Ty.sizeL tys))∧(∀u∈(cs.drop off).take (Ty.sizeL tys),u.oneCell'=true)∧as.length=Ty.sizeL tys
 |[],fields,off,cs,n,hok,h,hl=>by refine⟨[],rfl,?_,?_,rfl⟩<;>simp[Ty.sizeL,VRelV]
 |ty::tys,fields,off,cs,n,hok,h,hl=>by
  cases fields with
  |nil=>simp[fieldsOk] at hok
  |cons f fs=>
   simp only[fieldsOk,Bool.and_eq_true,beq_iff_eq] at hok;obtain⟨⟨⟨ho,hc⟩,hty⟩,hrest⟩:=hok;obtain⟨y,hy⟩:=h 0 f rfl;rw[ho,hc] at hy;obtain⟨as,p1,p2,p3,p4⟩:=read_ty ty hty hy;simp only[Ty.sizeL] at hl;obtain⟨bs,q1,q2,q3,q4⟩:=read_fields tys hrest (λi g hi=>h (i+1) g (by simpa using hi)) (by omega);have e1:(cs.drop off).take (Ty.sizeL (ty::tys))=(cs.drop off).take (Ty.size ty)++(cs.drop (off+Ty.size ty)).take (Ty.sizeL tys):=by simp only[Ty.sizeL];rw[List.take_add,List.drop_drop]
   rw[e1];refine⟨as++bs,⟨as,bs,rfl,p1,q1⟩,p2.append q2,λu hu=>?_,by simp[p4,q4,Ty.sizeL]⟩;rcases List.mem_append.1 hu with hu|hu
   ·exact p3 u hu
   ·exact q3 u hu
end
theorem okWide_cells {ty:Ty} {t:TypeId} {v:Value} {base:Nat} (hok:tyOk P ty t=true) (hv:Value.okWide P W .any base t v):if ty.isSt then∃cs,v= .agg cs else v.cells=#[v]:=by
 cases ty with
 |st fs=>
  unfold tyOk at hok;split at hok
  ·rename_i fields ht;unfold Value.okWide at hv;rw[ht] at hv;obtain⟨cs,e,_⟩:=hv;exact⟨cs,e⟩
  ·cases hok
 |_=>
  unfold tyOk at hok;split at hok
  ·rename_i ht;unfold Value.okWide at hv;simp only[Cell.okWide,ht,Cell.ok] at hv
   cases v<;>first|rfl|exact hv.elim
  ·cases hok
theorem read_args:∀{tys:List Ty} {ts:List TypeId} {vs:List Value} {ds:List (DataW H)} {ps:List MemPlace} {base:Nat},DataW.TrodAll enc P W 0 (λ_=>true) true ts vs ds ps→tys.length=ts.length→(∀(i:Nat) (ty:Ty) (t:TypeId),tys[i]?=some ty→ts[i]?=some t→tyOk P ty t=true)→
  (∀(i:Nat) (t:TypeId) (v:Value),ts[i]?=some t→vs[i]?=some v→Value.okWide P W .any base t v)→∃as,HasArgs tys as∧VRelV (memGh W) as vs
 |[],[],[],[],_,_,_,_,_,_=>⟨[],rfl,rfl⟩
 |ty::tys,t::ts,v::vs,d::ds,ps,base,⟨p,q,⟨fuel,h1⟩,h2,_⟩,hl,hok,hval=>by
  have hty:=hok 0 ty t rfl rfl;obtain⟨cells,p1,p2,p3,p4⟩:=read_ty ty hty h1;obtain⟨bs,q1,q2⟩:=read_args h2 (by simpa using hl) (λi ty t h h'=>hok (i+1) ty t (by simpa using h) (by simpa using h')) (λi t v h h'=>hval (i+1) t v (by simpa using h) (by simpa using h'));have hc:=okWide_cells hty (hval 0 t v rfl rfl);have:∃a,HasV ty a∧VRel (memGh W) a v:=by
   by_cases hst:ty.isSt=true
   ·rw[if_pos hst] at hc;obtain⟨us,rfl⟩:=hc;exact⟨.agg cells,(by unfold HasV;rw[if_pos hst];exact⟨cells,rfl,p1⟩),us,rfl,by simpa[Value.cells] using p2,by simpa[Value.cells] using p3⟩
   ·rw[if_neg hst] at hc;rw[hc] at p2;obtain⟨u,us,e,hu,hnil⟩:∃c cs',cells=c::cs'∧VRel (memGh W) c v∧cs'=[]:=by
     cases cells with
     |nil=>cases p2
     |cons c cs'=>obtain⟨u,us',e,h1,h2⟩:=p2;simp at e;obtain⟨rfl,rfl⟩:=e;exact⟨c,cs',rfl,h1,by cases cs' with|nil=>rfl|cons _ _=>obtain⟨_,_,e,_⟩:=h2;cases e⟩
    subst hnil;subst e;exact⟨u,(by unfold HasV;rw[if_neg hst];exact p1),hu⟩
  obtain⟨a,ha,hr⟩:=this;exact⟨a::bs,⟨a,bs,rfl,ha,q1⟩,⟨v,vs,rfl,hr,q2⟩⟩
 |[],_::_,_,_,_,_,_,hl,_,_=>by simp at hl
 |_::_,[],_,_,_,_,_,hl,_,_=>by simp at hl
 |[],[],_::_,_,_,_,h,_,_,_=>by cases h
 |[],[],[],_::_,_,_,h,_,_,_=>by cases h
 |_::_,_::_,[],_,_,_,h,_,_,_=>by cases h
 |_::_,_::_,_::_,[],_,_,h,_,_,_=>by cases h
theorem keptBut_of_old {W':World} {may:MemPlace→Prop} (h1:W'.os=W.os) (h2:W'.output=W.output) (hb:∀i,i<W.heap.size→W'.heap[i]?=W.heap[i]?):W.keptBut W' may:=by
 refine⟨h1,h2,λi hi=>?_⟩
 grind
theorem trodAll_below (hl:laidOutB P=true) {W':World} (hb:RowKit.Below W.heap.size W W'):∀{ts:List TypeId} {vs:List Value} {ds:List (DataW H)} {ps:List MemPlace},(∀t∈ts,P.readableRec t=true∧t<P.types.size)→
  DataW.TrodAll enc P W 0 (λ_=>true) true ts vs ds ps→(∀x∈ps,x.block<W.heap.size)→DataW.TrodAll enc P W' 0 (λb=>decide (b<W.heap.size)) true ts vs ds ps
 |[],[],[],ps,_,h,_=>h
 |t::ts,v::vs,d::ds,ps,hts,⟨p,q,h1,h2,e⟩,hlt=>by subst e;have ht:=hts t (by simp);exact⟨p,q,RowKit.Below.trod hl ht.1 ht.2 h1 hb λx hx=>hlt x (List.mem_append_left _ hx),trodAll_below hl hb (λt' h'=>hts t' (by simp[h'])) h2 λx hx=>hlt x (List.mem_append_right _ hx),rfl⟩
 |[],[],_::_,_,_,h,_=>by cases h
 |[],_::_,_,_,_,h,_=>by cases h
 |_::_,[],_,_,_,h,_=>by cases h
 |_::_,_::_,[],_,_,h,_=>by cases h
end
theorem law_contract {C:Ctx} (hm:C.P.follows .mixedOrders=true) (hgf:∀g cs,C.glob g=some cs→cs.all AVal.flat=true) (hpr:PrimOk C) (hl:laidOutB C.P=true) {f:FuncId} {fn:Func} {rt:TypeId} (hrf:f≤99999) (hrt:fn.resultTypes=#[rt]) (hrb:C.P.underlying rt=some .bool) {tys:List Ty} (hlen:tys.length=fn.params.size)
  (htys:∀(i:Nat) (ty:Ty) (t:TypeId),tys[i]?=some ty→fn.params[i]?=some t→tyOk C.P ty t=true) (hread:∀t∈fn.params.toList,C.P.readableRec t=true∧t<C.P.types.size)
  (hev:∀as,HasArgs tys as→Ev C f as [] λr _=>r= .bool true) {s:ChangeSpec} (hsv:s.vars=[])
  {H:Type} (hfn:∀ds:List (DataW H),ds.length=fn.params.size→s.fn H ds={results:=[.lit (.bool true)],args:=ds})
  {enc:TypeId×Value→H} {W:World} {base:Nat} {args:Array Value} {ds gs:List (DataW H)} {before:List MemPlace} (hg:∀g cs,C.glob g=some cs→VRelM (memGh W) cs g 0)
  (hval:∀(j:Nat) (t:TypeId) (v:Value),fn.params[j]?=some t→args[j]?=some v→Value.okWide C.P W .any base t v) (hW:DataW.Whole enc C.P fn.params.toList s.vars false W args.toList ds gs before):
  Calls C.P f args W λe W'=>∃v,e= .returned v∧s.post enc C.P fn false true false false W args v W':=by
 have hW':=hW;have hlt:=hW.lt;obtain⟨p,q,hA,hV,rfl,hfz,hnd⟩:=hW;rw[hsv] at hV;have hgs:gs=[]∧q=[]:=by
  cases gs with
  |nil=>exact⟨rfl,hV⟩
  |cons _ _=>cases hV
 obtain⟨rfl,rfl⟩:=hgs;obtain⟨as,ha1,ha2⟩:=read_args hA (by simpa using hlen) (λi ty t h h'=>htys i ty t h (by simpa using h')) (λi t v h h'=>hval i t v (by simpa using h) (by simpa using h'));have hds:ds.length=fn.params.size:=by
  have key:∀{ts:List TypeId} {vs:List Value} {ds:List (DataW H)} {ps:List MemPlace},DataW.TrodAll enc C.P W 0 (λ_=>true) true ts vs ds ps→ds.length=ts.length:=by
   intro ts
   induction ts with
   |nil=>intro vs ds ps h;cases vs<;>cases ds<;>first|rfl|cases h
   |cons t ts ih=>
    intro vs ds ps h
    cases vs with
    |nil=>cases h
    |cons v vs=>
     cases ds with
     |nil=>cases h
     |cons d ds=>obtain⟨_,_,_,h2,_⟩:=h;simp[ih h2]
  simpa using key hA
 have hcc:=(hev as ha1).calls hm hgf hpr (memInv W) hg ha2;rw[show realOf f=f from if_pos hrf] at hcc;refine hcc.mono λe W' he=>?_
 cases e with
 |returned v=>
  obtain⟨r,h',γ',rfl,hi,hacc,hv⟩:=he;have hvb:v= .bool true:=hv;subst hvb;have hold:∀i,i<W.heap.size→W'.heap[i]?=W.heap[i]?:=λi hi'=>(hacc.keep i hi' λid h0=>by cases h0).1;have hbelow:RowKit.Below W.heap.size W W':=⟨hacc.os,hacc.tape,hacc.output,hacc.size,hold⟩;refine⟨_,rfl,ds,[],p++[],[],p,[],hW',?_,?_,?_,keptBut_of_old hacc.os hacc.output hold,λh0=>by cases h0⟩
  ·rw[List.append_nil,hfn ds hds,hrt];exact⟨[],[],RowKit.shut_bool hrb true,rfl,rfl⟩
  ·rw[List.append_nil,hfn ds hds];exact trodAll_below hl hbelow hread hA λx hx=>hlt x (by simpa using hx)
  ·rw[List.append_nil,hfn ds hds,hsv];rfl
 |_=>exact he.elim
end Go.Am
end
