/- Lemmas -/
import Derived.Test.YtjboelmdplaenaaGreatDoorQ6
set_option linter.unusedVariables false
set_option linter.unusedSimpArgs false
section
namespace Go.Am
open Go
section
variable {C:Ctx} {γ0 γ γ':Gh} {w0 w w':World} {β:Nat→Nat} {σ σ':Env} {h h':AHeap} {a:Act} {fid:FuncId} {ops:List Oper}
theorem Sim.wp {o:Oper} {K:Act→World→Prop} {Q:Exit→Act→World→Prop} (hs:Sim C γ0 w0 o a w σ' h') (hK:∀γ' β' a' w',Rel C γ0 w0 γ' β' σ' h' a' w'→K a' w'):o.wp C.P a w K Q:=by
 obtain⟨γ',β',w',⟨v,he,hr⟩|⟨he,hr⟩⟩:=hs
 ·exact wp_value he (hK _ _ _ _ hr)
 ·exact wp_skipped he (hK _ _ _ _ hr)
theorem binKind_still {P:Program} {op:BinOp} {t:TypeId} {p:POp} (hp:binKind P op t=some p):p.still=true:=by
 have heq:∀neg u,eqKind P t neg u=some p→p.still=true:=by
  intro neg u h;unfold eqKind at h;split at h
  ·cases h;rfl
  ·split at h
   ·cases hf:flatK P 20 t with
    |none=>rw[hf] at h;cases h
    |some k=>rw[hf] at h;cases h;rfl
   ·cases h
  ·split at h<;>cases h;rfl
  ·cases h;rfl
  ·cases h;rfl
  ·cases h;rfl
  ·cases h
 unfold binKind at hp;split at hp
 ·cases hp;rfl
 ·cases hp;rfl
 ·grind
 ·cases hp
theorem run_fieldAt_addr {P:Program} {t:TypeId} {f off:Nat} {sh:Option Nat} (hf:fieldOff P t f=some (off,sh)) (b o:Nat):(Instr.fieldAt t (.pointer (some ⟨b,o,none⟩)) f).run P w= .ok (.pointer (some ⟨b,o+off,none⟩)) w:=by
 unfold fieldOff at hf;split at hf
 ·rename_i fs hu';split at hf
  ·rename_i fd hfd;split at hf
   ·rename_i n sh' h1 h2
    cases hf
    simp[Instr.fieldAt,run_underlying hu',hfd,Instr.sureAddr,fieldPlace,run_sizeOf h1,Addr.add_lit]
   ·cases hf
  ·cases hf
 ·cases hf
theorem opSlot_box (hr:Rel C γ0 w0 γ β σ h a w) {s ver:Nat} {cs:List AVal} {ow:List Nat} (hs:opSlot C σ (.tmp s)=some (.box ver cs ow)):a.eval (.tmp s)= .pointer (some ⟨β s,0,none⟩):=by have h0:=slot_rel hr s;rw[opSlot_tmp hs] at h0;exact h0.1
theorem opSlot_lref (hr:Rel C γ0 w0 γ β σ h a w) {x:Operand} {s k:Nat} (hs:opSlot C σ x=some (.lref s k)):a.eval x= .pointer (some ⟨β s,k,none⟩):=by obtain⟨t,h1,_⟩:=opSlot_any hr hs;exact h1
theorem sim_boxOp {o:Oper} {t:TypeId} {v:AVal} {d:Nat} {r:OpR} {run:IT→AHeap→Option Res} (hb:boxOp C fid t v d=some r) (hdo:r.does C run (σ.drop r.news) h σ' h')
  (priv:∀n,C.kind fid d= .priv→v.cells.length=n→n≠0→Sim C γ0 w0 o a w ((σ.drop [d]).set d (.box 0 v.cells [])) h)
  (heap:v.cells.length≠0→Sim C γ0 w0 o a w (σ.put (some d) (.val (.ptr (some (h.length,0))))) (h++[.cells v.cells])):Sim C γ0 w0 o a w σ' h':=by
 unfold boxOp at hb;split at hb
 ·cases hb
 ·rename_i n hn;split at hb
  ·cases hb
  ·rename_i hn0;split at hb
   ·cases hb
    obtain⟨h1,rfl,rfl⟩:=hdo;rename_i hk;exact priv n hk h1 hn0
   ·cases hb
    obtain⟨h1,rfl,rfl⟩:=hdo;exact heap (by omega)
theorem pure_lref {d s k:Nat} {run:IT→AHeap→Option Res} (hdo:(OpR.pure [(d,.lref s k)]).does C run (σ.drop (OpR.pure [(d,.lref s k)]).news) h σ' h'):σ'=σ.set d (.lref s k)∧h'=h:=by obtain⟨rfl,rfl⟩:=hdo;exact⟨rfl,rfl⟩
theorem sim_op {run:IT→AHeap→Option Res} (hS:SimCalls C run) {o:Oper} {r:OpR} {K:Act→World→Prop} {Q:Exit→Act→World→Prop} (hc:classify C fid ops σ o=some r) (hdo:r.does C run (σ.drop r.news) h σ' h') (hr:Rel C γ0 w0 γ β σ h a w)
  (hK:∀γ' β' a' w',Rel C γ0 w0 γ' β' σ' h' a' w'→K a' w'):o.wp C.P a w K Q:=by
 by_cases hst:∃p args dst own dem,r= .op p args dst own dem∧p.still=true
 ·obtain⟨p,args,dst,own,dem,rfl,hps⟩:=hst
  obtain⟨hS',rfl,rfl,rfl⟩:=sim_still hc hps hr
  obtain⟨v,hv,rfl,rfl⟩:=hdo
  obtain⟨u,q1,q2⟩:=hS' v hv
  exact wp_value q1 (hK _ _ _ _ (hr.put λ_ _=>q2))
 ·have hno:∀{p args dst},r= .op p args dst false none→p.still=false:=λ{p args dst} he=>by
   cases hp:p.still with
   |false=>rfl
   |true=>exact absurd ⟨p,args,dst,false,none,he,hp⟩ hst
  have haop:∀{p dst x},aop p dst x=some r→p.still=false:=λ{p dst x} he=>by
   obtain⟨args,_,e⟩:=aop_some he
   exact hno e
  unfold classify at hc
  split at hc
  ·rename_i x ho
   split at hc
   ·rename_i d hd
    obtain⟨γ',hr'⟩:=sim_move hc hdo hr
    exact wp_value (w':=w) (v:=a.eval x) (by simp[execOp,ho]) (hK _ _ _ _ (by rw[hd];exact hr'))
   ·cases hc
  ·rename_i x ho
   split at hc
   ·rename_i d hd
    obtain⟨γ',hr'⟩:=sim_move hc hdo hr
    exact wp_value (w':=w) (v:=a.eval x) (by simp[execOp,ho]) (hK _ _ _ _ (by rw[hd];exact hr'))
   ·cases hc
  ·rename_i c x y ho
   split at hc
   ·rename_i d hcs hd
    obtain⟨γ',hr'⟩:=sim_move hc hdo hr
    obtain⟨s,h1,_⟩:=opSlot_any hr hcs
    have h1:a.eval c= .bool true:=h1
    exact wp_value (w':=w) (v:=a.eval x) (by simp[execOp,ho,h1,asBool]) (hK _ _ _ _ (by rw[hd];exact hr'))
   ·rename_i d hcs hd
    obtain⟨γ',hr'⟩:=sim_move hc hdo hr
    obtain⟨s,h1,_⟩:=opSlot_any hr hcs
    have h1:a.eval c= .bool false:=h1
    exact wp_value (w':=w) (v:=a.eval y) (by simp[execOp,ho,h1,asBool]) (hK _ _ _ _ (by rw[hd];exact hr'))
   ·cases haop hc
  ·rename_i t ho
   split at hc
   ·rename_i d z hd hz
    split at hc
    ·split at hc
     ·rename_i hcond
      cases hc
      obtain⟨rfl,rfl⟩:=hdo
      exact(sim_alloc_priv ho hd hz hcond.2 hr).wp hK
     ·cases hc
    ·rename_i hk
     refine(sim_boxOp (o:=o) (a:=a) (w:=w) (γ0:=γ0) (w0:=w0) hc hdo (λn h0 h1 h2=>absurd h0 (by simpa using hk)) λh1=>sim_alloc_heap ho hd hz h1 hr).wp hK
   ·cases hc
  ·rename_i t x ho
   split at hc
   ·rename_i d v hd hv
    exact(sim_boxOp (o:=o) (a:=a) (w:=w) (γ0:=γ0) (w0:=w0) hc hdo (λn _ h1 h2=>sim_box_priv ho hd hv h1 h2 hr) λh1=>sim_box_heap ho hd hv h1 hr).wp hK
   ·cases hc
  ·split at hc
   ·split at hc
    ·cases haop hc
    ·cases hc
   ·cases hc
  ·rename_i t len parts ho
   split at hc
   ·rename_i e ht
    split at hc
    ·rename_i n hn
     split at hc
     ·rename_i hcond
      split at hc
      ·rename_i hlen
       cases hc
       obtain⟨v,hv,rfl,rfl⟩:=hdo
       cases hv
       exact(sim_nosl ho ht hn hcond.1 hcond.2 hlen.1 hr).wp hK
      cases ha:opVals C σ (parts.toList.map (·.2)) with
      |none=>rw[ha] at hc;cases hc
      |some args=>
       rw[ha] at hc;cases hc
       obtain⟨v,hv,rfl,rfl⟩:=hdo
       exact(sim_mksl ho ht hn hcond.1 hcond.2 ha hv hr).wp hK
     ·cases hc
    ·cases hc
   ·cases hc
  ·rename_i t x ho
   split at hc
   ·rename_i d hd
    by_cases hp:∃ws,r= .pure ws
    ·exact(sim_load_priv ho hd hc hp hdo hr).wp hK
    ·unfold loadOp at hc
     split at hc
     ·rename_i n p ht hx
      cases hc
      obtain⟨v,hv,rfl,rfl⟩:=hdo
      have hs:=sim_load ho ht hx hv hr
      rw[hd] at hs
      exact hs.wp hK
     ·split at hc
      ·simp only at hc
       split at hc<;>(cases hc;exact absurd ⟨_,rfl⟩ hp)
      ·cases hc
     ·split at hc
      ·cases hc;exact absurd ⟨_,rfl⟩ hp
      ·cases hc
     ·cases hc
   ·cases hc
  ·rename_i t x y ho
   split at hc
   ·rename_i hd
    have hc':=hc
    unfold storeOp at hc
    split at hc
    ·rename_i n p v hsz hx hv
     cases hc
     obtain⟨hst',rfl⟩:=hdo
     exact(sim_store ho hd hsz hx hv hst' hr).wp hK
    ·split at hc
     ·cases hc
      exact(sim_bstore ho hd hc' hdo hr).wp hK
     ·cases hc
    ·cases hc
   ·cases hc
  ·rename_i x ho
   split at hc
   ·rename_i s ver cs ow d hd hs
    cases hc
    obtain⟨rfl,rfl⟩:=pure_lref hdo
    have he:=opSlot_box hr hs
    exact wp_value (w':=w) (v:= .pointer (some ⟨β s,0,none⟩)) (by simp[execOp,ho,he]) (hK _ _ _ _ (by rw[hd];exact hr.put (d:=some d) λ_ _=>rfl))
   ·rename_i s k d hd hs
    cases hc
    obtain⟨rfl,rfl⟩:=pure_lref hdo
    have he:=opSlot_lref hr hs
    exact wp_value (w':=w) (v:= .pointer (some ⟨β s,k,none⟩)) (by simp[execOp,ho,he]) (hK _ _ _ _ (by rw[hd];exact hr.put (d:=some d) λ_ _=>rfl))
   ·cases haop hc
  ·split at hc
   ·rename_i p hp
    have hps:=haop hc
    rw[binKind_still hp] at hps
    cases hps
   ·cases hc
  ·cases haop hc
  ·rename_i src dst' x ho
   split at hc
   ·rename_i hq
    unfold convOp at hq
    cases hv:opVal C σ x with
    |none=>rw[hv] at hc;cases hc
    |some v=>
     rw[hv] at hc;cases hc
     split at hq
     ·cases hq
     ·cases hq
     ·cases hq
     ·rename_i e hs hd
      split at hq
      ·rename_i he
       obtain⟨v',u,h1,h2,rfl⟩:=hdo
       exact(sim_b2s ho hs hd he hv h1 h2 hr).wp hK
      ·cases hq
     ·split at hq<;>cases hq
     ·cases hq
   ·rename_i hq
    unfold convOp at hq
    split at hq
    ·cases hq
    ·cases hq
    ·cases hq
    ·split at hq<;>cases hq
    ·rename_i e hs hd
     split at hq
     ·rename_i he _ _
      split at hc
      ·cases hv:opVal C σ x with
       |none=>rw[hv] at hc;cases hc
       |some v=>
        rw[hv] at hc;cases hc
        obtain⟨u,h1,rfl⟩:=hdo
        exact(sim_bytesObj ho hs hd he hv h1 hr).wp hK
      ·obtain⟨args,ha,rfl⟩:=aop_some hc
       obtain⟨u,h1,rfl,rfl⟩:=hdo
       obtain⟨v,rfl,_⟩:=args_one hr ha
       exact(sim_s2b ho hs hd he ha h1 hr).wp hK
     ·cases hq
    ·cases hq
   ·rename_i p hn1 hn2 hq
    have hps:=haop hc
    unfold convOp at hq
    split at hq
    ·cases hq;cases hps
    ·cases hq;cases hps
    ·cases hq
    ·split at hq
     ·cases hq;exact absurd rfl hn1
     ·cases hq
    ·split at hq
     ·cases hq;exact absurd rfl hn2
     ·cases hq
    ·cases hq
   ·cases hc
  ·rename_i fn first captured ho
   split at hc
   ·rename_i d as bs fz hd ha hb
    cases hc
    obtain⟨rfl,rfl⟩:=hdo
    exact(sim_closure ho hd ha hb hr).wp hK
   ·cases hc
  ·rename_i t ho
   cases hc
   obtain⟨rfl,rfl⟩:=hdo
   exact(sim_mnew ho hr).wp hK
  ·rename_i t l c ho
   split at hc
   ·rename_i e ht
    split at hc
    ·rename_i n b z vl vc hn hb hz hl hcc
     cases hc
     obtain⟨v,h1,rfl⟩:=hdo
     exact(sim_make ho ht hn hb hz hl hcc h1 hr).wp hK
    ·cases hc
   ·cases hc
  ·rename_i t m k x ho
   split at hc
   ·rename_i kt e ht
    split at hc
    ·rename_i vm vk vx hd hk ha
     cases hc
     obtain⟨h1,rfl⟩:=hdo
     exact(sim_mset (.inl ho) hd ht hk ha h1 hr).wp hK
    ·rename_i vm vk vx hd hk ha
     cases hc
     obtain⟨v,h1,rfl⟩:=hdo
     exact(sim_putI (.inl ho) hd ht hk ha h1 hr).wp hK
    ·cases hc
   ·cases hc
  ·rename_i t m k x ho
   split at hc
   ·rename_i kt e ht
    split at hc
    ·rename_i vm vk vx hd hk ha
     cases hc
     obtain⟨h1,rfl⟩:=hdo
     exact(sim_mset (.inr ho) hd ht hk ha h1 hr).wp hK
    ·rename_i vm vk vx hd hk ha
     cases hc
     obtain⟨v,h1,rfl⟩:=hdo
     exact(sim_putI (.inr ho) hd ht hk ha h1 hr).wp hK
    ·cases hc
   ·cases hc
  ·rename_i t m k ok ho
   split at hc
   ·rename_i kt e ht
    split at hc
    ·rename_i z vm vk hk hz ha
     cases hc
     obtain⟨v,h1,rfl,rfl⟩:=hdo
     exact(sim_mget ho ht hk hz ha h1 hr).wp hK
    ·rename_i z vm vk hk hz ha
     cases hc
     obtain⟨v,h1,rfl⟩:=hdo
     exact(sim_getI ho ht hk hz ha h1 hr).wp hK
    ·cases hc
   ·cases hc
  ·rename_i t x lo hi mx ho
   split at hc
   ·rename_i e ht
    split at hc
    ·rename_i n hn
     obtain⟨args,ha,rfl⟩:=amem_some hc
     obtain⟨v,h1,rfl⟩:=hdo
     simp only[meval] at h1
     split at h1
     ·rename_i hch
      cases h1
      exact(sim_chk3 ho ht hn ha hch hr).wp hK
     ·cases h1
    ·cases hc
   ·cases hc
  ·rename_i t x ho
   split at hc
   ·cases hc
   ·rename_i u hu ht
    obtain⟨args,ha,rfl⟩:=amem_some hc
    obtain⟨v,h1,rfl⟩:=hdo
    obtain⟨y,rfl,_⟩:=args_one hr ha
    cases h1
    exact(sim_mkif ho ht (λi e=>hu i e) ha hr).wp hK
   ·cases hc
  ·rename_i t m k ho
   split at hc
   ·rename_i kt e ht
    split at hc
    ·rename_i z hk hz
     obtain⟨args,ha,rfl⟩:=amem_some hc
     obtain⟨v,h1,rfl⟩:=hdo
     obtain⟨y1,y2,rfl,_,_⟩:=args_two hr ha
     exact(sim_entryI ho ht hk hz ha h1 hr).wp hK
    ·rename_i z hk hz
     obtain⟨args,ha,rfl⟩:=amem_some hc
     obtain⟨v,h1,rfl⟩:=hdo
     obtain⟨y1,y2,rfl,_,_⟩:=args_two hr ha
     exact(sim_entryS ho ht hk hz ha h1 hr).wp hK
    ·cases hc
   ·cases hc
  ·rename_i t m s x ho
   split at hc
   ·rename_i hd
    obtain⟨args,ha,rfl⟩:=amem_some hc
    obtain⟨v,h1,rfl⟩:=hdo
    obtain⟨y1,y2,y3,rfl⟩:∃y1 y2 y3,args=[y1,y2,y3]:=by
     have:=opVals_rel hr ha
     cases args with
     |nil=>cases h1
     |cons y1 l1=>cases l1 with
      |nil=>cases h1
      |cons y2 l2=>cases l2 with
       |nil=>cases h1
       |cons y3 l3=>cases l3 with
        |nil=>exact⟨_,_,_,rfl⟩
        |cons _ _=>cases h1
    exact(sim_storeI ho hd ha h1 hr).wp hK
   ·cases hc
  ·rename_i t x lo hi ho
   split at hc
   ·cases haop hc
   ·rename_i e ht
    split at hc
    ·rename_i n hn
     split at hc
     ·obtain⟨args,ha,rfl⟩:=amem_some hc
      obtain⟨v,h1,rfl⟩:=hdo
      cases args with
      |nil=>cases h1
      |cons y l=>exact(sim_deep ho ht hn ha h1 hr).wp hK
     ·cases haop hc
    ·cases hc
   ·cases hc
  ·rename_i t x f ho
   split at hc
   ·rename_i off sh d hf hd
    split at hc
    ·rename_i s ver cs ow hs
     cases hc
     obtain⟨rfl,rfl⟩:=pure_lref hdo
     have he:=opSlot_box hr hs
     exact wp_value (w':=w) (v:= .pointer (some ⟨β s,off,none⟩)) (by simp only[execOp,ho,he];exact run_value (by rw[run_fieldAt_addr hf];simp)) (hK _ _ _ _ (by rw[hd];exact hr.put (d:=some d) λ_ _=>rfl))
    ·rename_i s k hs
     cases hc
     obtain⟨rfl,rfl⟩:=pure_lref hdo
     have he:=opSlot_lref hr hs
     exact wp_value (w':=w) (v:= .pointer (some ⟨β s,k+off,none⟩)) (by simp only[execOp,ho,he];exact run_value (run_fieldAt_addr hf _ _)) (hK _ _ _ _ (by rw[hd];exact hr.put (d:=some d) λ_ _=>rfl))
    ·cases haop hc
   ·cases hc
  ·split at hc
   ·cases haop hc
   ·cases hc
  ·split at hc
   ·split at hc
    ·cases haop hc
    ·cases hc
   ·split at hc
    ·split at hc
     ·cases hc
     ·cases haop hc
    ·cases hc
   ·cases hc
  ·split at hc
   ·cases haop hc
   ·split at hc
    ·cases haop hc
    ·cases hc
   ·cases hc
  ·cases haop hc
  ·rename_i c ho
   unfold callOp at hc
   split at hc
   ·split at hc
    ·split at hc
     ·cases haop hc
     ·cases haop hc
     ·cases hc
    ·cases hc
   ·rename_i hcl
    split at hc
    ·rename_i t t' s x h0 h1 hargs
     split at hc
     all_goals first
      |(cases hc;done)
      | (rename_i e _ ht ht'
         split at hc
         · rename_i n b hn hb
           split at hc
           · rename_i hzo
             split at hc
             · rename_i v u ha
               split at hc
               · rename_i hown
                 split at hc
                 · cases hc
                   obtain ⟨r', h3, rfl⟩ := hdo
                   exact (sim_objOf ho hcl h0 h1 hargs ht (by first | exact .inl ⟨_, ht'⟩ | exact .inr ht') hn hb hown hzo ha h3 hr).wp hK
                 · split at hc
                   · cases hc
                     obtain ⟨r', h3, rfl, rfl⟩ := hdo
                     exact (sim_appendM ho hcl h0 h1 hargs ht (by first | exact .inl ⟨_, ht'⟩ | exact .inr ht') hn hb hown hzo ha h3 hr).wp hK
                   · cases hc
                     obtain ⟨r', h3, rfl, rfl⟩ := hdo
                     exact (sim_append ho hcl h0 h1 hargs ht (by first | exact .inl ⟨_, ht'⟩ | exact .inr ht') hn hb hown hzo ha h3 hr).wp hK
               · split at hc
                 · cases hc
                   obtain ⟨r', h3, rfl⟩ := hdo
                   exact (sim_grow ho hcl h0 h1 hargs ht (by first | exact .inl ⟨_, ht'⟩ | exact .inr ht') hn hb hzo ha h3 hr).wp hK
                 · cases hc
             · cases hc
           · cases hc
         · cases hc)
    ·cases hc
   ·rename_i hcl
    split at hc
    ·rename_i t t' s x h0 h1 hargs
     split at hc
     all_goals first
      |(cases hc;done)
      | (rename_i e _ ht ht'
         split at hc
         · rename_i n hn
           obtain ⟨args, ha, rfl⟩ := amem_some hc
           obtain ⟨v, h3, rfl⟩ := hdo
           obtain ⟨y1, y2, rfl, _, _⟩ := args_two hr ha
           exact (sim_copy ho hcl h0 h1 hargs ht (by first | exact .inl ⟨_, ht'⟩ | exact .inr ht') hn ha h3 hr).wp hK
         · cases hc)
    ·cases hc
   ·rename_i hcl
    split at hc
    ·rename_i t s h0 hargs
     split at hc
     ·rename_i e ht
      split at hc
      ·rename_i n z hn hz
       obtain⟨args,ha,rfl⟩:=amem_some hc
       obtain⟨v,h3,rfl⟩:=hdo
       obtain⟨y1,rfl,_⟩:=args_one hr ha
       exact(sim_clear ho hcl h0 hargs ht hn hz ha h3 hr).wp hK
      ·cases hc
     ·cases hc
    ·cases hc
   ·split at hc
    ·cases haop hc
    ·cases hc
   ·split at hc
    ·cases haop hc
    ·cases hc
   ·rename_i f hcl
    split at hc
    ·rename_i hf
     split at hc
     ·rename_i s i x hargs
      split at hc
      ·rename_i hown
       obtain⟨args,ha,rfl⟩:=amem_some hc
       obtain⟨v,h3,rfl⟩:=hdo
       exact sim_ins hS ho hcl hf hargs hown ha h3 hr λγ' v w' hr'=>hK _ _ _ _ hr'
      ·cases hc
     ·cases hc
    split at hc
    rotate_left
    ·cases hc
    rename_i hre
    rw[←hre] at hcl
    cases ha:opVals C σ c.args.toList with
    |none=>rw[ha] at hc;cases hc
    |some args=>
     rw[ha] at hc
     simp only[Option.map_some,Option.some.injEq] at hc
     split at hc
     ·cases hc
      obtain⟨hfl,rv,h1,h2,h3,rfl,rfl⟩:=hdo
      exact sim_pcall hS ho hcl ha hfl h2 h3 hr λγ' v w' hr'=>hK _ _ _ _ hr'
     ·cases hc
      obtain⟨rv,h1,rfl⟩:=hdo
      exact sim_call hS ho hcl ha h1 hr λγ' v w' hr'=>hK _ _ _ _ hr'
   ·rename_i g hn hcl
    split at hc
    ·rename_i gv args hg ha
     cases hc
     obtain⟨f,args',rv,h0,h1,rfl⟩:=hdo
     exact sim_callv hS ho hcl hg ha h0 h1 hr λγ' v w' hr'=>hK _ _ _ _ hr'
    ·cases hc
   ·cases hc
  ·cases hc
end
end Go.Am
end
section
namespace Go.Am
open Go
section
variable {C:Ctx} {σ τ:Env} {fid:FuncId} {ops:List Oper}
theorem opSlot_local {x:Operand} (h:∀t,x= .tmp t→τ.at t=σ.at t):opSlot C τ x=opSlot C σ x:=by
 cases x with
 |tmp t=>simp only[opSlot,h t rfl]
 |const v=>
  cases v with
  |slice a b c=>cases a<;>cases b<;>cases c<;>rfl
  |_=>rfl
 |global g=>rfl
 |func f=>rfl
def Loc (C:Ctx) (σ τ:Env) (xs:List Operand):Prop:=∀x∈xs,opSlot C τ x=opSlot C σ x
theorem Loc.of_tmps {xs:List Operand} (h:∀t∈tmpsOf xs,τ.at t=σ.at t):Loc C σ τ xs:=λx hx=>opSlot_local λt ht=>h t (by subst ht;exact List.mem_filterMap.2 ⟨_,hx,rfl⟩)
theorem Loc.val {xs:List Operand} (h:Loc C σ τ xs) {x:Operand} (hx:x∈xs):opVal C τ x=opVal C σ x:=by unfold opVal;rw[h x hx]
theorem Loc.vals {xs:List Operand} (h:Loc C σ τ xs):∀{ys:List Operand},(∀y∈ys,y∈xs)→opVals C τ ys=opVals C σ ys
 |[],_=>rfl
 |y::ys,hy=>by unfold opVals;rw[h.val (hy y (by simp)),h.vals λz hz=>hy z (by simp[hz])]
theorem Loc.move {xs:List Operand} (h:Loc C σ τ xs) {x:Operand} (hx:x∈xs) (d:Nat) (take:Bool):moveOp C τ x d take=moveOp C σ x d take:=by unfold moveOp;rw[h x hx]
theorem Loc.own {xs:List Operand} (h:Loc C σ τ xs) {x:Operand} (hx:x∈xs):isOwn C τ x=isOwn C σ x:=by unfold isOwn;rw[h x hx]
theorem Loc.demote {xs:List Operand} (h:Loc C σ τ xs) {x:Operand} (hx:x∈xs):demoteOf τ x=demoteOf σ x:=by
 cases x with
 |tmp t=>have:=h _ hx;simp only[opSlot,Option.some.injEq] at this;simp only[demoteOf,this]
 |_=>rfl
theorem Loc.captures {xs:List Operand} (h:Loc C σ τ xs):∀{ys:List Operand},(∀y∈ys,y∈xs)→Am.captures C τ ys=Am.captures C σ ys
 |[],_=>rfl
 |y::ys,hy=>by unfold Am.captures;rw[h y (hy y (by simp)),h.captures λz hz=>hy z (by simp[hz])]
theorem Loc.addr {xs:List Operand} (h:Loc C σ τ xs) {x:Operand} (hx:x∈xs) (hb:∀s∈(baseOf C σ x).toList,τ.at s=σ.at s) (hn:addrOf C σ x≠none):addrOf C τ x=addrOf C σ x:=by
 have hop:=h x hx
 cases hs:opSlot C σ x with
 |none=>unfold addrOf at hn;rw[hs] at hn;exact absurd (by split<;>simp_all) hn
 |some sl=>
  rw[hs] at hop
  cases sl with
  |lref s o=>
   have h1:∀ρ:Env,opSlot C ρ x=some (.lref s o)→addrOf C ρ x=match ρ.at s with| .box ver cs ow=>some (.priv s o ver cs ow)|_=>none:=λρ hρ=>by unfold addrOf;rw[hρ];cases x<;>rfl
   rw[h1 σ hs] at hn⊢;rw[h1 τ hop];have h2:s∈(baseOf C σ x).toList:=by
    unfold baseOf;rw[h1 σ hs]
    cases hb':σ.at s with
    |box ver cs ow=>simp
    |_=>rw[hb'] at hn;exact absurd rfl hn
   rw[hb s h2]
  |_=>unfold addrOf;rw[hs,hop];cases x<;>rfl
theorem Loc.load {xs:List Operand} (h:Loc C σ τ xs) {x:Operand} (hx:x∈xs) (hb:∀s∈(baseOf C σ x).toList,τ.at s=σ.at s) {t:TypeId} {d:Nat} {take:Bool} {r:OpR} (hc:loadOp C σ t x d take=some r):loadOp C τ t x d take=some r:=by
 have hn:addrOf C σ x≠none:=λhe=>by
  unfold loadOp at hc;rw[he] at hc
  grind
 unfold loadOp at hc⊢;rw[h.addr hx hb hn];exact hc
theorem Loc.store {xs:List Operand} (h:Loc C σ τ xs) {x y:Operand} (hx:x∈xs) (hy:y∈xs) (hb:∀s∈(baseOf C σ x).toList,τ.at s=σ.at s) {t:TypeId} {r:OpR} (hc:storeOp C σ t x y=some r):storeOp C τ t x y=some r:=by
 have hn:addrOf C σ x≠none:=λhe=>by
  unfold storeOp at hc;rw[he] at hc
  grind
 unfold storeOp at hc⊢;rw[h.addr hx hb hn,h.val hy,h.own hy,h.demote hy];exact hc
theorem Loc.call {c:Call} (h:Loc C σ τ c.operands.toList) (dst:Option Nat):callOp C fid τ c dst=callOp C fid σ c dst:=by
 have ha:∀y∈c.args.toList,y∈c.operands.toList:=λy hy=>by unfold Call.operands;rw[Array.toList_append];exact List.mem_append_right _ hy
 have hv:opVals C τ c.args.toList=opVals C σ c.args.toList:=h.vals ha;unfold callOp;split
 ·rw[hv]
 ·split
  ·rename_i hargs;have h1:∀{s x:Operand},c.args.toList=[s,x]→isOwn C τ s=isOwn C σ s∧demoteOf τ s=demoteOf σ s∧opVals C τ [s,x]=opVals C σ [s,x]:=λ{s x} he=>by rw[he] at ha;exact⟨h.own (ha s (by simp)),h.demote (ha s (by simp)),h.vals λy hy=>ha y hy⟩
   obtain⟨e1,e2,e3⟩:=h1 hargs;rw[e1,e2,e3]
  ·rfl
 ·split
  ·rename_i hargs;rw[hargs] at ha;rw[h.vals λy hy=>ha y hy]
  ·rfl
 ·split
  ·rename_i hargs;rw[hargs] at ha;rw[h.vals λy hy=>ha y hy]
  ·rfl
 ·rw[hv]
 ·rw[hv]
 ·split
  ·split
   ·rename_i s i v hargs;rw[hargs] at ha;rw[h.own (ha v (by simp)),h.vals λy hy=>ha y hy]
   ·rfl
  ·rw[hv]
 ·rename_i g _ hcl;have hg:g∈c.operands.toList:=by unfold Call.operands;rw[hcl];simp
  rw[hv,h.val hg]
 ·rfl
theorem classify_local {o:Oper} {r:OpR} (hc:classify C fid ops σ o=some r) (ht:∀t∈tmpsOf o.op.operands.toList,τ.at t=σ.at t) (hb:∀s∈contentOf C σ o,τ.at s=σ.at s):classify C fid ops τ o=some r:=by
 have h:Loc C σ τ o.op.operands.toList:= .of_tmps ht
 unfold classify at hc⊢
 cases ho:o.op with
 |move x=>
  rw[ho] at h
  simp only[ho] at hc⊢
  have:=λd=>h.move (x:=x) (by simp[Op.operands]) d
  simpa only[this] using hc
 |assign x=>
  rw[ho] at h
  simp only[ho] at hc⊢
  have:=λd=>h.move (x:=x) (by simp[Op.operands]) d
  simpa only[this] using hc
 |pick c a b=>
  rw[ho] at h
  simp only[ho] at hc⊢
  have h1:=λd=>h.move (x:=a) (by simp[Op.operands]) d
  have h2:=λd=>h.move (x:=b) (by simp[Op.operands]) d
  rw[h c (by simp[Op.operands]),h.vals (ys:=[c,a,b]) (by simp[Op.operands])]
  simpa only[h1,h2] using hc
 |alloc t=>rw[ho] at hc;exact hc
 |box t x=>
  rw[ho] at h
  simp only[ho] at hc⊢
  rw[h.val (x:=x) (by simp[Op.operands])]
  exact hc
 |build t parts=>
  rw[ho] at h
  simp only[ho] at hc⊢
  rw[h.vals (ys:=parts.toList.map (·.2)) (by simp[Op.operands])]
  exact hc
 |buildSlice t len parts=>
  rw[ho] at h
  simp only[ho] at hc⊢
  rw[h.vals (ys:=parts.toList.map (·.2)) (by simp[Op.operands])]
  exact hc
 |load t x=>
  rw[ho] at h
  simp only[ho] at hc⊢
  split at hc
  ·exact h.load (by simp[Op.operands]) (λs hs=>hb s (by simpa only[contentOf,ho] using hs)) hc
  ·cases hc
 |store t x y=>
  rw[ho] at h
  simp only[ho] at hc⊢
  split at hc
  ·exact h.store (by simp[Op.operands]) (by simp[Op.operands]) (λs hs=>hb s (by simpa only[contentOf,ho] using hs)) hc
  ·cases hc
 |nilCheck x=>
  rw[ho] at h
  simp only[ho] at hc⊢
  have e2:=h.vals (ys:=[x]) (by simp[Op.operands])
  rw[h x (by simp[Op.operands])]
  cases hs:opSlot C σ x with
  |none=>rw[hs] at hc;cases x<;>cases hd:o.dst<;>rw[hd] at hc<;>first|exact hc|(show aop _ _ (opVals C τ [_])=some r;rw[e2];exact hc)
  |some sl=>rw[hs] at hc;cases sl<;>cases x<;>cases hd:o.dst<;>rw[hd] at hc<;>first|exact hc|(show aop _ _ (opVals C τ [_])=some r;rw[e2];exact hc)
 |binOp op t x y k=>
  rw[ho] at h
  simp only[ho] at hc⊢
  rw[h.vals (ys:=[x,y]) (by simp[Op.operands])]
  exact hc
 |unOp op t x=>
  rw[ho] at h
  simp only[ho] at hc⊢
  rw[h.vals (ys:=[x]) (by simp[Op.operands])]
  exact hc
 |convert src dst x=>
  rw[ho] at h
  simp only[ho] at hc⊢
  rw[h.vals (ys:=[x]) (by simp[Op.operands]),h.val (x:=x) (by simp[Op.operands])]
  exact hc
 |makeFunc fn first captured=>
  rw[ho] at h
  simp only[ho] at hc⊢
  rw[h.vals (ys:=first.toList) (λ_ hm=>by simp[Op.operands,hm]),h.captures (ys:=captured.toList) (λ_ hm=>by simp[Op.operands,hm])]
  exact hc
 |makeMap t r'=>
  rw[ho] at hc
  cases r' with
  |none=>exact hc
  |some _=>cases hc
 |makeSlice t l c=>
  rw[ho] at h
  simp only[ho] at hc⊢
  rw[h.val (x:=l) (by simp[Op.operands]),h.val (x:=c) (by simp[Op.operands])]
  exact hc
 |insert t m k v=>
  rw[ho] at h
  simp only[ho] at hc⊢
  rw[h.vals (ys:=[m,k,v]) (by simp[Op.operands])]
  exact hc
 |mapUpdate t m k v=>
  rw[ho] at h
  simp only[ho] at hc⊢
  rw[h.vals (ys:=[m,k,v]) (by simp[Op.operands])]
  exact hc
 |lookup t m k ok=>
  rw[ho] at h
  simp only[ho] at hc⊢
  rw[h.vals (ys:=[m,k]) (by simp[Op.operands])]
  exact hc
 |slice t x lo hi mx=>
  rw[ho] at h hc
  cases mx with
  |none=>
   have e2:=h.vals (ys:=x::(lo.toList++hi.toList)) (by cases lo<;>cases hi<;>simp[Op.operands])
   simp only at hc⊢
   rw[e2]
   exact hc
  |some mx=>cases lo with
   |none=>cases hc
   |some lo=>cases hi with
    |none=>cases hc
    |some hi=>
     have e2:=h.vals (ys:=[x,lo,hi,mx]) (by simp[Op.operands])
     simp only at hc⊢
     rw[e2]
     exact hc
 |makeInterface t x=>
  rw[ho] at h
  simp only[ho] at hc⊢
  rw[h.vals (ys:=[x]) (by simp[Op.operands])]
  exact hc
 |mapEntry t m k=>
  rw[ho] at h
  simp only[ho] at hc⊢
  rw[h.vals (ys:=[m,k]) (by simp[Op.operands])]
  exact hc
 |entryStore t m s v=>
  rw[ho] at h
  simp only[ho] at hc⊢
  rw[h.vals (ys:=[m,s,v]) (by simp[Op.operands])]
  exact hc
 |fieldAddr t x f=>
  rw[ho] at h
  simp only[ho] at hc⊢
  have e2:=h.vals (ys:=[x]) (by simp[Op.operands])
  rw[h x (by simp[Op.operands])]
  cases hf:fieldOff C.P t f with
  |none=>rw[hf] at hc;cases hc
  |some q=>
   rw[hf] at hc
   cases hd:o.dst with
   |none=>rw[hd] at hc;cases hc
   |some d=>
    rw[hd] at hc
    cases hs:opSlot C σ x with
    |none=>rw[hs] at hc;cases x<;>first|exact hc|(show aop _ _ (opVals C τ [_])=some r;rw[e2];exact hc)
    |some sl=>rw[hs] at hc;cases sl<;>cases x<;>first|exact hc|(show aop _ _ (opVals C τ [_])=some r;rw[e2];exact hc)
 |field t x f=>
  rw[ho] at h
  simp only[ho] at hc⊢
  rw[h.vals (ys:=[x]) (by simp[Op.operands])]
  exact hc
 |indexAddr t x i=>
  rw[ho] at h
  simp only[ho] at hc⊢
  rw[h.vals (ys:=[x,i]) (by simp[Op.operands])]
  exact hc
 |index t x i=>
  rw[ho] at h
  simp only[ho] at hc⊢
  rw[h.vals (ys:=[x,i]) (by simp[Op.operands])]
  exact hc
 |extract x i=>
  rw[ho] at h
  simp only[ho] at hc⊢
  rw[h.vals (ys:=[x]) (by simp[Op.operands])]
  exact hc
 |call c=>
  rw[ho] at h
  simp only[ho] at hc⊢
  rw[h.call]
  exact hc
 |_=>simp only[ho] at hc;cases hc
end
end Go.Am
end
section
namespace Go.Am
open Go
mutual
theorem AVal.beq_eq:∀{a b:AVal},AVal.beq a b=true→a=b
 | .bool a,b,h=>by cases b<;>simp[AVal.beq] at h⊢;exact h
 | .int k a,b,h=>by cases b<;>simp[AVal.beq] at h⊢;exact h
 | .str a,b,h=>by cases b<;>simp[AVal.beq] at h⊢;exact h
 | .ptr a,b,h=>by cases b<;>simp[AVal.beq] at h⊢;exact h
 | .nosl a,b,h=>by cases b<;>simp[AVal.beq] at h⊢;exact h
 | .rptr a,b,h=>by cases b<;>simp[AVal.beq] at h⊢;exact AVal.beqL_eq h
 | .sl n a,b,h=>by cases b<;>simp[AVal.beq] at h⊢;exact⟨h.1,AVal.beqLL_eq h.2⟩
 | .slnil,b,h=>by cases b<;>simp[AVal.beq] at h⊢
 | .msl a c d e,b,h=>by cases b<;>simp[AVal.beq] at h⊢;exact⟨h.1.1.1,h.1.1.2,h.1.2,h.2⟩
 | .map a,b,h=>by cases b<;>simp[AVal.beq] at h⊢;exact h
 | .func f a c,b,h=>by cases b<;>simp[AVal.beq] at h⊢;exact⟨h.1.1,AVal.beqL_eq h.1.2,AVal.beqL_eq h.2⟩
 | .nilFunc,b,h=>by cases b<;>simp[AVal.beq] at h⊢
 | .iface t a,b,h=>by cases b<;>simp[AVal.beq] at h⊢;exact⟨h.1,AVal.beq_eq h.2⟩
 | .nilIface,b,h=>by cases b<;>simp[AVal.beq] at h⊢
 | .agg a,b,h=>by cases b<;>simp[AVal.beq] at h⊢;exact AVal.beqL_eq h
 | .tuple a,b,h=>by cases b<;>simp[AVal.beq] at h⊢;exact AVal.beqL_eq h
theorem AVal.beqL_eq:∀{a b:List AVal},AVal.beqL a b=true→a=b
 |[],b,h=>by cases b<;>simp[AVal.beqL] at h⊢
 |a::x,b,h=>by
  cases b with
  |nil=>simp[AVal.beqL] at h
  |cons c y=>simp[AVal.beqL] at h⊢;exact⟨AVal.beq_eq h.1,AVal.beqL_eq h.2⟩
theorem AVal.beqLL_eq:∀{a b:List (List AVal)},AVal.beqLL a b=true→a=b
 |[],b,h=>by cases b<;>simp[AVal.beqLL] at h⊢
 |a::x,b,h=>by
  cases b with
  |nil=>simp[AVal.beqLL] at h
  |cons c y=>simp[AVal.beqLL] at h⊢;exact⟨AVal.beqL_eq h.1,AVal.beqLL_eq h.2⟩
end
theorem Env.puts_append (σ:Env):∀(a b:List (Nat×Slot)),σ.puts (a++b)=(σ.puts a).puts b
 |[],_=>rfl
 |(s,x)::a,b=>Env.puts_append (σ.set s x) a b
theorem Env.length_puts:∀(ws:List (Nat×Slot)) (σ:Env),(σ.puts ws).length=σ.length
 |[],_=>rfl
 |(s,x)::ws,σ=>by rw[Env.puts,Env.length_puts ws];simp
theorem Env.at_set (σ:Env) (s t:Nat) (x:Slot):Env.at (σ.set s x) t=if s=t∧t<σ.length then x else σ.at t:=by
 by_cases h:s=t
 ·subst h;by_cases hl:s<σ.length
  ·simp[Env.at,List.getD,hl]
  ·simp[Env.at,List.getD,hl]
 ·simp[Env.at,List.getD,List.getElem?_set_ne h,h]
theorem Env.at_puts_out:∀(ws:List (Nat×Slot)) (σ:Env) (t:Nat),(∀p∈ws,p.1≠t)→(σ.puts ws).at t=σ.at t
 |[],_,_,_=>rfl
 |(s,x)::ws,σ,t,h=>by rw[Env.puts,Env.at_puts_out ws _ t λp hp=>h p (by simp[hp]),Env.at_set,if_neg];simp_all
theorem Env.at_puts_or:∀(ws:List (Nat×Slot)) (σ:Env) (t:Nat),(σ.puts ws).at t=σ.at t∨∃p∈ws,p.1=t∧(σ.puts ws).at t=p.2
 |[],_,_=> .inl rfl
 |(s,x)::ws,σ,t=>by
  rcases Env.at_puts_or ws (σ.set s x) t with h|⟨p,hp,h1,h2⟩
  ·rw[Env.at_set] at h;by_cases hc:s=t∧t<σ.length
   ·rw[if_pos hc] at h;exact .inr ⟨(s,x),by simp,hc.1,h⟩
   ·rw[if_neg hc] at h;exact .inl h
  ·exact .inr ⟨p,by simp[hp],h1,h2⟩
theorem Env.at_puts_congr:∀(ws:List (Nat×Slot)) (σ τ:Env) (t:Nat),τ.length=σ.length→τ.at t=σ.at t→(τ.puts ws).at t=(σ.puts ws).at t
 |[],_,_,_,_,h=>h
 |(s,x)::ws,σ,τ,t,hl,h=>by refine Env.at_puts_congr ws _ _ t (by simpa using hl) ?_;rw[Env.at_set,Env.at_set,hl,h]
theorem Env.ext {σ τ:Env} (hl:τ.length=σ.length) (h:∀t,τ.at t=σ.at t):τ=σ:=by apply List.ext_getElem hl;intro i h1 h2;have:=h i;simpa[Env.at,List.getD,h1,h2] using this
theorem Env.puts_comm {σ:Env} {a b:List (Nat×Slot)} (h:∀p∈a,∀q∈b,p.1≠q.1):(σ.puts a).puts b=(σ.puts b).puts a:=by
 refine Env.ext (by simp[Env.length_puts]) λt=>?_;by_cases ha:∀p∈a,p.1≠t
 ·rw[Env.at_puts_out a (σ.puts b) t ha];exact Env.at_puts_congr b _ _ t (by simp[Env.length_puts]) (Env.at_puts_out a σ t ha)
 ·have⟨p,hp,hpt⟩:∃p∈a,p.1=t:=Classical.byContradiction λhn=>ha λp hp e=>hn ⟨p,hp,e⟩;have hb:∀q∈b,q.1≠t:=λq hq e=>h p hp q hq (by rw[hpt,e]);rw[Env.at_puts_out b (σ.puts a) t hb];exact(Env.at_puts_congr a _ _ t (by simp[Env.length_puts]) (Env.at_puts_out b σ t hb)).symm
theorem noLref_iff {σ:Env} {ds:List Nat}:noLref σ ds=true↔∀x t o,σ.at x= .lref t o→t∉ds:=by
 unfold noLref;rw[List.all_eq_true];constructor
 ·intro h x t o hx;by_cases hl:x<σ.length
  ·have:=h (σ.at x) (by simp[Env.at,List.getD,hl])
   grind
  ·simp[Env.at,List.getD,hl] at hx
 ·intro h s hs;obtain⟨i,hi⟩:=List.getElem?_of_mem hs
  cases s with
  |lref t o=>
   have:=h i t o (by simp[Env.at,List.getD,hi])
   grind
  |_=>rfl
theorem meets_iff {a b:List Nat}:meets a b=true↔∃x,x∈a∧x∈b:=by simp[meets]
structure St where
 idx:Nat
 fp:FP
 fl:Option Float
def floatOf (i:Nat) (r:OpR) (σ:Env):Option Float:=
 match r with
 | .load n p (some d)=>match σ.at d with
  | .val v=>some {idx:=i,n,p,v}
  |_=>none
 |_=>none
theorem floatsAfter_eq (i:Nat) (r:OpR) (σ:Env) (fl:List Float):floatsAfter i r σ fl=(floatOf i r σ).toList++fl:=by
 cases r with
 |load n p dst=>
  cases dst with
  |none=>rfl
  |some d=>simp only[floatsAfter,floatOf];cases σ.at d<;>rfl
 |_=>rfl
theorem floatOf_congr {i:Nat} {r:OpR} {σ τ:Env} (h:∀d∈r.wf,τ.at d=σ.at d):floatOf i r τ=floatOf i r σ:=by
 cases r with
 |load n p dst=>
  cases dst with
  |none=>rfl
  |some d=>simp only[floatOf];rw[h d (by simp[OpR.wf])]
 |_=>rfl
def Asked (d:Option Nat) (σ σ':Env):Prop:=
 match d with
 |none=>σ'=σ
 |some d=>match σ.at d with
  | .val v=>∃b,v= .bool b∧σ'=σ.set d (.cst b)
  |_=>σ'=σ
section
variable {C:Ctx} {fid:FuncId} {ops:List Oper} {run:IT→AHeap→Option Res} {σ τ σ':Env} {h h':AHeap}
def AStep (C:Ctx) (fid:FuncId) (ops:List Oper) (run:IT→AHeap→Option Res) (s:St) (σ:Env) (h:AHeap) (σ':Env) (h':AHeap):Prop:=
 ∃o,ops[s.idx]?=some o∧
  ((guardOf ops σ o = .known false ∧ s.fp = fpOf C ops σ o none ∧ s.fl = none ∧ σ' = σ.put o.dst .skip ∧ h' = h) ∨
   ∃ r σ1, guardOf ops σ o = .known true ∧ classify C fid ops σ o = some r ∧ s.fp = fpOf C ops σ o (some r) ∧ r.does C run (σ.drop r.news) h σ1 h' ∧ s.fl = floatOf s.idx r σ1 ∧
     Asked (if isGuard ops s.idx then o.dst else none) σ1 σ')
theorem put_eq (σ:Env) (d:Option Nat) (x:Slot):σ.put d x=σ.puts (d.toList.map λs=>(s,x)):=by cases d<;>rfl
theorem demote_eq (σ:Env) (d:Option (Nat×AVal)):σ.demote d=σ.puts (d.toList.map λp=>(p.1,.val p.2)):=by cases d<;>rfl
theorem does_puts {r:OpR} (hd:r.does C run σ h σ' h'):∃ws,σ'=σ.puts ws∧(∀p∈ws,p.1∈r.wf)∧(∀p∈ws,∀t o,p.2= .lref t o→t∈r.lrefs)∧∀τ,r.does C run τ h (τ.puts ws) h':=by
 have one:∀(d:Option Nat) (x:Slot),(∀t o,x≠ .lref t o)→σ'=σ.put d x→d.toList⊆r.wf→(∀τ,r.does C run τ h (τ.put d x) h')→
   ∃ws,σ'=σ.puts ws∧(∀p∈ws,p.1∈r.wf)∧(∀p∈ws,∀t o,p.2= .lref t o→t∈r.lrefs)∧∀τ,r.does C run τ h (τ.puts ws) h':=by
  intro d x hx he hw ht;refine⟨d.toList.map λs=>(s,x),by rw[←put_eq];exact he,λp hp=>?_,λp hp t o hl=>?_,λτ=>by rw[←put_eq];exact ht τ⟩
  ·obtain⟨s,hs,rfl⟩:=List.mem_map.1 hp;exact hw hs
  ·obtain⟨s,hs,rfl⟩:=List.mem_map.1 hp;exact absurd hl (hx t o)
 have two:∀(dem:Option (Nat×AVal)) (d:Option Nat) (x:Slot),(∀t o,x≠ .lref t o)→σ'=(σ.demote dem).put d x→d.toList⊆r.wf→(dem.map (·.1)).toList⊆r.wf→(∀τ,r.does C run τ h ((τ.demote dem).put d x) h')→
   ∃ws,σ'=σ.puts ws∧(∀p∈ws,p.1∈r.wf)∧(∀p∈ws,∀t o,p.2= .lref t o→t∈r.lrefs)∧∀τ,r.does C run τ h (τ.puts ws) h':=by
  intro dem d x hx he hw hw2 ht;have e:∀τ:Env,(τ.demote dem).put d x=τ.puts ((dem.toList.map λp=>(p.1,.val p.2))++d.toList.map λs=>(s,x)):=λτ=>by rw[Env.puts_append,←demote_eq,←put_eq]
  refine⟨_,by rw[he,e],λp hp=>?_,λp hp t o hl=>?_,λτ=>by rw[←e];exact ht τ⟩
  ·rcases List.mem_append.1 hp with hp|hp
   ·obtain⟨q,hq,rfl⟩:=List.mem_map.1 hp;exact hw2 (by cases dem<;>simp_all)
   ·obtain⟨s,hs,rfl⟩:=List.mem_map.1 hp;exact hw hs
  ·rcases List.mem_append.1 hp with hp|hp
   ·obtain⟨q,hq,rfl⟩:=List.mem_map.1 hp
    cases hl
   ·obtain⟨s,hs,rfl⟩:=List.mem_map.1 hp;exact absurd hl (hx t o)
 cases r with
 |pure ws=>obtain⟨rfl,rfl⟩:=hd;refine⟨ws,rfl,λp hp=>List.mem_map.2 ⟨p,hp,rfl⟩,λp hp t o hl=>?_,λτ=>⟨rfl,rfl⟩⟩;exact List.mem_filterMap.2 ⟨p.2,List.mem_map.2 ⟨p,hp,rfl⟩,by rw[hl]⟩
 |op p args dst own dem=>obtain⟨v,hv,rfl,rfl⟩:=hd;exact two dem dst _ (by cases own<;>simp) rfl (by simp[OpR.wf]) (by simp[OpR.wf]) λτ=>⟨v,hv,rfl,rfl⟩
 |box n v d=>obtain⟨hn,rfl,rfl⟩:=hd;exact one (some d) _ (by simp) rfl (by simp[OpR.wf]) λτ=>⟨hn,rfl,rfl⟩
 |closure fn x b fz d=>
  obtain⟨rfl,rfl⟩:=hd;refine⟨(fz.map λ(s,cs)=>(s,.val (.rptr cs)))++[(d,.val (.func fn x b))],by rw[Env.puts_append];rfl,λp hp=>?_,λp hp t o hl=>?_,λτ=>⟨by rw[Env.puts_append];rfl,rfl⟩⟩
  ·rcases List.mem_append.1 hp with hp|hp
   ·obtain⟨q,hq,rfl⟩:=List.mem_map.1 hp;exact List.mem_cons_of_mem _ (List.mem_map.2 ⟨q,hq,rfl⟩)
   ·simp at hp;subst hp;simp[OpR.wf]
  ·rcases List.mem_append.1 hp with hp|hp
   ·obtain⟨q,hq,rfl⟩:=List.mem_map.1 hp
    cases hl
   ·simp at hp;subst hp;cases hl
 |bstore s off n v own dem ver cells owned=>obtain⟨hn,rfl,rfl⟩:=hd;exact two dem (some s) _ (by simp) rfl (by simp[OpR.wf]) (by simp[OpR.wf]) λτ=>⟨hn,rfl,rfl⟩
 |load n p dst=>obtain⟨v,hv,rfl,rfl⟩:=hd;exact one dst _ (by simp) rfl (by simp[OpR.wf]) λτ=>⟨v,hv,rfl,rfl⟩
 |store n p v=>obtain⟨hv,rfl⟩:=hd;exact one none .undef (by simp) rfl (by simp) λτ=>⟨hv,rfl⟩
 |alloc n v dst=>obtain⟨hn,rfl,rfl⟩:=hd;exact one dst _ (by simp) rfl (by simp[OpR.wf]) λτ=>⟨hn,rfl,rfl⟩
 |call f args dst=>obtain⟨v,hv,rfl⟩:=hd;exact one dst _ (by intro t o;split<;>simp) rfl (by simp[OpR.wf]) λτ=>⟨v,hv,rfl⟩
 |callv g args dst=>obtain⟨f,x,v,h1,h2,rfl⟩:=hd;exact one dst _ (by simp) rfl (by simp[OpR.wf]) λτ=>⟨f,x,v,h1,h2,rfl⟩
 |pcall f args dst=>obtain⟨hfl,v,h1,h2,h3,rfl,rfl⟩:=hd;exact one dst _ (by simp) rfl (by simp[OpR.wf]) λτ=>⟨hfl,v,h1,h2,h3,rfl,rfl⟩
 |mnew dst=>obtain⟨rfl,rfl⟩:=hd;exact one dst _ (by simp) rfl (by simp[OpR.wf]) λτ=>⟨rfl,rfl⟩
 |mset m k v=>obtain⟨hv,rfl⟩:=hd;exact one none .undef (by simp) rfl (by simp) λτ=>⟨hv,rfl⟩
 |mget z ok m k dst=>obtain⟨v,hv,rfl,rfl⟩:=hd;exact one dst _ (by simp) rfl (by simp[OpR.wf]) λτ=>⟨v,hv,rfl,rfl⟩
 |make z b zero l c dst=>obtain⟨v,hv,rfl⟩:=hd;exact one dst _ (by simp) rfl (by simp[OpR.wf]) λτ=>⟨v,hv,rfl⟩
 |objOf z b s x dst dem=>obtain⟨v,hv,rfl⟩:=hd;exact two dem dst _ (by simp) rfl (by simp[OpR.wf]) (by simp[OpR.wf]) λτ=>⟨v,hv,rfl⟩
 |grow z b s x dst=>obtain⟨v,hv,rfl⟩:=hd;exact one dst _ (by simp) rfl (by simp[OpR.wf]) λτ=>⟨v,hv,rfl⟩
 |appendM z b s x dst dem=>obtain⟨v,hv,rfl,rfl⟩:=hd;exact two dem dst _ (by simp) rfl (by simp[OpR.wf]) (by simp[OpR.wf]) λτ=>⟨v,hv,rfl,rfl⟩
 |bytesObj s dst=>obtain⟨v,hv,rfl⟩:=hd;exact one dst _ (by simp) rfl (by simp[OpR.wf]) λτ=>⟨v,hv,rfl⟩
 |b2s s dst=>obtain⟨v,u,h1,h2,rfl⟩:=hd;exact one dst _ (by simp) rfl (by simp[OpR.wf]) λτ=>⟨v,u,h1,h2,rfl⟩
 |mem o args dst=>obtain⟨v,hv,rfl⟩:=hd;exact one dst _ (by intro t o';split<;>simp) rfl (by simp[OpR.wf]) λτ=>⟨v,hv,rfl⟩
theorem does_heap {r:OpR} (hd:r.does C run σ h σ' h') (he:r.eff=false):h'=h∧
  (r.hl=false→∀h2,r.does C run σ h2 σ' h2)∧
  ∀n p d,r= .load n p (some d)→∃v,hload h n p=some v∧σ'=σ.set d (.val v)∧∀h2,hload h2 n p=some v→r.does C run σ h2 σ' h2:=by
 cases r<;>simp only[OpR.eff] at he<;>try(exact absurd he (by decide))
 case pure ws=>obtain⟨rfl,rfl⟩:=hd;exact⟨rfl,λ_ _=>⟨rfl,rfl⟩,by simp⟩
 case op p args dst own dem=>obtain⟨v,hv,rfl,rfl⟩:=hd;exact⟨rfl,λ_ _=>⟨v,hv,rfl,rfl⟩,by simp⟩
 case box n v d=>obtain⟨hn,rfl,rfl⟩:=hd;exact⟨rfl,λ_ _=>⟨hn,rfl,rfl⟩,by simp⟩
 case closure fn x b fz d=>obtain⟨rfl,rfl⟩:=hd;exact⟨rfl,λ_ _=>⟨rfl,rfl⟩,by simp⟩
 case bstore s off n v own dem ver cells owned=>obtain⟨hn,rfl,rfl⟩:=hd;exact⟨rfl,λ_ _=>⟨hn,rfl,rfl⟩,by simp⟩
 case load n p dst=>
  obtain⟨v,hv,rfl,rfl⟩:=hd;refine⟨rfl,λhh=>absurd hh (by simp[OpR.hl]),λn' p' d he=>?_⟩
  cases he
  exact⟨v,hv,rfl,λh2 h2v=>⟨v,h2v,rfl,rfl⟩⟩
 case mget z ok m k dst=>obtain⟨v,hv,rfl,rfl⟩:=hd;exact⟨rfl,λhh=>absurd hh (by simp[OpR.hl]),by simp⟩
 case pcall f args dst=>obtain⟨hfl,v,h1,h2,h3,rfl,rfl⟩:=hd;exact⟨rfl,λ_ _=>⟨hfl,v,h1,h2,h3,rfl,rfl⟩,by simp⟩
theorem drop_noLref {ds:List Nat} (hn:noLref σ ds=true):σ.drop ds=σ:=by
 refine Env.ext (Env.length_drop σ ds) λt=>?_;rw[Env.at_drop]
 cases hx:σ.at t with
 |lref t' o=>have:=noLref_iff.1 hn t t' o hx;simp[this]
 |_=>rfl
theorem guardOf_local {o:Oper} (h:∀t∈guardSlot ops o,τ.at t=σ.at t):guardOf ops τ o=guardOf ops σ o:=by
 unfold guardOf;unfold guardSlot at h
 cases hg:o.guard with
 |none=>rfl
 |some g=>
  obtain⟨j,want⟩:=g;simp only at h⊢
  cases hd:(ops[j]?).bind (·.dst) with
  |none=>rfl
  |some s=>grind
theorem contentOf_local {o:Oper} {r:OpR} (hc:classify C fid ops σ o=some r) (ht:∀t∈tmpsOf o.op.operands.toList,τ.at t=σ.at t) (hb:∀s∈contentOf C σ o,τ.at s=σ.at s):contentOf C τ o=contentOf C σ o:=by
 have h:Loc C σ τ o.op.operands.toList:= .of_tmps ht
 unfold contentOf at hb⊢
 cases ho:o.op with
 |load t x=>
  rw[ho] at h hb
  simp only at hb⊢
  have hn:addrOf C σ x≠none:=λhe=>by
   unfold classify at hc
   simp only[ho] at hc
   split at hc
   ·unfold loadOp at hc;rw[he] at hc;split at hc<;>simp_all
   ·cases hc
  unfold baseOf
  rw[h.addr (by simp[Op.operands]) hb hn]
 |store t x y=>
  rw[ho] at h hb
  simp only at hb⊢
  have hn:addrOf C σ x≠none:=λhe=>by
   unfold classify at hc
   simp only[ho] at hc
   split at hc
   ·unfold storeOp at hc;rw[he] at hc;split at hc<;>simp_all
   ·cases hc
  unfold baseOf
  rw[h.addr (by simp[Op.operands]) hb hn]
 |_=>rfl
theorem lrefsOf_mem {xs:List Slot} {t o:Nat} (h: .lref t o∈xs):t∈lrefsOf xs:=List.mem_filterMap.2 ⟨_,h,rfl⟩
theorem AStep.spec {s:St} (hs:AStep C fid ops run s σ h σ' h') (hf:s.fp.free=true):
  ∃ws,σ'=σ.puts ws∧(∀p∈ws,p.1∈s.fp.wf)∧(∀p∈ws,∀t o,p.2= .lref t o→t∈s.fp.lr)∧(∀x∈s.fp.wf,∀t o,σ.at x= .lref t o→t∈s.fp.lr)∧noLref σ s.fp.news=true∧(s.fp.eff=false→h'=h)∧
   (s.fp.eff=false→s.fp.hl=true→∃f,s.fl=some f)∧
   ∀(τ:Env) (h2 h2':AHeap),τ.length=σ.length→(∀x∈s.fp.rs++s.fp.wf,τ.at x=σ.at x)→noLref τ s.fp.news=true→
    ((h2=h∧h2'=h')∨(s.fp.eff=false∧h2'=h2∧(s.fp.hl=true→∀f,s.fl=some f→hload h2 f.n f.p=some f.v)))→AStep C fid ops run s τ h2 (τ.puts ws) h2':=by
 obtain⟨o,ho,⟨hg,hfp,hfl,rfl,rfl⟩|⟨r,σ1,hg,hc,hfp,hd,hfl,ha⟩⟩:=hs
 ·rw[hfp] at hf⊢;refine⟨o.dst.toList.map λd=>(d,.skip),put_eq _ _ _,λp hp=>?_,λp hp t k hl=>?_,λx hx t k hl=>?_,noLref_iff.2 (by simp[fpOf]),λ_=>rfl,λ_ hh=>absurd hh (by simp[fpOf]),λτ h2 h2' hlen hag _ hcase=>?_⟩
  ·obtain⟨d,hd,rfl⟩:=List.mem_map.1 hp;exact hd
  ·obtain⟨d,hd,rfl⟩:=List.mem_map.1 hp;cases hl
  ·exact lrefsOf_mem (o:=k) (List.mem_map.2 ⟨x,hx,hl⟩)
  ·have hh:h2'=h2:=by rcases hcase with⟨e1,e2⟩|⟨_,e,_⟩<;>first|exact e|rw[e1,e2]
   refine⟨o,ho,.inl ⟨?_,?_,hfl,(put_eq _ _ _).symm,hh⟩⟩
   ·rw[guardOf_local λt ht=>hag t (List.mem_append_left _ ht)];exact hg
   ·rw[hfp];have e:o.dst.toList.map τ.at=o.dst.toList.map σ.at:=List.map_congr_left λx hx=>hag x (List.mem_append_right _ hx);simp only[fpOf,e]
 ·rw[hfp] at hf⊢;have hf':r.free σ=true:=hf;have hnl:noLref σ r.news=true:=by unfold OpR.free at hf';rw[Bool.and_eq_true] at hf';exact hf'.1
  rw[drop_noLref hnl] at hd;obtain⟨ws1,rfl,hw,hlr,hall⟩:=does_puts hd;have hask:∃ws2:List (Nat×Slot),σ'=(σ.puts ws1).puts ws2∧(∀p∈ws2,o.dst=some p.1∧∃b,p.2= .cst b)∧∀τ:Env,τ.length=σ.length→(∀x∈r.wf++o.dst.toList,τ.at x=σ.at x)→Asked (if isGuard ops s.idx then o.dst else none) (τ.puts ws1) ((τ.puts ws1).puts ws2):=by
   by_cases hig:isGuard ops s.idx=true
   ·rw[if_pos hig] at ha
    cases hdst:o.dst with
    |none=>rw[hdst] at ha;exact⟨[],ha,by simp,λτ _ _=>by simp[hig,Asked,Env.puts]⟩
    |some d=>
     rw[hdst] at ha;simp only[Asked] at ha;have hcg:∀τ:Env,τ.length=σ.length→(∀x∈r.wf++[d],τ.at x=σ.at x)→(τ.puts ws1).at d=(σ.puts ws1).at d:=λτ hl hag=>Env.at_puts_congr ws1 σ τ d hl (hag d (by simp))
     cases hx:(σ.puts ws1).at d with
     |val v=>rw[hx] at ha;obtain⟨b,rfl,rfl⟩:=ha;refine⟨[(d,.cst b)],rfl,by simp,λτ hl hag=>?_⟩;simp only[hig,if_true,Asked];rw[hcg τ hl hag,hx];exact⟨b,rfl,rfl⟩
     |_=>rw[hx] at ha;refine⟨[],ha,by simp,λτ hl hag=>?_⟩;simp only[hig,if_true,Asked];rw[hcg τ hl hag,hx];rfl
   ·rw[if_neg hig] at ha;exact⟨[],ha,by simp,λτ _ _=>by rw[if_neg hig];rfl⟩
  obtain⟨ws2,rfl,hw2,hask2⟩:=hask;have hhl:r.hl=true→∃n p d,r= .load n p (some d)∧d<σ.length:=λhh=>by
   unfold OpR.free at hf';rw[Bool.and_eq_true] at hf'
   cases r with
   |load n p dst=>
    cases dst with
    |none=>exact absurd hf'.2 (by simp)
    |some d=>exact⟨n,p,d,rfl,by simpa using hf'.2⟩
   |mget _ _ _ _ _=>exact absurd hf'.2 (by simp)
   |_=>simp[OpR.hl] at hh
  have hflo:r.eff=false→∀n p d,r= .load n p (some d)→d<σ.length→∃v,hload h n p=some v∧s.fl=some {idx:=s.idx,n,p,v}:=by intro he n p d hr hdl;obtain⟨v,q1,q2,_⟩:=(does_heap hd he).2.2 n p d hr;refine⟨v,q1,?_⟩;rw[hfl,hr];simp only[floatOf];rw[q2,Env.at_set_self hdl]
  have heff:∀(τ:Env) h2 h2',((h2=h∧h2'=h')∨(r.eff=false∧h2'=h2∧(r.hl=true→∀f,s.fl=some f→hload h2 f.n f.p=some f.v)))→r.does C run τ h2 (τ.puts ws1) h2':=by
   intro τ h2 h2' hcase;rcases hcase with⟨rfl,rfl⟩|⟨he,rfl,hre⟩
   ·exact hall τ
   ·obtain⟨_,k2,k3⟩:=does_heap (hall τ) he
    cases hh:r.hl with
    |false=>exact k2 hh _
    |true=>obtain⟨n,p,d,hr,hdl⟩:=hhl hh;obtain⟨v,q1,q2⟩:=hflo he n p d hr hdl;obtain⟨v',p1,_,p3⟩:=k3 n p d hr;rw[q1] at p1;cases p1;exact p3 _ (hre hh _ q2)
  refine⟨ws1++ws2,by rw[Env.puts_append],λp hp=>?_,λp hp t k hl=>?_,λx hx t k hl=>?_,hnl,λhe=>(does_heap hd he).1,λhe hh=>?_,λτ h2 h2' hlen hag hnt hcase=>?_⟩
  ·rcases List.mem_append.1 hp with hp|hp
   ·exact List.mem_append_left _ (hw p hp)
   ·exact List.mem_append_right _ (by rw[(hw2 p hp).1];simp)
  ·rcases List.mem_append.1 hp with hp|hp
   ·exact List.mem_append_right _ (hlr p hp t k hl)
   ·obtain⟨_,b,e⟩:=hw2 p hp;rw[e] at hl;cases hl
  ·exact List.mem_append_left _ (lrefsOf_mem (o:=k) (List.mem_map.2 ⟨x,hx,hl⟩))
  ·obtain⟨n,p,d,hr,hdl⟩:=hhl hh;obtain⟨v,_,q2⟩:=hflo he n p d hr hdl;exact⟨_,q2⟩
  ·have hrs:∀t∈guardSlot ops o++tmpsOf o.op.operands.toList++contentOf C σ o,τ.at t=σ.at t:=λt ht=>hag t (List.mem_append_left _ ht);have hwf:∀t∈r.wf++o.dst.toList,τ.at t=σ.at t:=λt ht=>hag t (List.mem_append_right _ ht);have ht:∀t∈tmpsOf o.op.operands.toList,τ.at t=σ.at t:=λt ht=>hrs t (by simp[ht]);have hb:∀t∈contentOf C σ o,τ.at t=σ.at t:=λt ht=>hrs t (by simp[ht]);have hnt':noLref τ r.news=true:=hnt;refine⟨o,ho,.inr ⟨r,τ.puts ws1,?_,classify_local hc ht hb,?_,?_,?_,?_⟩⟩
   ·rw[guardOf_local λt ht=>hrs t (by simp[ht])];exact hg
   ·rw[hfp];have e1:(r.wf++o.dst.toList).map τ.at=(r.wf++o.dst.toList).map σ.at:=List.map_congr_left λx hx=>hwf x hx;have e2:r.free τ=r.free σ:=by unfold OpR.free;rw[hnl,hnt',hlen]
    simp only[fpOf,e1,e2,contentOf_local hc ht hb]
   ·rw[drop_noLref hnt'];exact heff τ h2 h2' hcase
   ·rw[hfl];exact(floatOf_congr λd hd=>Env.at_puts_congr ws1 σ τ d hlen (hwf d (List.mem_append_left _ hd))).symm
   ·rw[Env.puts_append];exact hask2 τ hlen hwf
end
end Go.Am
end
section
namespace Go.Am
open Go
section
variable {C:Ctx} {fid:FuncId} {ops:List Oper} {run:IT→AHeap→Option Res} {an:List Nat}
theorem not_meets {a b:List Nat} (h:(!meets a b)=true) {x:Nat} (hx:x∈a):x∉b:=λhb=>by
 have:=meets_iff.2 ⟨x,hx,hb⟩
 grind
theorem swap {p s:St} {σ σa σ1:Env} {h ha h1:AHeap} (hp:AStep C fid ops run p σ h σa ha) (hs:AStep C fid ops run s σa ha σ1 h1) (hok:pairOk p.fp s.fp=true)
  (hre:s.fp.eff=true→∀f,p.fl=some f→hload h1 f.n f.p=some f.v):
  ∃σs hs',AStep C fid ops run s σ h σs hs'∧AStep C fid ops run p σs hs' σ1 h1∧(s.fp.eff=true→hs'=h1)∧(p.fp.eff=true→h1=ha):=by
 unfold pairOk FP.apart at hok;simp only[Bool.and_eq_true] at hok;obtain⟨⟨⟨⟨pf,sf⟩,⟨⟨a1,a2⟩,a3⟩,a4⟩,he⟩,hl⟩:=hok;obtain⟨wsp,rfl,hpw,hpl,hpo,hpn,hph,hpf,hpall⟩:=hp.spec pf;obtain⟨wss,rfl,hsw,hsl,hso,hsn,hsh,hsf,hsall⟩:=hs.spec sf;have outp:∀x∈s.fp.rs++s.fp.wf,(σ.puts wsp).at x=σ.at x:=λx hx=>Env.at_puts_out wsp σ x λq hq e=>not_meets a1 (hpw q hq) (by rw[e];exact hx);have hnsσ:noLref σ s.fp.news=true:=by
  rw[noLref_iff] at hsn⊢;intro x t o hx;by_cases hw:x∈p.fp.wf
  ·exact not_meets a3 (hpo x hw t o hx)
  ·refine hsn x t o ?_;rw[Env.at_puts_out wsp σ x λq hq e=>hw (by rw[←e];exact hpw q hq)];exact hx
 have hlen:∀(τ:Env) (ws:List (Nat×Slot)),(τ.puts ws).length=τ.length:=λτ ws=>Env.length_puts ws τ;have hcomm:(σ.puts wss).puts wsp=(σ.puts wsp).puts wss:=(Env.puts_comm λq hq r hr e=>by have:=not_meets a1 (hpw q hq);exact this (List.mem_append_right _ (by rw[e];exact hsw r hr))).symm
 have outs:∀x∈p.fp.rs++p.fp.wf,(σ.puts wss).at x=σ.at x:=λx hx=>Env.at_puts_out wss σ x λq hq e=>by
  rcases List.mem_append.1 hx with hx|hx
  ·exact not_meets a2 (hsw q hq) (by rw[e];exact hx)
  ·exact not_meets a1 hx (List.mem_append_right _ (by rw[←e];exact hsw q hq))
 have hnp:noLref (σ.puts wss) p.fp.news=true:=by
  rw[noLref_iff] at hpn⊢;intro x t o hx;rcases Env.at_puts_or wss σ x with h0|⟨q,hq,_,h2⟩
  ·exact hpn x t o (by rw[←h0];exact hx)
  ·rw[h2] at hx;exact not_meets a4 (hsl q hq t o hx)
 by_cases hse:s.fp.eff=true
 ·have hpe:p.fp.eff=false:=by
   cases hq:p.fp.eff with
   |false=>rfl
   |true=>simp[hse,hq] at he
  have hha:ha=h:=hph hpe;subst hha;refine⟨σ.puts wss,h1,hsall σ ha h1 (hlen σ wsp).symm (λx hx=>(outp x hx).symm) hnsσ (.inl ⟨rfl,rfl⟩),?_,λ_=>rfl,λe=>by rw[hpe] at e;cases e⟩;rw[←hcomm];exact hpall (σ.puts wss) h1 h1 (hlen σ wss) outs hnp (.inr ⟨hpe,rfl,λ_ f hf=>hre hse f hf⟩)
 ·have hse':s.fp.eff=false:=by simpa using hse
  have hh1:h1=ha:=hsh hse';subst hh1;refine⟨σ.puts wss,h,?_,?_,λe=>absurd e hse,λ_=>rfl⟩
  ·by_cases hpe:p.fp.eff=true
   ·refine hsall σ h h (hlen σ wsp).symm (λx hx=>(outp x hx).symm) hnsσ (.inr ⟨hse',rfl,λhh=>?_⟩);simp[hpe,hh] at hl
   ·have hpe':p.fp.eff=false:=by simpa using hpe
    have hha:=hph hpe';exact hsall σ h h (hlen σ wsp).symm (λx hx=>(outp x hx).symm) hnsσ (.inl ⟨hha.symm,hha.symm⟩)
  ·rw[←hcomm];exact hpall (σ.puts wss) h h1 (hlen σ wss) outs hnp (.inl ⟨rfl,rfl⟩)
inductive Steps (C:Ctx) (fid:FuncId) (ops:List Oper) (run:IT→AHeap→Option Res) (an:List Nat):List Float→List St→Env→AHeap→Env→AHeap→Prop
 |nil {fl:List Float} {σ:Env} {h:AHeap}:Steps C fid ops run an fl [] σ h σ h
 |cons {fl:List Float} {s:St} {L:List St} {σ σ1 σf:Env} {h h1 hf:AHeap}:AStep C fid ops run s σ h σ1 h1→(s.fp.eff=true→∀f∈fl,isBefore an f.idx s.idx=false→hload h1 f.n f.p=some f.v)→
  Steps C fid ops run an (s.fl.toList++fl) L σ1 h1 σf hf→Steps C fid ops run an fl (s::L) σ h σf hf
theorem Steps.sub {fl:List Float} {L:List St} {σ σf:Env} {h hf:AHeap} (hs:Steps C fid ops run an fl L σ h σf hf):∀{fl':List Float},(∀f∈fl',f∈fl)→Steps C fid ops run an fl' L σ h σf hf:=by
 induction hs with
 |nil=>intro fl' _;exact .nil
 |cons h1 h2 _ ih=>
  intro fl' hsub;refine .cons h1 (λhe f hf hb=>h2 he f (hsub f hf) hb) (ih λf hf=>?_)
  grind
theorem AStep.fl_idx {s:St} {σ σ':Env} {h h':AHeap} (hs:AStep C fid ops run s σ h σ' h') {f:Float} (hf:s.fl=some f):f.idx=s.idx:=by
 obtain⟨o,_,⟨_,_,hfl,_⟩|⟨r,σ1,_,_,_,_,hfl,_⟩⟩:=hs
 ·grind
 ·rw[hfl] at hf;unfold floatOf at hf
  grind
theorem Steps.lt {fl:List Float} {L:List St} {σ σf:Env} {h hf:AHeap} (hs:Steps C fid ops run an fl L σ h σf hf):∀q∈L,q.idx<ops.length:=by
 induction hs with
 |nil=>simp
 |cons h1 _ _ ih=>
  intro q hq;rcases List.mem_cons.1 hq with rfl|hq
  ·obtain⟨o',h2,_⟩:=h1
   grind
  ·grind
theorem front {s:St} {B:List St} {σf:Env} {hf:AHeap}:∀{A:List St} {fl:List Float} {σ:Env} {h:AHeap},Steps C fid ops run an fl (A++s::B) σ h σf hf→(∀p∈A,pairOk p.fp s.fp=true∧isBefore an p.idx s.idx=false)→
  ∃σ1 h1,AStep C fid ops run s σ h σ1 h1∧(s.fp.eff=true→∀f∈fl,isBefore an f.idx s.idx=false→hload h1 f.n f.p=some f.v)∧Steps C fid ops run an (s.fl.toList++fl) (A++B) σ1 h1 σf hf
 |[],fl,σ,h,hs,_=>by
  cases hs with
  |cons h1 h2 h3=>exact⟨_,_,h1,h2,h3⟩
 |p::A,fl,σ,h,hs,hA=>by
  cases hs with
  |cons h1 h2 h3=>
   rename_i σa ha;obtain⟨σ1,h1',k1,k2,k3⟩:=front h3 λq hq=>hA q (by simp[hq]);obtain⟨hok,hbef⟩:=hA p (by simp);obtain⟨σs,hs',w1,w2,w3,w4⟩:=swap h1 k1 hok λhe f hf=>k2 he f (by rw[hf];simp) (by rw[h1.fl_idx hf];exact hbef);refine⟨σs,hs',w1,λhe f hf hb=>?_,.cons w2 (λhe f hf hb=>?_) (k3.sub λf hf=>?_)⟩
   ·rw[w3 he];exact k2 he f (List.mem_append_right _ hf) hb
   ·rw[w4 he];rcases List.mem_append.1 hf with hf|hf
    ·exfalso;unfold pairOk at hok;simp only[Bool.and_eq_true] at hok;obtain⟨⟨⟨⟨_,sf⟩,_⟩,hee⟩,hl⟩:=hok
     cases hsfl:s.fl with
     |none=>rw[hsfl] at hf;simp at hf
     |some g=>
      have hhl:s.fp.hl=true:=by
       obtain⟨o,_,⟨_,_,hfl,_⟩|⟨r,σ1',_,_,hfp,_,hfl,_⟩⟩:=k1
       ·rw[hfl] at hsfl;cases hsfl
       ·rw[hfl] at hsfl;unfold floatOf at hsfl;split at hsfl
        ·rw[hfp];rfl
        ·cases hsfl
      simp[he,hhl] at hl
    ·exact h2 he f hf hb
   ·grind
theorem testBit_foldl {acc:List Nat} {x:Nat}:∀(ds:List Nat) (m:Nat),(ds.foldl (λm e=>m|||bit e|||acc.getD e 0) m).testBit x=true↔m.testBit x=true∨∃e∈ds,x=e∨(acc.getD e 0).testBit x=true
 |[],m=>by simp
 |d::ds,m=>by
  rw[List.foldl_cons,testBit_foldl ds];simp only[Nat.testBit_or,bit,Nat.testBit_two_pow,Bool.or_eq_true,decide_eq_true_eq,List.mem_cons,exists_eq_or_imp]
  grind
theorem ancsFrom_old:∀(l:List Oper) (acc:List Nat) (i:Nat),i<acc.length→(ancsFrom acc l).getD i 0=acc.getD i 0
 |[],acc,i,h=>rfl
 |o::l,acc,i,h=>by
  rw[ancsFrom,ancsFrom_old l _ i (by simp;omega)]
  grind
theorem ancsFrom_spec:∀(l:List Oper) (acc:List Nat) (k:Nat) (o:Oper),l[k]?=some o→(∀e∈Oper.deps o,e<acc.length+k)→∀x,
  ((ancsFrom acc l).getD (acc.length+k) 0).testBit x=true↔∃e∈Oper.deps o,x=e∨((ancsFrom acc l).getD e 0).testBit x=true
 |[],acc,k,o,h,_,x=>by simp at h
 |o'::l,acc,0,o,h,hd,x=>by
  simp at h;subst h;rw[ancsFrom,ancsFrom_old l _ (acc.length+0) (by simp)];have e1:(acc++[(Oper.deps o').foldl (λm e=>m|||bit e|||acc.getD e 0) 0]).getD (acc.length+0) 0=(Oper.deps o').foldl (λm e=>m|||bit e|||acc.getD e 0) 0:=by simp[List.getD]
  rw[e1,testBit_foldl];simp only[Nat.zero_testBit,Bool.false_eq_true,false_or];constructor
  ·rintro⟨e,he,h⟩;refine⟨e,he,h.imp id λh=>?_⟩;have hlt:e<acc.length:=hd e he;rw[ancsFrom_old l _ e (by simp;omega)];simpa[List.getD,List.getElem?_append_left hlt] using h
  ·rintro⟨e,he,h⟩;refine⟨e,he,h.imp id λh=>?_⟩;have hlt:e<acc.length:=hd e he;rw[ancsFrom_old l _ e (by simp;omega)] at h;simpa[List.getD,List.getElem?_append_left hlt] using h
 |o'::l,acc,k+1,o,h,hd,x=>by simp at h;rw[ancsFrom];have:=ancsFrom_spec l (acc++[(Oper.deps o').foldl (λm e=>m|||bit e|||acc.getD e 0) 0]) k o h (λe he=>by have:=hd e he;simp;omega) x;simp only[List.length_append,List.length_cons,List.length_nil,Nat.zero_add] at this;rw[show acc.length+(k+1)=acc.length+1+k by omega];exact this
theorem ancs_spec {i:Nat} {o:Oper} (ho:ops[i]?=some o) (hd:∀e∈Oper.deps o,e<i) (x:Nat):isBefore (ancs ops) x i=true↔∃e∈Oper.deps o,x=e∨isBefore (ancs ops) x e=true:=by have:=ancsFrom_spec ops [] i o ho (by simpa using hd) x;simpa[isBefore,ancs] using this
theorem depsOk_spec (h:depsOk ops=true) {i:Nat} {o:Oper} (ho:ops[i]?=some o):∀e∈Oper.deps o,e<i:=by
 unfold depsOk at h;rw[List.all_eq_true] at h;have:=h (o,i) (by refine List.mem_of_getElem? (i:=i) ?_;simp[List.getElem?_zipIdx,ho])
 grind
theorem drawOk_go:∀{l:List (Nat×FP)},drawOk.go an l=true→l.Pairwise λx y=>x.1≠y.1∧isBefore an y.1 x.1=false∧(isBefore an x.1 y.1=true∨pairOk x.2 y.2=true)
 |[],_=> .nil
 |(i,f)::l,h=>by
  simp only[drawOk.go,Bool.and_eq_true,List.all_eq_true] at h;refine .cons (λy hy=>?_) (drawOk_go h.2)
  grind
theorem step_ask {d:Option Nat} {σ:Env} {K:Env→IT} {h:AHeap} {R:Res} (hr:IT.step (afun C) run (askAt d σ K) h=some R):∃σ',Asked d σ σ'∧IT.step (afun C) run (K σ') h=some R:=by
 unfold askAt at hr
 cases d with
 |none=>exact⟨σ,rfl,hr⟩
 |some d=>
  simp only at hr
  cases hx:σ.at d with
  |val v=>
   rw[hx] at hr;simp only[IT.step] at hr;split at hr
   ·exact⟨σ.set d (.cst true),by simp only[Asked,hx];exact⟨true,rfl,rfl⟩,hr⟩
   ·exact⟨σ.set d (.cst false),by simp only[Asked,hx];exact⟨false,rfl,rfl⟩,hr⟩
   ·cases hr
  |_=>rw[hx] at hr;exact⟨σ,by simp only[Asked,hx],hr⟩
theorem step_recheck {i:Nat} {t:IT} {h:AHeap} {R:Res}:∀{fl:List Float},IT.step (afun C) run (recheck an i fl t) h=some R→(∀f∈fl,isBefore an f.idx i=false→hload h f.n f.p=some f.v)∧IT.step (afun C) run t h=some R
 |[],hr=>⟨by simp,hr⟩
 |f::fl,hr=>by
  unfold recheck at hr;by_cases hb:isBefore an f.idx i=true
  ·rw[if_pos hb] at hr;obtain⟨k1,k2⟩:=step_recheck hr
   grind
  ·rw[if_neg hb] at hr;simp only[IT.step] at hr;split at hr
   ·rename_i v hv;split at hr
    ·rename_i heq;obtain⟨k1,k2⟩:=step_recheck hr;refine⟨λg hg hgb=>?_,k2⟩;rcases List.mem_cons.1 hg with rfl|hg
     ·rw[AVal.beq_eq heq];exact hv
     ·exact k1 g hg hgb
    ·cases hr
   ·cases hr
theorem draw_steps {K:Env→IT} {R:Res}:∀{rest:List Nat} {ann:List (Nat×FP)} {fl:List Float} {σ:Env} {h:AHeap},IT.step (afun C) run (sxDraw C fid ops an rest ann fl σ K) h=some R→
  ∃L σf hf,Steps C fid ops run an fl L σ h σf hf∧drawOk ops.length an (ann.reverse++L.map λs=>(s.idx,s.fp))=true∧IT.step (afun C) run (K σf) hf=some R
 |[],ann,fl,σ,h,hr=>by
  unfold sxDraw at hr;split at hr
  ·rename_i hok;exact⟨[],σ,h,.nil,by simpa using hok,hr⟩
  ·cases hr
 |i::rest,ann,fl,σ,h,hr=>by
  unfold sxDraw at hr
  cases ho:ops[i]? with
  |none=>rw[ho] at hr;cases hr
  |some o=>
   rw[ho] at hr;simp only at hr;split at hr
   ·rename_i hg;split at hr
    ·cases hr
    ·rename_i r hc;obtain⟨σ1,h1,hd,hr⟩:=tree_does hr;have hr':(r.eff=true→∀f∈fl,isBefore an f.idx i=false→hload h1 f.n f.p=some f.v)∧IT.step (afun C) run (askAt (if isGuard ops i then o.dst else none) σ1 λσ''=>sxDraw C fid ops an rest ((i,fpOf C ops σ o (some r))::ann) (floatsAfter i r σ1 fl) σ'' K) h1=some R:=by
      split at hr
      ·obtain⟨k1,k2⟩:=step_recheck hr;exact⟨λ_=>k1,k2⟩
      ·rename_i he;exact⟨λe=>absurd e he,hr⟩
     obtain⟨hre,hr⟩:=hr';obtain⟨σ',ha,hr⟩:=step_ask hr;rw[floatsAfter_eq] at hr;obtain⟨L,σf,hf,k1,k2,k3⟩:=draw_steps hr;exact⟨{idx:=i,fp:=fpOf C ops σ o (some r),fl:=floatOf i r σ1}::L,σf,hf,.cons ⟨o,ho,.inr ⟨r,σ1,hg,hc,rfl,hd,rfl,ha⟩⟩ hre k1,by simpa using k2,k3⟩
   ·rename_i hg;obtain⟨L,σf,hf,k1,k2,k3⟩:=draw_steps hr;exact⟨{idx:=i,fp:=fpOf C ops σ o none,fl:=none}::L,σf,hf,.cons ⟨o,ho,.inl ⟨hg,rfl,rfl,rfl,rfl⟩⟩ (λe=>by simp[fpOf] at e) k1,by simpa using k2,k3⟩
   ·cases hr
end
section
variable {C:Ctx} {γ0 γ:Gh} {w0 w:World} {β:Nat→Nat} {σ:Env} {h:AHeap} {a:Act} {fid:FuncId}
theorem guard_wanted (hr:Rel C γ0 w0 γ β σ h a w) {ops:Array Oper} {o:Oper} {b:Bool} (hg:guardOf ops.toList σ o= .known b):Region.wanted o (yielded ops a.tmps)=b:=by
 unfold guardOf at hg;unfold Region.wanted
 cases ho:o.guard with
 |none=>rw[ho] at hg;cases hg;rfl
 |some g=>
  obtain⟨j,want⟩:=g;rw[ho] at hg;simp only[Array.getElem?_toList] at hg⊢;unfold yielded
  cases hd:(ops[j]?).bind (·.dst) with
  |none=>rw[hd] at hg;cases hg
  |some s=>
   rw[hd] at hg;simp only[Option.bind_some] at hg⊢;have h0:=hr.fr.slots s
   cases hx:σ.at s with
   |cst c=>
    rw[hx] at hg h0
    cases hg
    have hl:s<a.tmps.size:=by rw[←hr.fr.size];exact Env.at_lt (by rw[hx];simp)
    have hv:a.tmps.getD s undef= .bool c:=h0;simp_all
   |skip=>
    rw[hx] at hg h0
    cases hg
    have hv:=h0;have hne:∀c,a.tmps[s]?≠some (.bool c):=λc hc=>by
     rw[Array.getD_eq_getD_getElem?,hc] at hv
     cases hv
    cases ht:a.tmps[s]? with
    |none=>rfl
    |some v=>
     cases v with
     |bool c=>exact absurd ht (hne c)
     |_=>rfl
   |val v=>rw[hx] at hg;cases hg
   |_=>rw[hx] at hg;cases hg
theorem Rel.asked (hr:Rel C γ0 w0 γ β σ h a w) {d:Option Nat} {σ':Env} (ha:Asked d σ σ'):Rel C γ0 w0 γ β σ' h a w:=by
 unfold Asked at ha
 cases d with
 |none=>simp only at ha;rw[ha];exact hr
 |some d=>
  simp only at ha
  cases hx:σ.at d with
  |val v=>rw[hx] at ha;obtain⟨b,rfl,rfl⟩:=ha;have h0:=hr.fr.slots d;rw[hx] at h0;exact hr.turn h0
  |_=>rw[hx] at ha;rw[ha];exact hr
structure Open (ops:Array Oper) (listed:Array Bool) (L:List St):Prop where
 size:listed.size=ops.size
 un:∀i,i<ops.size→(listed.getD i false=false↔i∈L.map (·.idx))
 closed:∀j,listed.getD j false=true→∀e,isBefore (ancs ops.toList) e j=true→listed.getD e false=true
abbrev Ordered (an:List Nat) (L:List St):Prop:=L.Pairwise λx y=>x.idx≠y.idx∧isBefore an y.idx x.idx=false∧(isBefore an x.idx y.idx=true∨pairOk x.fp y.fp=true)
theorem any_steps {run:IT→AHeap→Option Res} (hS:SimCalls C run) {ops:Array Oper} {Q:Exit→Act→World→Prop} (hdo:depsOk ops.toList=true) {σf:Env} {hf:AHeap} (hQ:∀γ' β' a' w',Rel C γ0 w0 γ' β' σf hf a' w'→Q .normal a' w'):
  ∀(fuel:Nat) (L:List St) (listed:Array Bool) (γ:Gh) (β:Nat→Nat) (σ:Env) (h:AHeap) (a:Act) (w:World),L.length=fuel→Steps C fid ops.toList run (ancs ops.toList) [] L σ h σf hf→Ordered (ancs ops.toList) L→Open ops listed L→Rel C γ0 w0 γ β σ h a w→
   wpAny C.P .any ops Q fuel listed a w:=by
 intro fuel
 induction fuel with
 |zero=>
  intro L listed γ β σ h a w hL hs hp ho hr;have hL0:L=[]:=List.eq_nil_of_length_eq_zero hL;subst hL0
  cases hs
  refine⟨List.eq_nil_iff_forall_not_mem.2 λi hi=>?_,hQ _ _ _ _ hr⟩;obtain⟨h0,o,hoi,_⟩:=mem_ready.1 hi;have hlt:i<ops.size:=(Array.getElem?_eq_some_iff.1 hoi).1;have h0':listed.getD i false=false:=by
   have hl:i<listed.size:=by rw[ho.size];exact hlt
   simpa[Array.getD,hl] using h0
  have:=(ho.un i hlt).1 h0';simp at this
 |succ fuel ih=>
  intro L listed γ β σ h a w hL hs hp ho hr;have hget:∀i,i<ops.size→listed.getD i true=listed.getD i false:=λi hi=>by
   have hl:i<listed.size:=by rw[ho.size];exact hi
   simp[Array.getD,hl]
  constructor
  ·intro hre;exfalso
   cases L with
   |nil=>simp at hL
   |cons s0 L=>
    obtain⟨o,hoi,_⟩:∃o,ops.toList[s0.idx]?=some o∧True:=by
     cases hs with
     |cons h1 _ _=>obtain⟨o,h2,_⟩:=h1;exact⟨o,h2,trivial⟩
    have hoi':ops[s0.idx]?=some o:=by simpa using hoi
    have hlt:s0.idx<ops.size:=(Array.getElem?_eq_some_iff.1 hoi').1;have:s0.idx∈Region.ready .any ops listed:=by
     refine mem_ready.2 ⟨?_,o,hoi',λe he hb=>?_⟩
     ·rw[hget _ hlt];exact(ho.un _ hlt).2 (by simp)
     ·have hed:e.on∈Oper.deps o:=List.mem_filterMap.2 ⟨e,by simpa using he,by rw[if_pos hb]⟩;have hei:=depsOk_spec hdo hoi e.on hed
      cases hl:listed.getD e.on false with
      |true=>rfl
      |false=>
       have hm:=(ho.un e.on (by omega)).1 hl;simp only[List.map_cons,List.mem_cons] at hm;rcases hm with hm|hm
       ·omega
       ·obtain⟨y,hy,hye⟩:=List.mem_map.1 hm;have:=((List.pairwise_cons.1 hp).1 y hy).2.1;rw[hye,(ancs_spec hoi (depsOk_spec hdo hoi) e.on).2 ⟨e.on,hed,.inl rfl⟩] at this
        cases this
    rw[hre] at this
    cases this
  ·intro i hi;obtain⟨h0,o,hoi,hdeps⟩:=mem_ready.1 hi;have hlt:i<ops.size:=(Array.getElem?_eq_some_iff.1 hoi).1;rw[hget i hlt] at h0;obtain⟨s,hsL,rfl⟩:=List.mem_map.1 ((ho.un i hlt).1 h0);obtain⟨A,B,rfl⟩:=List.append_of_mem hsL;have hoi':ops.toList[s.idx]?=some o:=by simpa using hoi
   have hanc:∀e,isBefore (ancs ops.toList) e s.idx=true→listed.getD e false=true:=λe he=>by
    obtain⟨d,hd,hcase⟩:=(ancs_spec hoi' (depsOk_spec hdo hoi') e).1 he;obtain⟨ed,hed,hb⟩:=List.mem_filterMap.1 hd;split at hb
    ·rename_i hbb
     cases hb
     have hdl:=hdeps ed (by simpa using hed) hbb;rcases hcase with rfl|hcase
     ·exact hdl
     ·exact ho.closed _ hdl e hcase
    ·cases hb
   have hApair:=(List.pairwise_append.1 hp).2.2;have hAlt:∀p∈A++s::B,p.idx<ops.size:=λp hp'=>by simpa using hs.lt p hp'
   obtain⟨σ1,h1,k1,_,k3⟩:=front hs λp hpA=>by
    have hb:isBefore (ancs ops.toList) p.idx s.idx=false:=by
     cases hbb:isBefore (ancs ops.toList) p.idx s.idx with
     |false=>rfl
     |true=>have h1:=hanc _ hbb;have h2:=(ho.un p.idx (hAlt p (by simp[hpA]))).2 (List.mem_map.2 ⟨p,by simp[hpA],rfl⟩);rw[h1] at h2;cases h2
    refine⟨?_,hb⟩;have:=(hApair p hpA s (by simp)).2.2;rw[hb] at this;exact this.resolve_left (by simp)
   have hnext:∀γ' β' a' w',Rel C γ0 w0 γ' β' σ1 h1 a' w'→wpAny C.P .any ops Q fuel (listed.setIfInBounds s.idx true) a' w':=λγ' β' a' w' hr'=>by
    refine ih (A++B) _ γ' β' σ1 h1 a' w' (by simp at hL⊢;omega) (k3.sub (by simp)) ?_ ⟨by simp[ho.size],λj hj=>?_,λj hj e he=>?_⟩ hr'
    ·exact hp.sublist ((List.Sublist.refl A).append (List.sublist_cons_self s B))
    ·by_cases hjs:j=s.idx
     ·subst hjs;have hnot:s.idx∉(A++B).map (·.idx):=λhm=>by
       obtain⟨q,hq,he⟩:=List.mem_map.1 hm;rcases List.mem_append.1 hq with hq|hq
       ·exact(hApair q hq s (by simp)).1 he
       ·exact(List.pairwise_cons.1 (List.pairwise_append.1 hp).2.1).1 q hq |>.1 he.symm
      have ht:(listed.setIfInBounds s.idx true).getD s.idx false=true:=by
       have hl:s.idx<listed.size:=by rw[ho.size];exact hlt
       simp[Array.getD,hl]
      rw[ht];exact⟨λe=>absurd e (by simp),λe=>absurd e hnot⟩
     ·rw[getD_set_ne false (λe=>hjs e.symm),ho.un j hj];simp only[List.map_append,List.map_cons,List.mem_append,List.mem_cons];constructor
      ·rintro(e|e|e)
       ·exact .inl e
       ·exact absurd e hjs
       ·exact .inr e
      ·rintro(e|e)
       ·exact .inl e
       ·exact .inr (.inr e)
    ·by_cases hjs:j=s.idx
     ·subst hjs;exact getD_set_true (hanc e he)
     ·rw[getD_set_ne false (λe=>hjs e.symm)] at hj;exact getD_set_true (ho.closed j hj e he)
   unfold wpOp;rw[hoi];obtain⟨o',ho',⟨hg,_,_,rfl,rfl⟩|⟨r,σ2,hg,hc,_,hd,_,ha⟩⟩:=k1
   ·rw[hoi'] at ho';cases ho';simp only[guard_wanted hr hg,Bool.false_eq_true,if_false];exact hnext _ _ _ _ (hr.put λ_ _=>rfl)
   ·rw[hoi'] at ho';cases ho';simp only[guard_wanted hr hg,if_true];exact .inl (sim_op hS hc hd hr λγ' β' a' w' hr'=>hnext γ' β' a' w' (hr'.asked ha))
end
end Go.Am
end
