/- Lemmas -/
import Derived.Test.YtjboelmdplaenaaGreatDoorQ3
import Derived.Laws.IdiomCopy
set_option linter.unusedVariables false
set_option linter.unusedSimpArgs false
section
namespace Go.Am
open Go
def upd (β:Nat→Nat) (d b:Nat):Nat→Nat:=λs=>if s=d then b else β s
def Owner.slot:Owner→Option Nat
 | .obj _=>none
 | .loc s=>some s
 | .tail s _ _=>some s
structure KeptBut (g:Nat) (γ:Gh) (w:World) (γ':Gh) (w':World):Prop where
 le:γ.le γ'
 keep:∀b x,b≠g→γ.own b=some x→x.isObj=false→γ'.own b=some x∧w'.heap[b]?=w.heap[b]?
section
variable {C:Ctx} {γ0 γ γ':Gh} {w0 w w':World} {β:Nat→Nat} {σ:Env} {h:AHeap} {a:Act} {fid:FuncId} {ops:List Oper}
theorem Env.at_drop (σ:Env) (ds:List Nat) (s:Nat):(σ.drop ds).at s=match σ.at s with| .lref t o=>if ds.contains t then .undef else .lref t o|x=>x:=by
 cases ds with
 |nil=>simp only[Env.drop,List.contains_nil];cases σ.at s<;>simp
 |cons d ds=>
  simp only[Env.drop,Env.at,List.getD,List.getElem?_map]
  cases hg:σ[s]? with
  |none=>rfl
  |some x=>cases x<;>rfl
theorem Env.length_drop (σ:Env) (ds:List Nat):(σ.drop ds).length=σ.length:=by cases ds<;>simp[Env.drop]
theorem SRel.newβ {B s d b:Nat} {x:Slot} {v:Value} (hx:SRel γ β B w s x v) (hn:∀o,x≠ .lref d o) (hs:s≠d):SRel γ (upd β d b) B w s x v:=by
 cases x with
 |box ver cs ow=>simpa only[SRel,upd,if_neg hs] using hx
 |lref t o=>have:t≠d:=λe=>hn o (by rw[e]);simpa only[SRel,upd,if_neg this] using hx
 |_=>exact hx
theorem OwnT.keptBut {g B s:Nat} {x0:Owner} (hg:γ.own g=some x0) (k:KeptBut g γ w γ' w') (hne:x0.slot≠some s) {c:Option Nat} {v:Value} {u:AVal} (ho:OwnT γ B w s c v u):OwnT γ' B w' s c v u:=by
 rcases ho with ho|⟨g2,n,cap,us,e,z,rows,h1,h2,h3,h4,h5,h6⟩
 ·exact .inl ho
 ·have hb:g2≠g:=λhe=>by
   subst he;rw[hg] at h3
   cases h3
   exact hne rfl
  obtain⟨k1,k2⟩:=k.keep g2 _ hb h3 rfl;exact .inr ⟨g2,n,cap,us,e,z,rows,h1,h2,k1,h4,by rw[k2];exact h5,h6⟩
theorem SRel.keptBut {g B s:Nat} {x0:Owner} (hg:γ.own g=some x0) (k:KeptBut g γ w γ' w') (hne:x0.slot≠some s) {x:Slot} {v:Value} (hx:SRel γ β B w s x v):SRel γ' β B w' s x v:=by
 cases x with
 |undef=>trivial
 |skip=>exact hx
 |val u=>exact VRel.mono k.le u v hx
 |cst b=>exact hx
 |own u=>exact⟨VRel.mono k.le u v hx.1,hx.2.keptBut hg k hne⟩
 |box ver cs ow=>
  obtain⟨p1,p2,p3,us,e,p4,p5,p6,p7⟩:=hx;have hb:β s≠g:=λhe=>by
   rw[he,hg] at p2
   cases p2
   exact hne rfl
  obtain⟨k1,k2⟩:=k.keep _ _ hb p2 rfl;exact⟨p1,k1,p3,us,e,by rw[k2];exact p4,VRelV.mono k.le cs _ p5,p6,λo ho=>let⟨u,v,q1,q2,q3⟩:=p7 o ho;⟨u,v,q1,q2,q3.keptBut hg k hne⟩⟩
 |lref s' o=>exact hx
theorem Rel.newBox (hr:Rel C γ0 w0 γ β σ h a w) (d:Nat) (us:Array Value) (e:TypeId) (cells:List AVal) (ow:List Nat) (hc:VRelV γ cells us.toList) (h1:∀u∈us.toList,u.oneCell'=true)
  (how:∀o∈ow,cells[o]?=some .slnil):
  ∃γ' β',Rel C γ0 w0 γ' β' ((σ.drop [d]).set d (.box 0 cells ow)) h (a.put (some d) (.pointer (some ⟨w.heap.size,0,none⟩))) (w.alloc (.cells us e)):=by
 obtain⟨hi,ha⟩:=alloc_claim hr.inv us e (0,0) 0 (some (.loc d)) (λ_ _ ho=>absurd ho (Nat.not_lt_zero _)) (.inr (.inr ⟨rfl,by simp⟩));have hr1:=(hr.drop [d]).world hi ha;refine⟨_,upd β d w.heap.size,hr1.inv,⟨by simp[Act.put,hr1.fr.size],λs=>?_⟩,hr1.acc,hr1.defers,hr1.glob⟩;have hs:=hr1.fr.slots s;by_cases he:s=d
 ·subst he;by_cases hl:s<(σ.drop [s]).length
  ·have hl':s<a.tmps.size:=by rw[←hr1.fr.size];exact hl
   rw[Env.at_set_self hl];have e1:(a.put (some s) (.pointer (some ⟨w.heap.size,0,none⟩))).tmps.getD s undef= .pointer (some ⟨w.heap.size,0,none⟩):=by simp[Act.put,Array.getD,hl']
   rw[e1];refine⟨by simp[upd],by simp[upd,Gh.claim],?_,us,e,?_,VRelV.mono ha.le _ _ hc,h1,λo ho=>?_⟩
   ·simp only[upd,if_true];exact hr.acc.size
   ·simp only[upd,if_true];exact heap_alloc_new w _
   ·have hco:=how o ho;obtain⟨u,q1,q2⟩:=hc.get hco;exact⟨u,.slnil,by simpa using q1,hco,.inl (.inl rfl)⟩
  ·have:Env.at ((σ.drop [s]).set s (.box 0 cells ow)) s= .undef:=by simp[Env.at,List.getD];rw[List.getElem?_eq_none (by simpa using hl)];rfl
   rw[this];trivial
 ·rw[Env.at_set_ne (λe=>he e.symm)];have e2:(a.put (some d) (.pointer (some ⟨w.heap.size,0,none⟩))).tmps.getD s undef=a.tmps.getD s undef:=by simp[Act.put,Array.getD_eq_getD_getElem?,Array.getElem?_setIfInBounds_ne (λe=>he e.symm)]
  rw[e2];refine hs.newβ (λo ho=>?_) he;rw[Env.at_drop] at ho
  cases hx:σ.at s with
  |lref t o'=>grind
  |_=>rw[hx] at ho;cases ho
theorem run_zeroValue {P:Program} {t:TypeId} {z:AVal} (hz:tyZero P t=some z):∃v,ofConst v=some z∧∀w,(zeroValue t).run P w= .ok v w:=by
 unfold tyZero at hz
 cases hi:P.info? t with
 |none=>rw[hi] at hz;cases hz
 |some i=>
  rw[hi] at hz
  cases hv:i.zero with
  |none=>simp[hv] at hz
  |some v=>simp only[Option.bind_some,hv] at hz;exact⟨v,hz,λw=>by simp[zeroValue,typeInfo,hi,hv]⟩
theorem ownNil_get {cs:List AVal} {o:Nat} (h:o∈ownNil cs):cs[o]?=some .slnil:=by
 simp only[ownNil,List.mem_filter,List.mem_range] at h
 grind
def Sim (C:Ctx) (γ0:Gh) (w0:World) (o:Oper) (a:Act) (w:World) (σ':Env) (h':AHeap):Prop:=
 ∃γ' β' w',(∃v,(execOp a.eval o).run C.P w= .ok (.value v) w'∧Rel C γ0 w0 γ' β' σ' h' (a.put o.dst v) w')∨((execOp a.eval o).run C.P w= .ok .skip w'∧Rel C γ0 w0 γ' β' σ' h' (a.put o.dst undef) w')
theorem Sim.value {o:Oper} {σ':Env} {h':AHeap} {β':Nat→Nat} {v:Value} (he:(execOp a.eval o).run C.P w= .ok (.value v) w') (hr:Rel C γ0 w0 γ' β' σ' h' (a.put o.dst v) w'):Sim C γ0 w0 o a w σ' h':=⟨γ',β',w',.inl ⟨v,he,hr⟩⟩
theorem Sim.skip {o:Oper} {σ':Env} {h':AHeap} {β':Nat→Nat} (he:(execOp a.eval o).run C.P w= .ok .skip w') (hr:Rel C γ0 w0 γ' β' σ' h' (a.put o.dst undef) w'):Sim C γ0 w0 o a w σ' h':=⟨γ',β',w',.inr ⟨he,hr⟩⟩
theorem sim_alloc_priv {o:Oper} {t:TypeId} {d:Nat} {z:AVal} (ho:o.op= .alloc t) (hd:o.dst=some d) (hz:tyZero C.P t=some z) (hn:z.cells≠[]) (hr:Rel C γ0 w0 γ β σ h a w):
  Sim C γ0 w0 o a w ((σ.drop [d]).set d (.box 0 z.cells (ownNil z.cells))) h:=by
 obtain⟨v,hv,hrun⟩:=run_zeroValue hz;obtain⟨q1,q2⟩:=cells_rel (ofConst_rel hv) (List.length_pos_iff.2 hn);obtain⟨γ',β',hr'⟩:=hr.newBox d v.cells t z.cells (ownNil z.cells) q1 q2 (λo=>ownNil_get);refine Sim.value ?_ (by rw[hd];exact hr');simp[execOp,ho,Instr.alloc,hrun,newVar,newRow]
theorem sim_box_priv {o:Oper} {t:TypeId} {x:Operand} {d n:Nat} {v:AVal} (ho:o.op= .box t x) (hd:o.dst=some d) (hx:opVal C σ x=some v) (hv:v.cells.length=n) (hn:n≠0) (hr:Rel C γ0 w0 γ β σ h a w):
  Sim C γ0 w0 o a w ((σ.drop [d]).set d (.box 0 v.cells [])) h:=by
 obtain⟨q1,q2⟩:=cells_rel (opVal_rel hr hx) (by omega);obtain⟨γ',β',hr'⟩:=hr.newBox d (a.eval x).cells t v.cells [] q1 q2 (by simp);refine Sim.value ?_ (by rw[hd];exact hr');simp[execOp,ho,Instr.box,newVar,newRow]
theorem Rel.newObj (hr:Rel C γ0 w0 γ β σ h a w) (us:Array Value) (e:TypeId) (fr:Nat×Nat) (cells:List AVal) (hfr:freeFr fr us.size) (hc:VRelV γ cells (us.toList.take cells.length)) (h1:∀u∈us.toList.take cells.length,u.oneCell'=true):
  ∃γ',γ.le γ'∧γ'.mu h.length=some w.heap.size∧Rel C γ0 w0 γ' β σ (h++[.cells cells]) a (w.alloc (.cells us e fr))∧γ'.sz w.heap.size=some us.size:=by
 obtain⟨hi,ha⟩:=alloc_object hr.inv (.cells us e fr) (.cells cells) (some us.size) (.inl ⟨cells,us,e,fr,rfl,rfl,hfr,hc,h1,rfl⟩);exact⟨_,ha.le,by simp[Gh.object],hr.world hi ha,by simp[Gh.object]⟩
theorem sim_alloc_heap {o:Oper} {t:TypeId} {z:AVal} {d:Option Nat} (ho:o.op= .alloc t) (hd:o.dst=d) (hz:tyZero C.P t=some z) (hn:z.cells.length≠0) (hr:Rel C γ0 w0 γ β σ h a w):
  Sim C γ0 w0 o a w (σ.put d (.val (.ptr (some (h.length,0))))) (h++[.cells z.cells]):=by
 obtain⟨v,hv,hrun⟩:=run_zeroValue hz;obtain⟨q1,q2⟩:=cells_rel (γ:=γ) (ofConst_rel hv) (by omega);obtain⟨γ',hle,hm,hr',_⟩:=hr.newObj v.cells t (0,0) z.cells (.inl rfl) (by rw[List.take_of_length_le (by rw[q1.length];exact Nat.le_refl _)];exact q1) (λu hu=>q2 u (List.mem_of_mem_take hu));refine Sim.value ?_ (by rw[hd];exact hr'.put λs _=>⟨_,hm,rfl⟩);simp[execOp,ho,Instr.alloc,hrun,newVar,newRow]
theorem sim_box_heap {o:Oper} {t:TypeId} {x:Operand} {d:Option Nat} {v:AVal} (ho:o.op= .box t x) (hd:o.dst=d) (hx:opVal C σ x=some v) (hn:v.cells.length≠0) (hr:Rel C γ0 w0 γ β σ h a w):
  Sim C γ0 w0 o a w (σ.put d (.val (.ptr (some (h.length,0))))) (h++[.cells v.cells]):=by
 obtain⟨q1,q2⟩:=cells_rel (opVal_rel hr hx) (by omega);obtain⟨γ',hle,hm,hr',_⟩:=hr.newObj (a.eval x).cells t (0,0) v.cells (.inl rfl) (by rw[List.take_of_length_le (by rw[q1.length];exact Nat.le_refl _)];exact q1) (λu hu=>q2 u (List.mem_of_mem_take hu));refine Sim.value ?_ (by rw[hd];exact hr'.put λs _=>⟨_,hm,rfl⟩);simp[execOp,ho,Instr.box,newVar,newRow]
theorem addrOf_priv (hr:Rel C γ0 w0 γ β σ h a w) {x:Operand} {s o ver:Nat} {cs:List AVal} {ow:List Nat} (hx:addrOf C σ x=some (.priv s o ver cs ow)):
  σ.at s= .box ver cs ow∧a.eval x= .pointer (some ⟨β s,o,none⟩):=by
 unfold addrOf at hx;split at hx
 ·rename_i s' ver' cs' ow' hs
  cases hx
  have h0:=slot_rel hr s;rw[opSlot_tmp hs] at h0;exact⟨opSlot_tmp hs,h0.1⟩
 ·rename_i s' o' _ hs;split at hx
  ·rename_i hb
   cases hx
   obtain⟨t,h1,_⟩:=opSlot_any hr hs;exact⟨hb,h1⟩
  ·cases hx
 ·simp_all
 ·cases hx
theorem addrOf_ptr (hr:Rel C γ0 w0 γ β σ h a w) {x:Operand} {p:AVal} (hx:addrOf C σ x=some (.ptr p)):VRel γ p (a.eval x):=by
 unfold addrOf at hx;split at hx
 ·cases hx
 ·grind
 ·rename_i sl _ _ hs
  cases hv:sl.value? with
  |none=>rw[hv] at hx;cases hx
  |some u=>rw[hv] at hx;cases hx;obtain⟨t,h1,_⟩:=opSlot_any hr hs;exact value_rel h1 hv
 ·cases hx
theorem run_loadAt_rel {t:TypeId} {n:Option Nat} (ht:tyShape C.P t=some n) {cs:List AVal} {us:List Value} {b o:Nat} (hv:VRelV γ cs us) (hc:∀(j:Nat) (u:Value),us[j]?=some u→w.cell? ⟨b,o+j,none⟩=some u) (h1:∀u∈us,u.oneCell'=true)
  {r:AVal} (hp:partOf cs 0 n=some r):∃v,(Instr.loadAt t (.pointer (some ⟨b,o,none⟩))).run C.P w= .ok v w∧VRel γ r v:=by
 unfold tyShape at ht;have hadd:∀j,(⟨b,o,none⟩:Addr).add j=⟨b,o+j,none⟩:=λj=>by unfold Addr.add;split<;>simp_all
 have agg:∀d,C.P.underlying t=some d→(match d with| .struct _| .array _ _=>true|_=>false)=true→(tySize C.P t).map some=some n→
   ∃v,(Instr.loadAt t (.pointer (some ⟨b,o,none⟩))).run C.P w= .ok v w∧VRel γ r v:=by
  intro d hd hb hn
  cases hs:tySize C.P t with
  |none=>rw[hs] at hn;cases hn
  |some k=>
   rw[hs] at hn;cases hn;simp only[partOf] at hp;split at hp
   ·rename_i hk
    cases hp
    have hl:=run_loadCells_list (P:=C.P) w ⟨b,o,none⟩ (us.take k) (λj v hj=>by
     rw[hadd];refine hc j v ?_;rw[List.getElem?_take] at hj;split at hj
     ·exact hj
     ·cases hj)
    have hlen:(us.take k).length=k:=by simp[hv.length];omega
    rw[hlen] at hl;refine⟨.agg (us.take k).toArray,?_,_,rfl,?_,λu hu=>h1 u (List.mem_of_mem_take (by simpa using hu))⟩
    ·have hagg:(isAgg t).run C.P w= .ok true w:=by
      unfold isAgg;rw[Sem.run_bind,run_underlying hd w]
      cases d<;>simp_all
     cases hq:C.P.info? t with
     |none=>simp[tySize,hq] at hs
     |some i=>
      have hi:i.size=k:=by simpa[tySize,hq] using hs
      simp[Instr.loadAt,Instr.sureAddr,loadVar,hagg,sizeOf,typeInfo,hq,hi,hl]
    ·simpa using hv.take k
   ·cases hp
 split at ht
 ·rename_i fs hd;exact agg _ hd rfl ht
 ·rename_i l e hd;exact agg _ hd rfl ht
 ·rename_i d hn1 hn2 hd
  cases ht
  simp only[partOf] at hp;obtain⟨u,hu,hr⟩:=hv.get hp;refine⟨u,?_,hr⟩;have hagg:(isAgg t).run C.P w= .ok false w:=by
   unfold isAgg;rw[Sem.run_bind,run_underlying hd w]
   cases d<;>simp_all
  have hcell:=hc 0 u hu;simp only[Nat.add_zero] at hcell;simp[Instr.loadAt,Instr.sureAddr,loadVar,hagg,hcell]
 ·cases ht
theorem partOf_drop {cs:List AVal} {off:Nat} {n:Option Nat} {r:AVal} (h:partOf cs off n=some r):partOf (cs.drop off) 0 n=some r:=by
 cases n with
 |none=>simp only[partOf] at h⊢;rw[List.getElem?_drop];simpa using h
 |some n=>
  simp only[partOf] at h⊢
  grind
theorem Rel.box_cells (hr:Rel C γ0 w0 γ β σ h a w) {s ver:Nat} {cs:List AVal} {ow:List Nat} (hs:σ.at s= .box ver cs ow):
  γ.own (β s)=some (.loc s)∧w0.heap.size≤β s∧∃us e,w.heap[β s]?=some (.cells us e (0,0))∧VRelV γ cs us.toList∧(∀u∈us.toList,u.oneCell'=true)∧
   ∀o∈ow,∃u x,us[o]?=some u∧cs[o]?=some x∧OwnT γ w0.heap.size w s (some o) u x:=by
 have h0:=hr.fr.slots s;rw[hs] at h0;exact⟨h0.2.1,h0.2.2.1,h0.2.2.2⟩
theorem run_load_priv (hr:Rel C γ0 w0 γ β σ h a w) {t:TypeId} {n:Option Nat} (ht:tyShape C.P t=some n) {s ver off:Nat} {cs:List AVal} {ow:List Nat} (hs:σ.at s= .box ver cs ow) {r:AVal} (hp:partOf cs off n=some r):
  ∃v,(Instr.loadAt t (.pointer (some ⟨β s,off,none⟩))).run C.P w= .ok v w∧VRel γ r v∧(n=none→∀us e,w.heap[β s]?=some (.cells us e (0,0))→us[off]?=some v):=by
 obtain⟨_,_,us,e,h1,h2,h3,_⟩:=hr.box_cells hs;obtain⟨v,q1,q2⟩:=run_loadAt_rel (w:=w) (b:=β s) (o:=off) ht (h2.drop off) (λj u hj=>by rw[cell_of_row w _ _ us e (0,0) h1];rw[List.getElem?_drop] at hj;simpa using hj) (λu hu=>h3 u (List.mem_of_mem_drop hu)) (partOf_drop hp)
 refine⟨v,q1,q2,λhn us' e' h1'=>?_⟩;subst hn;rw[h1] at h1'
 cases h1'
 simp only[partOf] at hp;obtain⟨u,hu,_⟩:=h2.get hp;have hcell:w.cell? ⟨β s,off,none⟩=some u:=by rw[cell_of_row w _ _ us e (0,0) h1];simpa using hu
 have hagg:∃d,C.P.underlying t=some d∧(isAgg t).run C.P w= .ok false w:=by
  unfold tyShape at ht;split at ht
  ·cases hz:tySize C.P t<;>rw[hz] at ht<;>cases ht
  ·cases hz:tySize C.P t<;>rw[hz] at ht<;>cases ht
  ·rename_i d hn1 hn2 hd;refine⟨d,hd,?_⟩;unfold isAgg;rw[Sem.run_bind,run_underlying hd w]
   cases d<;>simp_all
  ·cases ht
 obtain⟨d,hd,hagg⟩:=hagg;have:(Instr.loadAt t (.pointer (some ⟨β s,off,none⟩))).run C.P w= .ok u w:=by simp[Instr.loadAt,Instr.sureAddr,loadVar,hagg,hcell]
 rw[q1] at this
 cases this
 simpa using hu
theorem Rel.takeBox (hr:Rel C γ0 w0 γ β σ h a w) {s ver off:Nat} {cs:List AVal} {ow:List Nat} (hs:σ.at s= .box ver cs ow) (ho:off∈ow) (hnd:off∉ow.erase off) (s':Nat) (c':Option Nat) {u:Value} {v:AVal} (hv:cs[off]?=some v)
  (hu:∀us e,w.heap[β s]?=some (.cells us e (0,0))→us[off]?=some u):
  ∃γ',γ.le γ'∧Rel C γ0 w0 γ' β (σ.set s (.box (ver+1) cs (ow.erase off))) h a w∧OwnT γ' w0.heap.size w s' c' u v:=by
 have h0:=hr.fr.slots s;rw[hs] at h0;obtain⟨h1,h2,h3,us,e,h4,h5,h6,h7⟩:=h0;obtain⟨u',v',q1,q2,q3⟩:=h7 off ho;rw[hv] at q2;cases q2;rw[hu us e h4] at q1;cases q1;have hr1:Rel C γ0 w0 γ β (σ.set s (.box (ver+1) cs (ow.erase off))) h a w:=hr.turn ⟨h1,h2,h3,us,e,h4,h5,h6,λo' ho'=>h7 o' (List.mem_of_mem_erase ho')⟩;have hl:=Env.at_lt (by rw[hs];simp);rcases q3 with q3|⟨g,n,cap,us2,e2,z,rows,p1,p2,p3,p4,p5⟩
 ·exact⟨γ,.refl _,hr1,.inl q3⟩
 ·refine⟨γ.retag g (.tail s' c' (n*z)),le_retag _ _ _,hr1.retag p3 p4 (λhn=>by cases hn) (λo' ho' ver' cs' ow' hb=>?_),.inr ⟨g,n,cap,us2,e2,z,rows,p1,p2,by simp[Gh.retag],p4,p5⟩⟩;rw[Env.at_set_self hl] at hb
  grind
theorem sim_load_priv {o:Oper} {t:TypeId} {x:Operand} {d:Nat} {take:Bool} {r:OpR} {run:IT→AHeap→Option Res} {σ':Env} {h':AHeap} (ho:o.op= .load t x) (hd:o.dst=some d) (hc:loadOp C σ t x d take=some r) (hp:∃ws,r= .pure ws)
  (hdo:r.does C run (σ.drop r.news) h σ' h') (hr:Rel C γ0 w0 γ β σ h a w):Sim C γ0 w0 o a w σ' h':=by
 have hex:∀v,(Instr.loadAt t (a.eval x)).run C.P w= .ok v w→(execOp a.eval o).run C.P w= .ok (.value v) w:=λv hv=>by simp[execOp,ho,hv]
 unfold loadOp at hc;split at hc
 ·cases hc;obtain⟨_,e⟩:=hp;cases e
 ·rename_i s off ver cs ow ht ha;obtain⟨hs,hx⟩:=addrOf_priv hr ha;split at hc
  ·rename_i hlt;have hget:cs[off]?=some (cs.getD off .nilIface):=by simp[List.getD,List.getElem?_eq_getElem hlt]
   obtain⟨v,q1,q2,q3⟩:=run_load_priv hr ht hs (r:=cs.getD off .nilIface) (off:=off) (by simpa[partOf] using hget);rw[←hx] at q1;simp only at hc;split at hc
   ·rename_i hcond
    cases hc
    rw[noNews (by simp)] at hdo;obtain⟨rfl,rfl⟩:=hdo;simp only[Bool.and_eq_true,List.contains_iff_mem] at hcond;obtain⟨⟨c1,c2⟩,_⟩:=hcond;have c2:off∉ow.erase off:=by simpa using c2
    obtain⟨γ',hle,hr',hown⟩:=hr.takeBox hs c1 c2 d none hget (q3 rfl);exact Sim.value (hex v q1) (by rw[hd];exact hr'.put (d:=some d) λs' hs'=>by cases hs';exact⟨VRel.mono hle _ _ q2,hown⟩)
   ·cases hc
    rw[noNews (by simp)] at hdo;obtain⟨rfl,rfl⟩:=hdo;exact Sim.value (hex v q1) (by rw[hd];exact hr.put (d:=some d) λ_ _=>q2)
  ·cases hc
 ·rename_i n s off ver cs ow ht ha;obtain⟨hs,hx⟩:=addrOf_priv hr ha;split at hc
  ·rename_i hle
   cases hc
   rw[noNews (by simp)] at hdo;obtain⟨rfl,rfl⟩:=hdo;obtain⟨v,q1,q2,_⟩:=run_load_priv hr ht hs (r:= .agg ((cs.drop off).take n)) (off:=off) (by simp[partOf,hle]);rw[←hx] at q1;exact Sim.value (hex v q1) (by rw[hd];exact hr.put (d:=some d) λ_ _=>q2)
  ·cases hc
 ·cases hc
theorem sim_load {o:Oper} {t:TypeId} {x:Operand} {n:Option Nat} {p r:AVal} (ho:o.op= .load t x) (ht:tyShape C.P t=some n) (hx:addrOf C σ x=some (.ptr p)) (hl:hload h n p=some r) (hr:Rel C γ0 w0 γ β σ h a w):
  Sim C γ0 w0 o a w (σ.put o.dst (.val r)) h:=by
 have hv:=addrOf_ptr hr hx;have hex:∀v,(Instr.loadAt t (a.eval x)).run C.P w= .ok v w→(execOp a.eval o).run C.P w= .ok (.value v) w:=λv hv=>by simp[execOp,ho,hv]
 unfold hload at hl;split at hl
 ·rename_i cs;obtain⟨b,k,hv,hm⟩:=hv;obtain⟨us,p1,p2⟩:=hm.values;obtain⟨v,q1,q2⟩:=run_loadAt_rel (w:=w) ht p1 (λj u hj=>(hr.inv.imm _ _ _ (p2 j u hj)).1) (λu hu=>by obtain⟨j,hj⟩:=List.getElem?_of_mem hu;exact(hr.inv.imm _ _ _ (p2 j u hj)).2.1) hl
  rw[←hv] at q1;exact Sim.value (hex v q1) (hr.put λ_ _=>q2)
 ·rename_i id off;obtain⟨b,hb,hv⟩:=hv;split at hl
  ·rename_i cs hcs;obtain⟨us,e,fr,p1,pf,p2,p3⟩:=hr.inv.cells id cs hcs b hb;obtain⟨v,q1,q2⟩:=run_loadAt_rel (w:=w) (b:=b) ht (p2.drop off) (λj u hj=>by
    rw[cell_of_row w _ _ us e fr p1];rw[List.getElem?_drop,List.getElem?_take] at hj;split at hj
    ·simpa using hj
    ·cases hj) (λu hu=>p3 u (List.mem_of_mem_drop hu)) (partOf_drop hl)
   rw[←hv] at q1;exact Sim.value (hex v q1) (hr.put λ_ _=>q2)
  ·cases hl
 ·cases hl
end
end Go.Am
end
section
namespace Go.Am
open Go
section
variable {C:Ctx} {γ0 γ γ':Gh} {w0 w w':World} {β:Nat→Nat} {σ:Env} {h:AHeap} {a:Act} {fid:FuncId} {ops:List Oper}
theorem setCells_row {b:Nat} {t:TypeId} {fr:Nat×Nat}:∀(vs:List Value) (o:Nat) (cur:Array Value) (w:World),w.heap[b]?=some (.cells cur t fr)→o+vs.length≤cur.size→
  w.setCells b o vs=w.setRow b (cur.toList.take o++vs++cur.toList.drop (o+vs.length)).toArray
 |[],o,cur,w,hg,_=>by simp only[World.setCells,List.append_nil,List.length_nil,Nat.add_zero,List.take_append_drop,Array.toArray_toList];exact(setRow_self w b cur t fr hg).symm
 |v::r,o,cur,w,hg,hl=>by
  simp only[List.length_cons] at hl;rw[World.setCells,setCell_eq_setRow w b o cur t fr v hg,setCells_row r (o+1) _ _ (setRow_heap w b cur _ t fr hg) (by simp;omega),setRow_setRow];have e:=list_seg_step cur.toList o v r (by simp;omega)
  grind
theorem run_storeAt_row {t:TypeId} {n b o:Nat} (hn:tySize C.P t=some n) {u:Value} (hu:u.cells.size=n) (h1:∀x∈u.cells.toList,x.oneCell'=true) {cur:Array Value} {e:TypeId} {fr:Nat×Nat} (hg:w.heap[b]?=some (.cells cur e fr)) (hfr:freeFr fr cur.size)
  (hl:o+n≤cur.size):(Instr.storeAt t (.pointer (some ⟨b,o,none⟩)) u).run C.P w= .ok () (w.setRow b (cur.toList.take o++u.cells.toList++cur.toList.drop (o+n)).toArray):=by
 have hs:=run_storeCells_cells (P:=C.P) b o u.cells.toList 0 w (λj hj=>by
  rw[cell_of_row w _ _ cur e fr hg];simp at hj;rw[Array.getElem?_eq_getElem (by omega)];rfl) (λj hj=>by
  simp at hj;simp only[World.frozen?,hg];rcases hfr with rfl|hfr
  ·simp
  ·simp;omega) h1
 rw[Nat.add_zero,setCells_row _ o cur w hg (by simp;omega)] at hs
 cases hq:C.P.info? t with
 |none=>simp[tySize,hq] at hn
 |some i=>
  have hi:i.size=n:=by simpa[tySize,hq] using hn
  simp[Instr.storeAt,Instr.sureAddr,storeVar,sizeOf,typeInfo,hq,hi,hu,hs]
theorem splice_out {α:Type} {cs vs:List α} {off n o:Nat} (hl:off+n≤cs.length) (hv:vs.length=n) (ho:¬(off≤o∧o<off+n)):(cs.take off++vs++cs.drop (off+n))[o]?=cs[o]?:=by
 have e1:(cs.take off).length=off:=by simp;omega
 by_cases h:o<off
 ·rw[List.getElem?_append_left (by simp[hv];omega),List.getElem?_append_left (by omega),List.getElem?_take_of_lt h]
 ·rw[List.getElem?_append_right (by simp[hv];omega),List.getElem?_drop]
  congr 1
  simp[hv];omega
theorem splice_at {α:Type} {cs:List α} {off n:Nat} {x:α} (hl:off+n≤cs.length):(cs.take off++[x]++cs.drop (off+n))[off]?=some x:=by
 have e1:(cs.take off).length=off:=by simp;omega
 grind
theorem splice_take {α:Type} {us vs:List α} {off n len:Nat} (hl:len≤us.length) (ho:off+n≤len) (hv:vs.length=n):
  (us.take off++vs++us.drop (off+n)).take len=(us.take len).take off++vs++(us.take len).drop (off+n):=by
 have e1:(us.take off).length=off:=by simp;omega
 have e2:(us.take off++vs).length=off+n:=by simp[hv];omega
 rw[List.take_append,List.take_of_length_le (by omega),e2,List.take_take,Nat.min_eq_left (by omega),List.drop_take]
theorem splice_rel {cs vs:List AVal} {us us':List Value} {off n:Nat} (h:VRelV γ cs us) (h':VRelV γ vs us'):VRelV γ (cs.take off++vs++cs.drop (off+n)) (us.take off++us'++us.drop (off+n)):=
 ((h.take off).append h').append (h.drop (off+n))
theorem OwnT.other {B s s2 g:Nat} (hg:γ.own g=some (.loc s)) {c:Option Nat} {v:Value} {u:AVal} (us':Array Value) (ho:OwnT γ B w s2 c v u):OwnT γ B (w.setRow g us') s2 c v u:=by
 rcases ho with ho|⟨g2,n,cap,us,e,z,rows,h1,h2,h3,h4,h5,h6⟩
 ·exact .inl ho
 ·have hb:g2≠g:=λhe=>by subst he;rw[hg] at h3;cases h3
  exact .inr ⟨g2,n,cap,us,e,z,rows,h1,h2,h3,h4,by rw[setRow_other w g g2 us' hb];exact h5,h6⟩
theorem keptBut_setRow (γ:Gh) (w:World) (g:Nat) (us:Array Value):KeptBut g γ w γ (w.setRow g us):=
 ⟨.refl _,λb x hb hx _=>⟨hx,setRow_other w g b us hb⟩⟩
theorem Rel.storeBox (hr:Rel C γ0 w0 γ β σ h a w) {s ver ver' off n:Nat} {cs:List AVal} {ow:List Nat} (hs:σ.at s= .box ver cs ow) {vs:List AVal} {us':List Value} (hv:VRelV γ vs us') (h1:∀u∈us',u.oneCell'=true) (hn:vs.length=n)
  (hl:off+n≤cs.length) {own:Bool} (hown:own=true→∃u x,us'=[u]∧vs=[x]∧OwnT γ w0.heap.size w s (some off) u x) {us:Array Value} {e:TypeId} (hg:w.heap[β s]?=some (.cells us e (0,0))):
  Rel C γ0 w0 γ β (σ.set s (.box ver' (splice cs off n vs) (ownAfter ow off n own))) h a (w.setRow (β s) (us.toList.take off++us'++us.toList.drop (off+n)).toArray):=by
 have h0:=hr.fr.slots s;rw[hs] at h0;obtain⟨p1,p2,p3,us0,e0,p4,p5,p6,p7⟩:=h0;rw[hg] at p4;cases p4;have hlen:us'.length=n:=by rw[hv.length,hn]
 have hul:off+n≤us.toList.length:=by rw[p5.length];exact hl
 have hls:s<σ.length:=Env.at_lt (by rw[hs];simp);refine⟨write_loc hr.inv p2 _,⟨by simp[hr.fr.size],λs2=>?_⟩,hr.acc.write (g:=β s) p3 (.refl _) (by simp) rfl rfl rfl (λb hb=>⟨setRow_other w _ b _ hb,rfl⟩),hr.defers,hr.glob⟩;by_cases he:s2=s
 ·subst he;rw[Env.at_set_self hls];refine⟨p1,p2,p3,_,e,setRow_heap w _ us _ e (0,0) hg,?_,?_,?_⟩
  ·simpa[splice] using splice_rel (off:=off) (n:=n) p5 hv
  ·grind
  ·intro o ho;have hcase:(own=true∧o=off)∨(o∈ow∧¬(off≤o∧o<off+n)):=by
    unfold ownAfter at ho;have hf:o∈ow.filter (λo=> !(decide (off≤o)&&decide (o<off+n)))→o∈ow∧¬(off≤o∧o<off+n):=λhm=>by rw[List.mem_filter] at hm;refine⟨hm.1,λhc=>?_⟩;have:=hm.2;simp[hc.1,hc.2] at this
    cases own with
    |true=>
     simp only[if_true,List.mem_cons] at ho;rcases ho with ho|ho
     ·exact .inl ⟨rfl,ho⟩
     ·exact .inr (hf ho)
    |false=>exact .inr (hf ho)
   rcases hcase with⟨ho1,rfl⟩|⟨ho1,ho2⟩
   ·obtain⟨u,x,rfl,rfl,hT⟩:=hown ho1;exact⟨u,x,by simpa using splice_at (x:=u) hul,by simpa[splice] using splice_at (x:=x) hl,hT.other p2 _⟩
   ·obtain⟨u,x,q1,q2,q3⟩:=p7 o ho1;refine⟨u,x,?_,?_,q3.other p2 _⟩
    ·rw[←q1];have:=splice_out hul hlen ho2;simpa using this
    ·rw[←q2];exact splice_out hl hn ho2
 ·rw[Env.at_set_ne (λx=>he x.symm)];exact(hr.fr.slots s2).keptBut p2 (keptBut_setRow γ w _ _) (by simp only[Owner.slot];intro hx;cases hx;exact he rfl)
theorem own_operand (hr:Rel C γ0 w0 γ β σ h a w) {y:Operand} {v:AVal} (hy:isOwn C σ y=true) (hv:opVal C σ y=some v) (s':Nat) (c':Option Nat):
  ∃γ',γ.le γ'∧Rel C γ0 w0 γ' β (σ.demote (demoteOf σ y)) h a w∧VRel γ' v (a.eval y)∧OwnT γ' w0.heap.size w s' c' (a.eval y) v:=by
 unfold isOwn at hy
 cases hs:opSlot C σ y with
 |none=>rw[hs] at hy;cases hy
 |some sl=>
  rw[hs] at hy
  cases sl with
  |own u=>
   have hvu:u=v:=by unfold opVal at hv;rw[hs] at hv;exact Option.some.inj hv
   subst hvu
   cases y with
   |tmp t=>have ht:=opSlot_tmp hs;obtain⟨γ',hle,hr',h1,h2⟩:=hr.take ht s' c';exact⟨γ',hle,by simpa[demoteOf,ht,Env.demote] using hr',h1,h2⟩
   |const c=>
    refine⟨γ,.refl _,hr,opVal_rel hr hv,?_⟩;obtain⟨q,_⟩:=opSlot_const (γ:=γ) (β:=β) (w:=w) hs;unfold opSlot at hs;split at hs
    ·rename_i e;cases e
    ·cases hs
    ·cases hs;exact .inl (.inl rfl)
    ·simp_all
    ·rename_i e;cases e
    ·cases hs
   |global g=>have hs':(C.glob g).map (λcs=>Slot.val (AVal.rptr cs))=some (.own u):=hs;simp_all
   |func f=>cases hs
  |_=>cases hy
theorem own_scalar {B s:Nat} {c:Option Nat} {v:Value} {x:AVal} (h:OwnT γ B w s c v x):x.cells=[x]:=by rcases h with(rfl|⟨_,rfl⟩)|⟨_,_,_,_,_,_,_,rfl,_⟩<;>rfl
theorem sim_bstore {o:Oper} {t:TypeId} {x y:Operand} {s off n ver:Nat} {v:AVal} {own:Bool} {dem:Option (Nat×AVal)} {cells:List AVal} {owned:List Nat} {run:IT→AHeap→Option Res} {σ':Env} {h':AHeap} (ho:o.op= .store t x y) (hd:o.dst=none)
  (hc:storeOp C σ t x y=some (.bstore s off n v own dem ver cells owned)) (hdo:(OpR.bstore s off n v own dem ver cells owned).does C run σ h σ' h') (hr:Rel C γ0 w0 γ β σ h a w):Sim C γ0 w0 o a w σ' h':=by
 unfold storeOp at hc;split at hc
 ·cases hc
 ·rename_i m sh s' off' ver' cs' ow' v' hsz hsh ha hv;split at hc
  ·rename_i hl;simp only[Option.some.injEq,OpR.bstore.injEq] at hc;obtain⟨rfl,rfl,rfl,rfl,hown,hdem,rfl,rfl,rfl⟩:=hc;obtain⟨hn,rfl,rfl⟩:=hdo;obtain⟨hs,hx⟩:=addrOf_priv hr ha;have hvr:=opVal_rel hr hv;obtain⟨_,_,us,e,hg,p5,p6,_⟩:=hr.box_cells hs;have hls:off'+(m+1)≤us.size:=by have:=p5.length;simp at this;omega
   obtain⟨q1,q2⟩:=cells_rel hvr (by omega);have husz:(a.eval y).cells.size=m+1:=by have:=q1.length;simp at this;omega
   have hst:=run_storeAt_row (C:=C) (b:=β s') (o:=off') hsz husz q2 hg (.inl rfl) hls;rw[←hx] at hst;have hex:(execOp a.eval o).run C.P w= .ok .skip (w.setRow (β s') (us.toList.take off'++(a.eval y).cells.toList++us.toList.drop (off'+(m+1))).toArray):=by simp[execOp,ho,hst]
   by_cases hw:own=true
   ·subst hw;rw[if_pos hown] at hdem;subst hdem;simp only[Bool.and_eq_true] at hown;obtain⟨γ1,hle,hr1,h1,h2⟩:=own_operand hr hown.2 hv s' (some off');have hsc:=own_scalar h2;have hs1:(σ.demote (demoteOf σ y)).at s'= .box ver' cs' ow':=by
     cases y with
     |tmp t'=>
      simp only[demoteOf]
      cases ht:σ.at t' with
      |own u=>simp only[Env.demote];rw[Env.at_set_ne (λe=>by rw[e,hs] at ht;cases ht)];exact hs
      |_=>exact hs
     |_=>exact hs
    have hr2:=hr1.storeBox (ver':=ver'+1) (own:=true) (n:=m+1) hs1 (VRelV.mono hle _ _ q1) q2 hn hl (λ_=>?_) hg
    ·exact Sim.skip hex (by rw[hd];exact hr2)
    ·have hcl:(a.eval y).cells=#[a.eval y]:=by
      rcases h2 with(h2|⟨z,h2⟩)|⟨_,_,_,_,_,_,_,_,h2,_⟩
      ·subst h2;rw[show a.eval y=_ from h1];rfl
      ·subst h2;obtain⟨_,h1⟩:=h1;rw[h1];rfl
      ·rw[h2];rfl
     exact⟨a.eval y,v',by rw[hcl],hsc,h2⟩
   ·have hw':own=false:=by simpa using hw
    subst hw';rw[if_neg (by rw[hown];simp)] at hdem;subst hdem;exact Sim.skip hex (by rw[hd];exact hr.storeBox (ver':=ver'+1) (own:=false) hs q1 q2 hn hl (λe=>by cases e) hg)
  ·cases hc
 ·cases hc
theorem sim_store {o:Oper} {t:TypeId} {x y:Operand} {n:Nat} {p v:AVal} {h':AHeap} (ho:o.op= .store t x y) (hd:o.dst=none) (hsz:tySize C.P t=some (n+1)) (hx:addrOf C σ x=some (.ptr p)) (hv:opVal C σ y=some v) (hst:hstore h (n+1) p v=some h') (hr:Rel C γ0 w0 γ β σ h a w):
  Sim C γ0 w0 o a w σ h':=by
 have hxr:=addrOf_ptr hr hx;have hvr:=opVal_rel hr hv;unfold hstore at hst;split at hst
 ·rename_i id off;obtain⟨b,hb,hxe⟩:=hxr;split at hst
  ·rename_i cs hcs;split at hst
   ·rename_i hl
    cases hst
    obtain⟨us,e,fr,hg,pf,p5,p6⟩:=hr.inv.cells id cs hcs b hb;obtain⟨q1,q2⟩:=cells_rel hvr (by omega);have husz:(a.eval y).cells.size=n+1:=by have:=q1.length;simp at this;omega
    have hlt:cs.length≤us.size:=by have:=p5.length;simp at this;omega
    have hls:off+(n+1)≤us.size:=by omega
    have hrun:=run_storeAt_row (C:=C) (b:=b) (o:=off) hsz husz q2 hg pf hls;rw[←hxe] at hrun;obtain⟨hi,ha⟩:=write_obj hr.inv hcs hb hg (us.toList.take off++(a.eval y).cells.toList++us.toList.drop (off+(n+1))).toArray (cs.take off++v.cells++cs.drop (off+(n+1)))
     (by simp only[List.size_toArray,List.length_append,List.length_take,List.length_drop,Array.length_toList,husz];omega)
     (by
      rcases pf with rfl|pf
      ·exact .inl rfl
      ·refine .inr (Nat.le_trans (Nat.le_of_eq ?_) pf);simp only[List.size_toArray,List.length_append,List.length_take,List.length_drop,Array.length_toList,husz];omega)
     (by
      have:=splice_rel (off:=off) (n:=n+1) p5 q1;rw[←splice_take (by simpa using hlt) hl.2 (by simpa using husz)] at this;have e1:(cs.take off++v.cells++cs.drop (off+(n+1))).length=cs.length:=by simp[hl.1];omega
      rw[e1];simpa using this) (λu hu=>by
      have e1:(cs.take off++v.cells++cs.drop (off+(n+1))).length=cs.length:=by simp[hl.1];omega
      rw[e1] at hu;simp only[List.toList_toArray] at hu;rw[splice_take (by simpa using hlt) hl.2 (by simpa using husz)] at hu;simp only[List.append_assoc,List.mem_append] at hu;rcases hu with hu|hu|hu
      ·exact p6 u (List.mem_of_mem_take hu)
      ·exact q2 u hu
      ·exact p6 u (List.mem_of_mem_drop hu))
    have hex:(execOp a.eval o).run C.P w= .ok .skip (w.setRow b (us.toList.take off++(a.eval y).cells.toList++us.toList.drop (off+(n+1))).toArray):=by simp[execOp,ho,hrun]
    exact Sim.skip hex (by rw[hd];exact hr.world hi ha)
   ·cases hst
  ·cases hst
 ·cases hst
theorem Rel.freeze (hr:Rel C γ0 w0 γ β σ h a w) {s ver:Nat} {cs:List AVal} {ow:List Nat} (hs:σ.at s= .box ver cs ow):
  ∃γ',γ.le γ'∧Rel C γ0 w0 γ' β (σ.set s (.val (.rptr cs))) h a w∧VRel γ' (.rptr cs) (a.tmps.getD s undef):=by
 have h0:=hr.fr.slots s;rw[hs] at h0;obtain⟨p1,p2,p3,us,e,p4,p5,p6,p7⟩:=h0;have hls:s<σ.length:=Env.at_lt (by rw[hs];simp);have himm:∀o,γ.imm (β s) o=none:=λo=>by
  cases hc:γ.imm (β s) o with
  |none=>rfl
  |some u=>obtain⟨_,_,q⟩:=hr.inv.imm _ _ _ hc;rw[p2] at q;rcases q with q|⟨_,_,_,q,_⟩<;>cases q
 have hle:γ.le (γ.claim (β s) us us.size none):=⟨λb o v hb=>by
  have:b≠β s:=λe=>by rw[e,himm] at hb;cases hb
  simp only[Gh.claim,if_neg this];exact hb,λ_ _ hm=>hm,λ_ _ hm=>hm⟩
 have hne:∀b id,γ.own b=some (.obj id)→b≠β s:=λb id hb e=>by rw[e,p2] at hb;cases hb
 have hk:KeptBut (β s) γ w (γ.claim (β s) us us.size none) w:=⟨hle,λb x hb hx _=>⟨by simp only[Gh.claim,if_neg hb];exact hx,rfl⟩⟩;have hv:VRel (γ.claim (β s) us us.size none) (.rptr cs) (a.tmps.getD s undef):=by
  refine⟨β s,0,p1,VRelM.of_get λi x hi=>?_⟩;obtain⟨u,q1,q2⟩:=p5.get hi;have hlt:i<us.size:=by have:=(List.getElem?_eq_some_iff.1 q1).1;simpa using this
  exact⟨u,by simp only[Gh.claim,if_true,Nat.zero_add,if_pos hlt];simpa using q1,VRel.mono hle _ _ q2⟩
 have hszi:∀b n,γ.sz b=some n→(∃us e fr,w.heap[b]?=some (.cells us e fr)∧us.size=n)∧((γ.claim (β s) us us.size none).own b=none∨∃id,(γ.claim (β s) us us.size none).own b=some (.obj id)):=λb n hb=>by
  obtain⟨p,r⟩:=hr.inv.sz b n hb;by_cases he:b=β s
  ·subst he;exact⟨p,.inl (by simp[Gh.claim])⟩
  ·exact⟨p,by simp only[Gh.claim,if_neg he];exact r⟩
 refine⟨_,hle,⟨⟨λb o v hb=>?_,λid y hid hy=>?_,λid cs' hc b hb=>?_,λid es hc b hb=>?_,hr.inv.mu,λb x hx=>?_,hszi⟩,⟨by simp[hr.fr.size],λs2=>?_⟩,?_,hr.defers,λx cs' hx=>VRelM.mono hle _ _ _ (hr.glob x cs' hx)⟩,hv⟩
 ·by_cases he:b=β s
  ·subst he;simp only[Gh.claim,if_true] at hb⊢;split at hb
   ·exact⟨by rw[cell_of_row _ _ _ us e (0,0) p4];exact hb,p6 v (by rw[Array.getElem?_eq_some_iff] at hb;obtain⟨p,q⟩:=hb;rw[←q];exact Array.getElem_mem_toList p),.inl (by simp)⟩
   ·cases hb
  ·simp only[Gh.claim,if_neg he] at hb⊢;exact hr.inv.imm b o v hb
 ·obtain⟨b,q1,q2⟩:=hr.inv.obj id y hid hy;exact⟨b,q1,by simp only[Gh.claim,if_neg (hne b id q2)];exact q2⟩
 ·obtain⟨us',e',fr',q1,qf,q2,q3⟩:=hr.inv.cells id cs' hc b hb;exact⟨us',e',fr',q1,qf,VRelV.mono hle _ _ q2,q3⟩
 ·obtain⟨us',e',q1,q2⟩:=hr.inv.map id es hc b hb;exact⟨us',e',q1,q2.mono hle⟩
 ·by_cases he:b=β s
  ·subst he;exact hr.inv.own _ _ p2
  ·simp only[Gh.claim,if_neg he] at hx;exact hr.inv.own b x hx
 ·by_cases he:s2=s
  ·subst he;rw[Env.at_set_self hls];exact hv
  ·rw[Env.at_set_ne (λx=>he x.symm)];exact(hr.fr.slots s2).keptBut p2 hk (by simp only[Owner.slot];intro hx;cases hx;exact he rfl)
 ·refine⟨hr.acc.le.trans hle,hr.acc.size,hr.acc.os,hr.acc.tape,hr.acc.output,λb hb hn=>?_⟩;obtain⟨q1,q2⟩:=hr.acc.keep b hb hn;exact⟨q1,by simp only[Gh.claim,if_neg (show b≠β s by omega)];exact q2⟩
theorem Rel.freezeAll:∀{fz:List (Nat×List AVal)} {γ:Gh} {σ:Env},Rel C γ0 w0 γ β σ h a w→(∀p∈fz,∃ver ow,σ.at p.1= .box ver p.2 ow)→(fz.map (·.1)).Nodup→
  ∃γ',γ.le γ'∧Rel C γ0 w0 γ' β (σ.puts (fz.map λ(s,cs)=>(s,.val (.rptr cs)))) h a w∧∀p∈fz,VRel γ' (.rptr p.2) (a.tmps.getD p.1 undef)
 |[],γ,σ,hr,_,_=>⟨γ,.refl _,hr,by simp⟩
 |(s,cs)::fz,γ,σ,hr,hb,hn=>by
  simp only[List.map_cons,List.nodup_cons] at hn;obtain⟨ver,ow,hs⟩:=hb (s,cs) (by simp);obtain⟨γ1,hle1,hr1,hv1⟩:=hr.freeze hs;obtain⟨γ2,hle2,hr2,hv2⟩:=freezeAll hr1 (λp hp=>by obtain⟨ver',ow',hp'⟩:=hb p (by simp[hp]);refine⟨ver',ow',?_⟩;rw[Env.at_set_ne (λe=>hn.1 (by rw[show s=p.1 from e];exact List.mem_map.2 ⟨p,hp,rfl⟩))];exact hp') hn.2
  refine⟨γ2,hle1.trans hle2,hr2,λp hp=>?_⟩;rcases List.mem_cons.1 hp with rfl|hp
  ·exact VRel.mono hle2 _ _ hv1
  ·grind
theorem captures_spec:∀{xs:List Operand} {vs:List AVal} {fz:List (Nat×List AVal)},captures C σ xs=some (vs,fz)→
  (∀p∈fz,∃ver ow,σ.at p.1= .box ver p.2 ow)∧(fz.map (·.1)).Nodup∧
  ∀γ',(∀x u,opVal C σ x=some u→VRel γ' u (a.eval x))→(∀p∈fz,VRel γ' (.rptr p.2) (a.tmps.getD p.1 undef))→VRelV γ' vs (xs.map a.eval)
 |[],vs,fz,hc=>by
  cases hc
  exact⟨by simp,by simp,λ_ _ _=>rfl⟩
 |x::xs,vs,fz,hc=>by
  unfold captures at hc;split at hc
  ·cases hc
  ·rename_i vs' fz' hxs;obtain⟨h1,h2,h3⟩:=captures_spec hxs;split at hc
   ·rename_i s ver cs ow hs;split at hc
    ·cases hc
    ·rename_i hn
     cases hc
     have hsb:σ.at s= .box ver cs ow:=opSlot_tmp hs;refine⟨λp hp=>?_,?_,λγ' k1 k2=>?_⟩
     ·grind
     ·grind
     ·exact⟨_,_,rfl,k2 (s,cs) (by simp),h3 γ' k1 λp hp=>k2 p (by simp[hp])⟩
   ·rename_i sl _ hs
    cases hv:sl.value? with
    |none=>rw[hv] at hc;cases hc
    |some u=>
     rw[hv] at hc
     cases hc
     exact⟨h1,h2,λγ' k1 k2=>⟨_,_,rfl,k1 _ u (by unfold opVal;rw[hs];exact hv),h3 γ' k1 k2⟩⟩
   ·cases hc
theorem sim_closure {o:Oper} {fn:Fn} {first captured:Array Operand} {d:Nat} {as bs:List AVal} {fz:List (Nat×List AVal)} (ho:o.op= .makeFunc fn first captured) (hd:o.dst=some d) (ha:opVals C σ first.toList=some as) (hb:captures C σ captured.toList=some (bs,fz)) (hr:Rel C γ0 w0 γ β σ h a w):
  Sim C γ0 w0 o a w (((σ.drop (fz.map (·.1))).puts (fz.map λ(s,cs)=>(s,.val (.rptr cs)))).set d (.val (.func fn as bs))) h:=by
 obtain⟨h1,h2,h3⟩:=captures_spec hb;obtain⟨γ',hle,hr',hv⟩:=(hr.drop (fz.map (·.1))).freezeAll (λp hp=>by obtain⟨ver,ow,hs⟩:=h1 p hp;exact⟨ver,ow,by rw[Env.at_drop,hs]⟩) h2
 refine Sim.value (w':=w) (v:= .func fn (first.map a.eval) (captured.map a.eval)) (by simp[execOp,ho,Instr.makeFunc]) (by rw[hd];exact hr'.put (d:=some d) λ_ _=>⟨_,_,rfl,by simpa using VRelV.mono hle _ _ (opVals_rel hr ha),by simpa using h3 γ' (λx u hx=>VRel.mono hle _ _ (opVal_rel hr hx)) hv⟩)
end
end Go.Am
end
