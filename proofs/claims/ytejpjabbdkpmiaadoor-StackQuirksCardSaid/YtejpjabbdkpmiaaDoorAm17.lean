/-
  Simulation of operations, tenth part: private variables. No law is claimed here.
-/
import Derived.Test.YtejpjabbdkpmiaaDoorAm16
set_option linter.unusedSimpArgs false
set_option linter.unusedVariables false
namespace Go.Am
open Go

def upd (β : Nat → Nat) (d b : Nat) : Nat → Nat := fun s => if s = d then b else β s

def Owner.slot : Owner → Option Nat
  | .obj _ => none
  | .loc s => some s
  | .tail s _ _ => some s

/-- Nothing that the frame owns has changed but one block. -/
structure KeptBut (g : Nat) (γ : Gh) (w : World) (γ' : Gh) (w' : World) : Prop where
  le : γ.le γ'
  keep : ∀ b x, b ≠ g → γ.own b = some x → x.isObj = false → γ'.own b = some x ∧ w'.heap[b]? = w.heap[b]?

section
variable {C : Ctx} {γ0 γ γ' : Gh} {w0 w w' : World} {β : Nat → Nat} {σ : Env} {h : AHeap} {a : Act} {fid : FuncId} {ops : List Oper}

theorem Env.at_drop (σ : Env) (ds : List Nat) (s : Nat) : (σ.drop ds).at s = match σ.at s with | .lref t o => if ds.contains t then .undef else .lref t o | x => x := by
  cases ds with
  | nil => simp only [Env.drop, List.contains_nil]; cases σ.at s <;> simp
  | cons d ds =>
    simp only [Env.drop, Env.at, List.getD, List.getElem?_map]
    cases hg : σ[s]? with
    | none => rfl
    | some x => cases x <;> rfl

theorem Env.length_drop (σ : Env) (ds : List Nat) : (σ.drop ds).length = σ.length := by
  cases ds <;> simp [Env.drop]

theorem SRel.newβ {B s d b : Nat} {x : Slot} {v : Value} (hx : SRel γ β B w s x v) (hn : ∀ o, x ≠ .lref d o) (hs : s ≠ d) : SRel γ (upd β d b) B w s x v := by
  cases x with
  | box ver cs ow => simpa only [SRel, upd, if_neg hs] using hx
  | lref t o =>
    have : t ≠ d := fun e => hn o (by rw [e])
    simpa only [SRel, upd, if_neg this] using hx
  | _ => exact hx

theorem OwnT.keptBut {g B s : Nat} {x0 : Owner} (hg : γ.own g = some x0) (k : KeptBut g γ w γ' w') (hne : x0.slot ≠ some s) {c : Option Nat} {v : Value} {u : AVal} (ho : OwnT γ B w s c v u) : OwnT γ' B w' s c v u := by
  rcases ho with ho | ⟨g2, n, cap, us, e, z, rows, h1, h2, h3, h4, h5, h6⟩
  · exact .inl ho
  · have hb : g2 ≠ g := fun he => by
      subst he
      rw [hg] at h3
      cases h3
      exact hne rfl
    obtain ⟨k1, k2⟩ := k.keep g2 _ hb h3 rfl
    exact .inr ⟨g2, n, cap, us, e, z, rows, h1, h2, k1, h4, by rw [k2]; exact h5, h6⟩

theorem SRel.keptBut {g B s : Nat} {x0 : Owner} (hg : γ.own g = some x0) (k : KeptBut g γ w γ' w') (hne : x0.slot ≠ some s) {x : Slot} {v : Value} (hx : SRel γ β B w s x v) : SRel γ' β B w' s x v := by
  cases x with
  | undef => trivial
  | skip => exact hx
  | val u => exact VRel.mono k.le u v hx
  | cst b => exact hx
  | own u => exact ⟨VRel.mono k.le u v hx.1, hx.2.keptBut hg k hne⟩
  | box ver cs ow =>
    obtain ⟨p1, p2, p3, us, e, p4, p5, p6, p7⟩ := hx
    have hb : β s ≠ g := fun he => by
      rw [he, hg] at p2
      cases p2
      exact hne rfl
    obtain ⟨k1, k2⟩ := k.keep _ _ hb p2 rfl
    exact ⟨p1, k1, p3, us, e, by rw [k2]; exact p4, VRelV.mono k.le cs _ p5, p6, fun o ho => let ⟨u, v, q1, q2, q3⟩ := p7 o ho; ⟨u, v, q1, q2, q3.keptBut hg k hne⟩⟩
  | lref s' o => exact hx

/-- A new private variable. -/
theorem Rel.newBox (hr : Rel C γ0 w0 γ β σ h a w) (d : Nat) (us : Array Value) (e : TypeId) (cells : List AVal) (ow : List Nat) (hc : VRelV γ cells us.toList) (h1 : ∀ u ∈ us.toList, u.oneCell' = true)
    (how : ∀ o ∈ ow, cells[o]? = some .slnil) :
    ∃ γ' β', Rel C γ0 w0 γ' β' ((σ.drop [d]).set d (.box 0 cells ow)) h (a.put (some d) (.pointer (some ⟨w.heap.size, 0, none⟩))) (w.alloc (.cells us e)) := by
  obtain ⟨hi, ha⟩ := alloc_claim hr.inv us e (0, 0) 0 (some (.loc d)) (fun _ _ ho => absurd ho (Nat.not_lt_zero _)) (.inr (.inr ⟨rfl, by simp⟩))
  have hr1 := (hr.drop [d]).world hi ha
  refine ⟨_, upd β d w.heap.size, hr1.inv, ⟨by simp [Act.put, hr1.fr.size], fun s => ?_⟩, hr1.acc, hr1.defers, hr1.glob⟩
  have hs := hr1.fr.slots s
  by_cases he : s = d
  · subst he
    by_cases hl : s < (σ.drop [s]).length
    · have hl' : s < a.tmps.size := by rw [← hr1.fr.size]; exact hl
      rw [Env.at_set_self hl]
      have e1 : (a.put (some s) (.pointer (some ⟨w.heap.size, 0, none⟩))).tmps.getD s undef = .pointer (some ⟨w.heap.size, 0, none⟩) := by
        simp [Act.put, Array.getD, hl']
      rw [e1]
      refine ⟨by simp [upd], by simp [upd, Gh.claim], ?_, us, e, ?_, VRelV.mono ha.le _ _ hc, h1, fun o ho => ?_⟩
      · simp only [upd, if_true]; exact hr.acc.size
      · simp only [upd, if_true]; exact heap_alloc_new w _
      · have hco := how o ho
        obtain ⟨u, q1, q2⟩ := hc.get hco
        exact ⟨u, .slnil, by simpa using q1, hco, .inl rfl⟩
    · have : Env.at ((σ.drop [s]).set s (.box 0 cells ow)) s = .undef := by simp [Env.at, List.getD]; rw [List.getElem?_eq_none (by simpa using hl)]; rfl
      rw [this]; trivial
  · rw [Env.at_set_ne (fun e => he e.symm)]
    have e2 : (a.put (some d) (.pointer (some ⟨w.heap.size, 0, none⟩))).tmps.getD s undef = a.tmps.getD s undef := by
      simp [Act.put, Array.getD_eq_getD_getElem?, Array.getElem?_setIfInBounds_ne (fun e => he e.symm)]
    rw [e2]
    refine hs.newβ (fun o ho => ?_) he
    rw [Env.at_drop] at ho
    cases hx : σ.at s with
    | lref t o' =>
      rw [hx] at ho
      simp only at ho
      split at ho
      · cases ho
      · rename_i hc
        cases ho
        exact hc (by simp)
    | _ => rw [hx] at ho; cases ho

theorem run_zeroValue {P : Program} {t : TypeId} {z : AVal} (hz : tyZero P t = some z) : ∃ v, ofConst v = some z ∧ ∀ w, (zeroValue t).run P w = .ok v w := by
  unfold tyZero at hz
  cases hi : P.info? t with
  | none => rw [hi] at hz; cases hz
  | some i =>
    rw [hi] at hz
    cases hv : i.zero with
    | none => simp [hv] at hz
    | some v =>
      simp only [Option.bind_some, hv] at hz
      exact ⟨v, hz, fun w => by simp [zeroValue, typeInfo, hi, hv]⟩

theorem ownNil_get {cs : List AVal} {o : Nat} (h : o ∈ ownNil cs) : cs[o]? = some .slnil := by
  simp only [ownNil, List.mem_filter, List.mem_range] at h
  obtain ⟨h1, h2⟩ := h
  simp only [List.getD, List.getElem?_eq_getElem h1, Option.getD_some] at h2
  rw [List.getElem?_eq_getElem h1]
  split at h2
  · rename_i he; rw [he]
  · cases h2

/-- What an operation is shown to do. -/
def Sim (C : Ctx) (γ0 : Gh) (w0 : World) (o : Oper) (a : Act) (w : World) (σ' : Env) (h' : AHeap) : Prop :=
  ∃ γ' β' w', (∃ v, (execOp a.eval o).run C.P w = .ok (.value v) w' ∧ Rel C γ0 w0 γ' β' σ' h' (a.put o.dst v) w') ∨ ((execOp a.eval o).run C.P w = .ok .skip w' ∧ Rel C γ0 w0 γ' β' σ' h' (a.put o.dst undef) w')

theorem Sim.value {o : Oper} {σ' : Env} {h' : AHeap} {β' : Nat → Nat} {v : Value} (he : (execOp a.eval o).run C.P w = .ok (.value v) w') (hr : Rel C γ0 w0 γ' β' σ' h' (a.put o.dst v) w') : Sim C γ0 w0 o a w σ' h' := ⟨γ', β', w', .inl ⟨v, he, hr⟩⟩
theorem Sim.skip {o : Oper} {σ' : Env} {h' : AHeap} {β' : Nat → Nat} (he : (execOp a.eval o).run C.P w = .ok .skip w') (hr : Rel C γ0 w0 γ' β' σ' h' (a.put o.dst undef) w') : Sim C γ0 w0 o a w σ' h' := ⟨γ', β', w', .inr ⟨he, hr⟩⟩

theorem sim_alloc_priv {o : Oper} {t : TypeId} {d : Nat} {z : AVal} (ho : o.op = .alloc t) (hd : o.dst = some d) (hz : tyZero C.P t = some z) (hn : z.cells ≠ []) (hr : Rel C γ0 w0 γ β σ h a w) :
    Sim C γ0 w0 o a w ((σ.drop [d]).set d (.box 0 z.cells (ownNil z.cells))) h := by
  obtain ⟨v, hv, hrun⟩ := run_zeroValue hz
  obtain ⟨q1, q2⟩ := cells_rel (γ := γ) (ofConst_rel hv) (List.length_pos_iff.2 hn)
  obtain ⟨γ', β', hr'⟩ := hr.newBox d v.cells t z.cells (ownNil z.cells) q1 q2 (fun o => ownNil_get)
  refine Sim.value (v := .pointer (some ⟨w.heap.size, 0, none⟩)) ?_ (by rw [hd]; exact hr')
  simp [execOp, ho, Instr.alloc, hrun, newVar, newRow]

theorem sim_box_priv {o : Oper} {t : TypeId} {x : Operand} {d n : Nat} {v : AVal} (ho : o.op = .box t x) (hd : o.dst = some d) (hx : opVal C σ x = some v) (hv : v.cells.length = n) (hn : n ≠ 0) (hr : Rel C γ0 w0 γ β σ h a w) :
    Sim C γ0 w0 o a w ((σ.drop [d]).set d (.box 0 v.cells [])) h := by
  obtain ⟨q1, q2⟩ := cells_rel (opVal_rel hr hx) (by omega)
  obtain ⟨γ', β', hr'⟩ := hr.newBox d (a.eval x).cells t v.cells [] q1 q2 (by simp)
  refine Sim.value (v := .pointer (some ⟨w.heap.size, 0, none⟩)) ?_ (by rw [hd]; exact hr')
  simp [execOp, ho, Instr.box, newVar, newRow]

/-- A new object. -/
theorem Rel.newObj (hr : Rel C γ0 w0 γ β σ h a w) (us : Array Value) (e : TypeId) (fr : Nat × Nat) (cells : List AVal) (hfr : freeFr fr us.size) (hc : VRelV γ cells (us.toList.take cells.length)) (h1 : ∀ u ∈ us.toList.take cells.length, u.oneCell' = true) :
    ∃ γ', γ.le γ' ∧ γ'.mu h.length = some w.heap.size ∧ Rel C γ0 w0 γ' β σ (h ++ [.cells cells]) a (w.alloc (.cells us e fr)) := by
  obtain ⟨hi, ha⟩ := alloc_object hr.inv (.cells us e fr) (.cells cells) (.inl ⟨cells, us, e, fr, rfl, rfl, hfr, hc, h1⟩)
  exact ⟨_, ha.le, by simp [Gh.object], hr.world hi ha⟩

theorem sim_alloc_heap {o : Oper} {t : TypeId} {z : AVal} {d : Option Nat} (ho : o.op = .alloc t) (hd : o.dst = d) (hz : tyZero C.P t = some z) (hn : z.cells.length ≠ 0) (hr : Rel C γ0 w0 γ β σ h a w) :
    Sim C γ0 w0 o a w (σ.put d (.val (.ptr (some (h.length, 0))))) (h ++ [.cells z.cells]) := by
  obtain ⟨v, hv, hrun⟩ := run_zeroValue hz
  obtain ⟨q1, q2⟩ := cells_rel (γ := γ) (ofConst_rel hv) (by omega)
  obtain ⟨γ', hle, hm, hr'⟩ := hr.newObj v.cells t (0, 0) z.cells (.inl rfl) (by rw [List.take_of_length_le (by rw [q1.length]; exact Nat.le_refl _)]; exact q1) (fun u hu => q2 u (List.mem_of_mem_take hu))
  refine Sim.value (v := .pointer (some ⟨w.heap.size, 0, none⟩)) ?_ (by rw [hd]; exact hr'.put fun s _ => ⟨_, hm, rfl⟩)
  simp [execOp, ho, Instr.alloc, hrun, newVar, newRow]

theorem sim_box_heap {o : Oper} {t : TypeId} {x : Operand} {d : Option Nat} {v : AVal} (ho : o.op = .box t x) (hd : o.dst = d) (hx : opVal C σ x = some v) (hn : v.cells.length ≠ 0) (hr : Rel C γ0 w0 γ β σ h a w) :
    Sim C γ0 w0 o a w (σ.put d (.val (.ptr (some (h.length, 0))))) (h ++ [.cells v.cells]) := by
  obtain ⟨q1, q2⟩ := cells_rel (opVal_rel hr hx) (by omega)
  obtain ⟨γ', hle, hm, hr'⟩ := hr.newObj (a.eval x).cells t (0, 0) v.cells (.inl rfl) (by rw [List.take_of_length_le (by rw [q1.length]; exact Nat.le_refl _)]; exact q1) (fun u hu => q2 u (List.mem_of_mem_take hu))
  refine Sim.value (v := .pointer (some ⟨w.heap.size, 0, none⟩)) ?_ (by rw [hd]; exact hr'.put fun s _ => ⟨_, hm, rfl⟩)
  simp [execOp, ho, Instr.box, newVar, newRow]

/-- An operand that is an address in a private variable. -/
theorem addrOf_priv (hr : Rel C γ0 w0 γ β σ h a w) {x : Operand} {s o ver : Nat} {cs : List AVal} {ow : List Nat} (hx : addrOf C σ x = some (.priv s o ver cs ow)) :
    σ.at s = .box ver cs ow ∧ a.eval x = .pointer (some ⟨β s, o, none⟩) := by
  unfold addrOf at hx
  split at hx
  · rename_i s' ver' cs' ow' hs
    cases hx
    have h0 := slot_rel hr s
    rw [opSlot_tmp hs] at h0
    exact ⟨opSlot_tmp hs, h0.1⟩
  · rename_i s' o' _ hs
    split at hx
    · rename_i hb
      cases hx
      obtain ⟨t, h1, _⟩ := opSlot_any hr hs
      exact ⟨hb, h1⟩
    · cases hx
  · rename_i sl _ _ hs
    cases hv : sl.value? with
    | none => rw [hv] at hx; cases hx
    | some u => rw [hv] at hx; cases hx
  · cases hx

theorem addrOf_ptr (hr : Rel C γ0 w0 γ β σ h a w) {x : Operand} {p : AVal} (hx : addrOf C σ x = some (.ptr p)) : VRel γ p (a.eval x) := by
  unfold addrOf at hx
  split at hx
  · cases hx
  · split at hx <;> cases hx
  · rename_i sl _ _ hs
    cases hv : sl.value? with
    | none => rw [hv] at hx; cases hx
    | some u =>
      rw [hv] at hx; cases hx
      obtain ⟨t, h1, _⟩ := opSlot_any hr hs
      exact value_rel h1 hv
  · cases hx

/-- A load of a row of memory whose values are known. -/
theorem run_loadAt_rel {t : TypeId} {n : Option Nat} (ht : tyShape C.P t = some n) {cs : List AVal} {us : List Value} {b o : Nat} (hv : VRelV γ cs us) (hc : ∀ (j : Nat) (u : Value), us[j]? = some u → w.cell? ⟨b, o + j, none⟩ = some u) (h1 : ∀ u ∈ us, u.oneCell' = true)
    {r : AVal} (hp : partOf cs 0 n = some r) : ∃ v, (Instr.loadAt t (.pointer (some ⟨b, o, none⟩))).run C.P w = .ok v w ∧ VRel γ r v := by
  unfold tyShape at ht
  have hadd : ∀ j, (⟨b, o, none⟩ : Addr).add j = ⟨b, o + j, none⟩ := fun j => by unfold Addr.add; split <;> simp_all
  have agg : ∀ d, C.P.underlying t = some d → (match d with | .struct _ | .array _ _ => true | _ => false) = true → (tySize C.P t).map some = some n →
      ∃ v, (Instr.loadAt t (.pointer (some ⟨b, o, none⟩))).run C.P w = .ok v w ∧ VRel γ r v := by
    intro d hd hb hn
    cases hs : tySize C.P t with
    | none => rw [hs] at hn; cases hn
    | some k =>
      rw [hs] at hn; cases hn
      simp only [partOf] at hp
      split at hp
      · rename_i hk
        cases hp
        have hl := run_loadCells_list (P := C.P) w ⟨b, o, none⟩ (us.take k) (fun j v hj => by
          rw [hadd]
          refine hc j v ?_
          rw [List.getElem?_take] at hj
          split at hj
          · exact hj
          · cases hj)
        have hlen : (us.take k).length = k := by simp [hv.length]; omega
        rw [hlen] at hl
        refine ⟨.agg (us.take k).toArray, ?_, _, rfl, ?_, fun u hu => h1 u (List.mem_of_mem_take (by simpa using hu))⟩
        · have hagg : (isAgg t).run C.P w = .ok true w := by
            unfold isAgg
            rw [Sem.run_bind, run_underlying hd w]
            cases d <;> simp_all
          cases hq : C.P.info? t with
          | none => simp [tySize, hq] at hs
          | some i =>
            have hi : i.size = k := by simpa [tySize, hq] using hs
            simp [Instr.loadAt, Instr.sureAddr, loadVar, hagg, sizeOf, typeInfo, hq, hi, hl]
        · simpa using hv.take k
      · cases hp
  split at ht
  · rename_i fs hd; exact agg _ hd rfl ht
  · rename_i l e hd; exact agg _ hd rfl ht
  · rename_i d hn1 hn2 hd
    cases ht
    simp only [partOf] at hp
    obtain ⟨u, hu, hr⟩ := hv.get hp
    refine ⟨u, ?_, hr⟩
    have hagg : (isAgg t).run C.P w = .ok false w := by
      unfold isAgg
      rw [Sem.run_bind, run_underlying hd w]
      cases d <;> simp_all
    have hcell := hc 0 u hu
    simp only [Nat.add_zero] at hcell
    simp [Instr.loadAt, Instr.sureAddr, loadVar, hagg, hcell]
  · cases ht

theorem partOf_drop {cs : List AVal} {off : Nat} {n : Option Nat} {r : AVal} (h : partOf cs off n = some r) : partOf (cs.drop off) 0 n = some r := by
  cases n with
  | none => simp only [partOf] at h ⊢; rw [List.getElem?_drop]; simpa using h
  | some n =>
    simp only [partOf] at h ⊢
    split at h
    · cases h
      rw [if_pos (by simp; omega)]
      simp
    · cases h

/-- What a private variable holds. -/
theorem Rel.box_cells (hr : Rel C γ0 w0 γ β σ h a w) {s ver : Nat} {cs : List AVal} {ow : List Nat} (hs : σ.at s = .box ver cs ow) :
    γ.own (β s) = some (.loc s) ∧ w0.heap.size ≤ β s ∧ ∃ us e, w.heap[β s]? = some (.cells us e (0, 0)) ∧ VRelV γ cs us.toList ∧ (∀ u ∈ us.toList, u.oneCell' = true) ∧
      ∀ o ∈ ow, ∃ u x, us[o]? = some u ∧ cs[o]? = some x ∧ OwnT γ w0.heap.size w s (some o) u x := by
  have h0 := hr.fr.slots s
  rw [hs] at h0
  exact ⟨h0.2.1, h0.2.2.1, h0.2.2.2⟩

theorem run_load_priv (hr : Rel C γ0 w0 γ β σ h a w) {t : TypeId} {n : Option Nat} (ht : tyShape C.P t = some n) {s ver off : Nat} {cs : List AVal} {ow : List Nat} (hs : σ.at s = .box ver cs ow) {r : AVal} (hp : partOf cs off n = some r) :
    ∃ v, (Instr.loadAt t (.pointer (some ⟨β s, off, none⟩))).run C.P w = .ok v w ∧ VRel γ r v ∧ (n = none → ∀ us e, w.heap[β s]? = some (.cells us e (0, 0)) → us[off]? = some v) := by
  obtain ⟨_, _, us, e, h1, h2, h3, _⟩ := hr.box_cells hs
  obtain ⟨v, q1, q2⟩ := run_loadAt_rel (w := w) (b := β s) (o := off) ht (h2.drop off) (fun j u hj => by
    rw [cell_of_row w _ _ us e (0, 0) h1]
    rw [List.getElem?_drop] at hj
    simpa using hj) (fun u hu => h3 u (List.mem_of_mem_drop hu)) (partOf_drop hp)
  refine ⟨v, q1, q2, fun hn us' e' h1' => ?_⟩
  subst hn
  rw [h1] at h1'
  cases h1'
  simp only [partOf] at hp
  obtain ⟨u, hu, _⟩ := h2.get hp
  have hcell : w.cell? ⟨β s, off, none⟩ = some u := by rw [cell_of_row w _ _ us e (0, 0) h1]; simpa using hu
  have hagg : ∃ d, C.P.underlying t = some d ∧ (isAgg t).run C.P w = .ok false w := by
    unfold tyShape at ht
    split at ht
    · cases hz : tySize C.P t <;> rw [hz] at ht <;> cases ht
    · cases hz : tySize C.P t <;> rw [hz] at ht <;> cases ht
    · rename_i d hn1 hn2 hd
      refine ⟨d, hd, ?_⟩
      unfold isAgg
      rw [Sem.run_bind, run_underlying hd w]
      cases d <;> simp_all
    · cases ht
  obtain ⟨d, hd, hagg⟩ := hagg
  have : (Instr.loadAt t (.pointer (some ⟨β s, off, none⟩))).run C.P w = .ok u w := by simp [Instr.loadAt, Instr.sureAddr, loadVar, hagg, hcell]
  rw [q1] at this
  cases this
  simpa using hu

/-- A slice's spare places go from a private variable to another place. -/
theorem Rel.takeBox (hr : Rel C γ0 w0 γ β σ h a w) {s ver off : Nat} {cs : List AVal} {ow : List Nat} (hs : σ.at s = .box ver cs ow) (ho : off ∈ ow) (hnd : off ∉ ow.erase off) (s' : Nat) (c' : Option Nat) {u : Value} {v : AVal} (hv : cs[off]? = some v)
    (hu : ∀ us e, w.heap[β s]? = some (.cells us e (0, 0)) → us[off]? = some u) :
    ∃ γ', γ.le γ' ∧ Rel C γ0 w0 γ' β (σ.set s (.box (ver + 1) cs (ow.erase off))) h a w ∧ OwnT γ' w0.heap.size w s' c' u v := by
  have h0 := hr.fr.slots s
  rw [hs] at h0
  obtain ⟨h1, h2, h3, us, e, h4, h5, h6, h7⟩ := h0
  obtain ⟨u', v', q1, q2, q3⟩ := h7 off ho
  rw [hv] at q2; cases q2
  rw [hu us e h4] at q1; cases q1
  have hr1 : Rel C γ0 w0 γ β (σ.set s (.box (ver + 1) cs (ow.erase off))) h a w := hr.turn ⟨h1, h2, h3, us, e, h4, h5, h6, fun o' ho' => h7 o' (List.mem_of_mem_erase ho')⟩
  have hl : s < σ.length := Env.at_lt (by rw [hs]; simp)
  rcases q3 with q3 | ⟨g, n, cap, us2, e2, z, rows, p1, p2, p3, p4, p5⟩
  · exact ⟨γ, .refl _, hr1, .inl q3⟩
  · refine ⟨γ.retag g (.tail s' c' (n * z)), le_retag _ _ _, hr1.retag p3 p4 (fun hn => by cases hn) (fun o' ho' ver' cs' ow' hb => ?_), .inr ⟨g, n, cap, us2, e2, z, rows, p1, p2, by simp [Gh.retag], p4, p5⟩⟩
    rw [Env.at_set_self hl] at hb
    cases hb
    cases ho'
    exact hnd

theorem sim_load_priv {o : Oper} {t : TypeId} {x : Operand} {d : Nat} {take : Bool} {r : OpR} {run : IT → AHeap → Option Res} {σ' : Env} {h' : AHeap} (ho : o.op = .load t x) (hd : o.dst = some d) (hc : loadOp C σ t x d take = some r) (hp : ∃ ws, r = .pure ws)
    (hdo : r.does C run (σ.drop r.news) h σ' h') (hr : Rel C γ0 w0 γ β σ h a w) : Sim C γ0 w0 o a w σ' h' := by
  have hex : ∀ v, (Instr.loadAt t (a.eval x)).run C.P w = .ok v w → (execOp a.eval o).run C.P w = .ok (.value v) w := fun v hv => by
    simp [execOp, ho, hv]
  unfold loadOp at hc
  split at hc
  · cases hc; obtain ⟨_, e⟩ := hp; cases e
  · rename_i s off ver cs ow ht ha
    obtain ⟨hs, hx⟩ := addrOf_priv hr ha
    split at hc
    · rename_i hlt
      have hget : cs[off]? = some (cs.getD off .nilIface) := by simp [List.getD, List.getElem?_eq_getElem hlt]
      obtain ⟨v, q1, q2, q3⟩ := run_load_priv hr ht hs (r := cs.getD off .nilIface) (off := off) (by simpa [partOf] using hget)
      rw [← hx] at q1
      simp only at hc
      split at hc
      · rename_i hcond
        cases hc
        rw [noNews (by simp)] at hdo
        obtain ⟨rfl, rfl⟩ := hdo
        simp only [Bool.and_eq_true, List.contains_iff_mem] at hcond
        obtain ⟨⟨c1, c2⟩, _⟩ := hcond
        have c2 : off ∉ ow.erase off := by simpa using c2
        obtain ⟨γ', hle, hr', hown⟩ := hr.takeBox hs c1 c2 d none hget (q3 rfl)
        exact Sim.value (hex v q1) (by rw [hd]; exact hr'.put (d := some d) fun s' hs' => by cases hs'; exact ⟨VRel.mono hle _ _ q2, hown⟩)
      · cases hc
        rw [noNews (by simp)] at hdo
        obtain ⟨rfl, rfl⟩ := hdo
        exact Sim.value (hex v q1) (by rw [hd]; exact hr.put (d := some d) fun _ _ => q2)
    · cases hc
  · rename_i n s off ver cs ow ht ha
    obtain ⟨hs, hx⟩ := addrOf_priv hr ha
    split at hc
    · rename_i hle
      cases hc
      rw [noNews (by simp)] at hdo
      obtain ⟨rfl, rfl⟩ := hdo
      obtain ⟨v, q1, q2, _⟩ := run_load_priv hr ht hs (r := .agg ((cs.drop off).take n)) (off := off) (by simp [partOf, hle])
      rw [← hx] at q1
      exact Sim.value (hex v q1) (by rw [hd]; exact hr.put (d := some d) fun _ _ => q2)
    · cases hc
  · cases hc

/-- A load of the heap, or of memory that never changes. -/
theorem sim_load {o : Oper} {t : TypeId} {x : Operand} {n : Option Nat} {p r : AVal} (ho : o.op = .load t x) (ht : tyShape C.P t = some n) (hx : addrOf C σ x = some (.ptr p)) (hl : hload h n p = some r) (hr : Rel C γ0 w0 γ β σ h a w) :
    Sim C γ0 w0 o a w (σ.put o.dst (.val r)) h := by
  have hv := addrOf_ptr hr hx
  have hex : ∀ v, (Instr.loadAt t (a.eval x)).run C.P w = .ok v w → (execOp a.eval o).run C.P w = .ok (.value v) w := fun v hv => by
    simp [execOp, ho, hv]
  unfold hload at hl
  split at hl
  · rename_i cs
    obtain ⟨b, k, hv, hm⟩ := hv
    obtain ⟨us, p1, p2⟩ := hm.values
    obtain ⟨v, q1, q2⟩ := run_loadAt_rel (w := w) ht p1 (fun j u hj => (hr.inv.imm _ _ _ (p2 j u hj)).1) (fun u hu => by
      obtain ⟨j, hj⟩ := List.getElem?_of_mem hu
      exact (hr.inv.imm _ _ _ (p2 j u hj)).2.1) hl
    rw [← hv] at q1
    exact Sim.value (hex v q1) (hr.put fun _ _ => q2)
  · rename_i id off
    obtain ⟨b, hb, hv⟩ := hv
    split at hl
    · rename_i cs hcs
      obtain ⟨us, e, fr, p1, pf, p2, p3⟩ := hr.inv.cells id cs hcs b hb
      obtain ⟨v, q1, q2⟩ := run_loadAt_rel (w := w) (b := b) (o := off) ht (p2.drop off) (fun j u hj => by
        rw [cell_of_row w _ _ us e fr p1]
        rw [List.getElem?_drop, List.getElem?_take] at hj
        split at hj
        · simpa using hj
        · cases hj) (fun u hu => p3 u (List.mem_of_mem_drop hu)) (partOf_drop hl)
      rw [← hv] at q1
      exact Sim.value (hex v q1) (hr.put fun _ _ => q2)
    · cases hl
  · cases hl
end
end Go.Am
