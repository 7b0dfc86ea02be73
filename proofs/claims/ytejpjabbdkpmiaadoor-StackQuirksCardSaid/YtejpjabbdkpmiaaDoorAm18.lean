/-
  Simulation of operations, eleventh part: stores and closures. No law is claimed here.
-/
import Derived.Test.YtejpjabbdkpmiaaDoorAm17
import Derived.Laws.IdiomCopy
set_option linter.unusedSimpArgs false
set_option linter.unusedVariables false
namespace Go.Am
open Go

section
variable {C : Ctx} {γ0 γ γ' : Gh} {w0 w w' : World} {β : Nat → Nat} {σ : Env} {h : AHeap} {a : Act} {fid : FuncId} {ops : List Oper}

theorem setCells_row {b : Nat} {t : TypeId} {fr : Nat × Nat} : ∀ (vs : List Value) (o : Nat) (cur : Array Value) (w : World), w.heap[b]? = some (.cells cur t fr) → o + vs.length ≤ cur.size →
    w.setCells b o vs = w.setRow b (cur.toList.take o ++ vs ++ cur.toList.drop (o + vs.length)).toArray
  | [], o, cur, w, hg, _ => by
    simp only [World.setCells, List.append_nil, List.length_nil, Nat.add_zero, List.take_append_drop, Array.toArray_toList]
    exact (setRow_self w b cur t fr hg).symm
  | v :: r, o, cur, w, hg, hl => by
    simp only [List.length_cons] at hl
    rw [World.setCells, setCell_eq_setRow w b o cur t fr v hg, setCells_row r (o + 1) _ _ (setRow_heap w b cur _ t fr hg) (by simp; omega), setRow_setRow]
    have e := list_seg_step cur.toList o v r (by simp; omega)
    simp only [Array.toList_setIfInBounds, List.length_cons]
    rw [e]

/-- A value goes into a row of memory that no mark covers. -/
theorem run_storeAt_row {t : TypeId} {n b o : Nat} (hn : tySize C.P t = some n) {u : Value} (hu : u.cells.size = n) (h1 : ∀ x ∈ u.cells.toList, x.oneCell' = true) {cur : Array Value} {e : TypeId} {fr : Nat × Nat} (hg : w.heap[b]? = some (.cells cur e fr)) (hfr : freeFr fr cur.size)
    (hl : o + n ≤ cur.size) : (Instr.storeAt t (.pointer (some ⟨b, o, none⟩)) u).run C.P w = .ok () (w.setRow b (cur.toList.take o ++ u.cells.toList ++ cur.toList.drop (o + n)).toArray) := by
  have hs := run_storeCells_cells (P := C.P) b o u.cells.toList 0 w (fun j hj => by
      rw [cell_of_row w _ _ cur e fr hg]
      simp at hj
      rw [Array.getElem?_eq_getElem (by omega)]; rfl) (fun j hj => by
      simp at hj
      simp only [World.frozen?, hg]
      rcases hfr with rfl | hfr
      · simp
      · simp; omega) h1
  rw [Nat.add_zero, setCells_row _ o cur w hg (by simp; omega)] at hs
  cases hq : C.P.info? t with
  | none => simp [tySize, hq] at hn
  | some i =>
    have hi : i.size = n := by simpa [tySize, hq] using hn
    simp only [Array.length_toList, hu] at hs
    simp [Instr.storeAt, Instr.sureAddr, storeVar, sizeOf, typeInfo, hq, hi, hu, hs]

theorem splice_out {α : Type} {cs vs : List α} {off n o : Nat} (hl : off + n ≤ cs.length) (hv : vs.length = n) (ho : ¬ (off ≤ o ∧ o < off + n)) : (cs.take off ++ vs ++ cs.drop (off + n))[o]? = cs[o]? := by
  have e1 : (cs.take off).length = off := by simp; omega
  by_cases h : o < off
  · rw [List.getElem?_append_left (by simp [hv]; omega), List.getElem?_append_left (by omega), List.getElem?_take_of_lt h]
  · rw [List.getElem?_append_right (by simp [hv]; omega), List.getElem?_drop]
    congr 1
    simp [hv]
    omega

theorem splice_at {α : Type} {cs : List α} {off n : Nat} {x : α} (hl : off + n ≤ cs.length) : (cs.take off ++ [x] ++ cs.drop (off + n))[off]? = some x := by
  have e1 : (cs.take off).length = off := by simp; omega
  rw [List.getElem?_append_left (by simp; omega), List.getElem?_append_right (by omega)]
  simp [e1]

theorem splice_take {α : Type} {us vs : List α} {off n len : Nat} (hl : len ≤ us.length) (ho : off + n ≤ len) (hv : vs.length = n) :
    (us.take off ++ vs ++ us.drop (off + n)).take len = (us.take len).take off ++ vs ++ (us.take len).drop (off + n) := by
  have e1 : (us.take off).length = off := by simp; omega
  have e2 : (us.take off ++ vs).length = off + n := by simp [hv]; omega
  rw [List.take_append, List.take_of_length_le (by omega), e2, List.take_take, Nat.min_eq_left (by omega), List.drop_take]

theorem splice_rel {cs vs : List AVal} {us us' : List Value} {off n : Nat} (h : VRelV γ cs us) (h' : VRelV γ vs us') : VRelV γ (cs.take off ++ vs ++ cs.drop (off + n)) (us.take off ++ us' ++ us.drop (off + n)) :=
  ((h.take off).append h').append (h.drop (off + n))

theorem OwnT.other {B s s2 g : Nat} (hg : γ.own g = some (.loc s)) {c : Option Nat} {v : Value} {u : AVal} (us' : Array Value) (ho : OwnT γ B w s2 c v u) : OwnT γ B (w.setRow g us') s2 c v u := by
  rcases ho with ho | ⟨g2, n, cap, us, e, z, rows, h1, h2, h3, h4, h5, h6⟩
  · exact .inl ho
  · have hb : g2 ≠ g := fun he => by subst he; rw [hg] at h3; cases h3
    exact .inr ⟨g2, n, cap, us, e, z, rows, h1, h2, h3, h4, by rw [setRow_other w g g2 us' hb]; exact h5, h6⟩

theorem keptBut_setRow (γ : Gh) (w : World) (g : Nat) (us : Array Value) : KeptBut g γ w γ (w.setRow g us) :=
  ⟨.refl _, fun b x hb hx _ => ⟨hx, setRow_other w g b us hb⟩⟩

/-- A private variable is written. -/
theorem Rel.storeBox (hr : Rel C γ0 w0 γ β σ h a w) {s ver ver' off n : Nat} {cs : List AVal} {ow : List Nat} (hs : σ.at s = .box ver cs ow) {vs : List AVal} {us' : List Value} (hv : VRelV γ vs us') (h1 : ∀ u ∈ us', u.oneCell' = true) (hn : vs.length = n)
    (hl : off + n ≤ cs.length) {own : Bool} (hown : own = true → ∃ u x, us' = [u] ∧ vs = [x] ∧ OwnT γ w0.heap.size w s (some off) u x) {us : Array Value} {e : TypeId} (hg : w.heap[β s]? = some (.cells us e (0, 0))) :
    Rel C γ0 w0 γ β (σ.set s (.box ver' (splice cs off n vs) (ownAfter ow off n own))) h a (w.setRow (β s) (us.toList.take off ++ us' ++ us.toList.drop (off + n)).toArray) := by
  have h0 := hr.fr.slots s
  rw [hs] at h0
  obtain ⟨p1, p2, p3, us0, e0, p4, p5, p6, p7⟩ := h0
  rw [hg] at p4; cases p4
  have hlen : us'.length = n := by rw [hv.length, hn]
  have hul : off + n ≤ us.toList.length := by rw [p5.length]; exact hl
  have hls : s < σ.length := Env.at_lt (by rw [hs]; simp)
  refine ⟨write_loc hr.inv p2 _, ⟨by simp [hr.fr.size], fun s2 => ?_⟩, hr.acc.write (g := β s) p3 (.refl _) (by simp) rfl rfl rfl (fun b hb => ⟨setRow_other w _ b _ hb, rfl⟩), hr.defers, hr.glob⟩
  by_cases he : s2 = s
  · subst he
    rw [Env.at_set_self hls]
    refine ⟨p1, p2, p3, _, e, setRow_heap w _ us _ e (0, 0) hg, ?_, ?_, ?_⟩
    · simpa [splice] using splice_rel (off := off) (n := n) p5 hv
    · intro u hu
      simp only [List.append_assoc, List.mem_append] at hu
      rcases hu with hu | hu | hu
      · exact p6 u (List.mem_of_mem_take hu)
      · exact h1 u hu
      · exact p6 u (List.mem_of_mem_drop hu)
    · intro o ho
      have hcase : (own = true ∧ o = off) ∨ (o ∈ ow ∧ ¬ (off ≤ o ∧ o < off + n)) := by
        unfold ownAfter at ho
        have hf : o ∈ ow.filter (fun o => !(decide (off ≤ o) && decide (o < off + n))) → o ∈ ow ∧ ¬ (off ≤ o ∧ o < off + n) := fun hm => by
          rw [List.mem_filter] at hm
          refine ⟨hm.1, fun hc => ?_⟩
          have := hm.2
          simp [hc.1, hc.2] at this
        cases own with
        | true =>
          simp only [if_true, List.mem_cons] at ho
          rcases ho with ho | ho
          · exact .inl ⟨rfl, ho⟩
          · exact .inr (hf ho)
        | false => exact .inr (hf ho)
      rcases hcase with ⟨ho1, rfl⟩ | ⟨ho1, ho2⟩
      · obtain ⟨u, x, rfl, rfl, hT⟩ := hown ho1
        exact ⟨u, x, by simpa using splice_at (x := u) hul, by simpa [splice] using splice_at (x := x) hl, hT.other p2 _⟩
      · obtain ⟨u, x, q1, q2, q3⟩ := p7 o ho1
        refine ⟨u, x, ?_, ?_, q3.other p2 _⟩
        · rw [← q1]
          have := splice_out hul hlen ho2
          simpa using this
        · rw [← q2]; exact splice_out hl hn ho2
  · rw [Env.at_set_ne (fun x => he x.symm)]
    exact (hr.fr.slots s2).keptBut p2 (keptBut_setRow γ w _ _) (by simp only [Owner.slot]; intro hx; cases hx; exact he rfl)

/-- An owned operand hands its spare places on. -/
theorem own_operand (hr : Rel C γ0 w0 γ β σ h a w) {y : Operand} {v : AVal} (hy : isOwn C σ y = true) (hv : opVal C σ y = some v) (s' : Nat) (c' : Option Nat) :
    ∃ γ', γ.le γ' ∧ Rel C γ0 w0 γ' β (σ.demote (demoteOf σ y)) h a w ∧ VRel γ' v (a.eval y) ∧ OwnT γ' w0.heap.size w s' c' (a.eval y) v := by
  unfold isOwn at hy
  cases hs : opSlot C σ y with
  | none => rw [hs] at hy; cases hy
  | some sl =>
    rw [hs] at hy
    cases sl with
    | own u =>
      have hvu : u = v := by
        unfold opVal at hv
        rw [hs] at hv
        exact Option.some.inj hv
      subst hvu
      cases y with
      | tmp t =>
        have ht : σ.at t = .own u := opSlot_tmp hs
        obtain ⟨γ', hle, hr', h1, h2⟩ := hr.take ht s' c'
        exact ⟨γ', hle, by simpa [demoteOf, ht, Env.demote] using hr', h1, h2⟩
      | const c =>
        refine ⟨γ, .refl _, hr, opVal_rel hr hv, ?_⟩
        obtain ⟨q, _⟩ := opSlot_const (γ := γ) (β := β) (w := w) hs
        unfold opSlot at hs
        split at hs
        · rename_i e; cases e
        · cases hs
        · cases hs; exact .inl rfl
        · rename_i heq
          cases heq
          cases hc : ofConst c with
          | none => rw [hc] at hs; cases hs
          | some _ => rw [hc] at hs; cases hs
        · rename_i e; cases e
        · cases hs
      | global g =>
        have hs' : (C.glob g).map (fun cs => Slot.val (AVal.rptr cs)) = some (.own u) := hs
        cases hc : C.glob g <;> rw [hc] at hs' <;> cases hs'
      | func f => cases hs
    | _ => cases hy

theorem own_scalar {B s : Nat} {c : Option Nat} {v : Value} {x : AVal} (h : OwnT γ B w s c v x) : x.cells = [x] := by
  rcases h with rfl | ⟨_, _, _, _, _, _, _, rfl, _⟩ <;> rfl

theorem sim_bstore {o : Oper} {t : TypeId} {x y : Operand} {s off n ver : Nat} {v : AVal} {own : Bool} {dem : Option (Nat × AVal)} {cells : List AVal} {owned : List Nat} {run : IT → AHeap → Option Res} {σ' : Env} {h' : AHeap} (ho : o.op = .store t x y) (hd : o.dst = none)
    (hc : storeOp C σ t x y = some (.bstore s off n v own dem ver cells owned)) (hdo : (OpR.bstore s off n v own dem ver cells owned).does C run σ h σ' h') (hr : Rel C γ0 w0 γ β σ h a w) : Sim C γ0 w0 o a w σ' h' := by
  unfold storeOp at hc
  split at hc
  · cases hc
  · rename_i m sh s' off' ver' cs' ow' v' hsz hsh ha hv
    split at hc
    · rename_i hl
      simp only [Option.some.injEq, OpR.bstore.injEq] at hc
      obtain ⟨rfl, rfl, rfl, rfl, hown, hdem, rfl, rfl, rfl⟩ := hc
      obtain ⟨hn, rfl, rfl⟩ := hdo
      obtain ⟨hs, hx⟩ := addrOf_priv hr ha
      have hvr := opVal_rel hr hv
      obtain ⟨_, _, us, e, hg, p5, p6, _⟩ := hr.box_cells hs
      have hls : off' + (m + 1) ≤ us.size := by have := p5.length; simp at this; omega
      obtain ⟨q1, q2⟩ := cells_rel hvr (by omega)
      have husz : (a.eval y).cells.size = m + 1 := by have := q1.length; simp at this; omega
      have hst := run_storeAt_row (C := C) (b := β s') (o := off') hsz husz q2 hg (.inl rfl) hls
      rw [← hx] at hst
      have hex : (execOp a.eval o).run C.P w = .ok .skip (w.setRow (β s') (us.toList.take off' ++ (a.eval y).cells.toList ++ us.toList.drop (off' + (m + 1))).toArray) := by
        simp [execOp, ho, hst]
      by_cases hw : own = true
      · subst hw
        rw [if_pos hown] at hdem
        subst hdem
        simp only [Bool.and_eq_true] at hown
        obtain ⟨γ1, hle, hr1, h1, h2⟩ := own_operand hr hown.2 hv s' (some off')
        have hsc := own_scalar h2
        have hs1 : (σ.demote (demoteOf σ y)).at s' = .box ver' cs' ow' := by
          cases y with
          | tmp t' =>
            simp only [demoteOf]
            cases ht : σ.at t' with
            | own u =>
              simp only [Env.demote]
              rw [Env.at_set_ne (fun e => by rw [e, hs] at ht; cases ht)]
              exact hs
            | _ => exact hs
          | _ => exact hs
        have hr2 := hr1.storeBox (ver' := ver' + 1) (own := true) (n := m + 1) hs1 (VRelV.mono hle _ _ q1) q2 hn hl (fun _ => ?_) hg
        · exact Sim.skip hex (by rw [hd]; exact hr2)
        · have hcl : (a.eval y).cells = #[a.eval y] := by
            rcases h2 with h2 | ⟨_, _, _, _, _, _, _, _, h2, _⟩
            · subst h2; rw [show a.eval y = _ from h1]; rfl
            · rw [h2]; rfl
          exact ⟨a.eval y, v', by rw [hcl], hsc, h2⟩
      · have hw' : own = false := by simpa using hw
        subst hw'
        rw [if_neg (by rw [hown]; simp)] at hdem
        subst hdem
        exact Sim.skip hex (by rw [hd]; exact hr.storeBox (ver' := ver' + 1) (own := false) hs q1 q2 hn hl (fun e => by cases e) hg)
    · cases hc
  · cases hc

theorem sim_store {o : Oper} {t : TypeId} {x y : Operand} {n : Nat} {p v : AVal} {h' : AHeap} (ho : o.op = .store t x y) (hd : o.dst = none) (hsz : tySize C.P t = some (n + 1)) (hx : addrOf C σ x = some (.ptr p)) (hv : opVal C σ y = some v) (hst : hstore h (n + 1) p v = some h') (hr : Rel C γ0 w0 γ β σ h a w) :
    Sim C γ0 w0 o a w σ h' := by
  have hxr := addrOf_ptr hr hx
  have hvr := opVal_rel hr hv
  unfold hstore at hst
  split at hst
  · rename_i id off
    obtain ⟨b, hb, hxe⟩ := hxr
    split at hst
    · rename_i cs hcs
      split at hst
      · rename_i hl
        cases hst
        obtain ⟨us, e, fr, hg, pf, p5, p6⟩ := hr.inv.cells id cs hcs b hb
        obtain ⟨q1, q2⟩ := cells_rel hvr (by omega)
        have husz : (a.eval y).cells.size = n + 1 := by have := q1.length; simp at this; omega
        have hlt : cs.length ≤ us.size := by have := p5.length; simp at this; omega
        have hls : off + (n + 1) ≤ us.size := by omega
        have hrun := run_storeAt_row (C := C) (b := b) (o := off) hsz husz q2 hg pf hls
        rw [← hxe] at hrun
        obtain ⟨hi, ha⟩ := write_obj hr.inv hcs hb hg (us.toList.take off ++ (a.eval y).cells.toList ++ us.toList.drop (off + (n + 1))).toArray (cs.take off ++ v.cells ++ cs.drop (off + (n + 1)))
          (by rcases pf with rfl | pf
              · exact .inl rfl
              · refine .inr (Nat.le_trans (Nat.le_of_eq ?_) pf)
                simp only [List.size_toArray, List.length_append, List.length_take, List.length_drop, Array.length_toList, husz]
                omega)
          (by
            have := splice_rel (off := off) (n := n + 1) p5 q1
            rw [← splice_take (by simpa using hlt) hl.2 (by simpa using husz)] at this
            have e1 : (cs.take off ++ v.cells ++ cs.drop (off + (n + 1))).length = cs.length := by simp [hl.1]; omega
            rw [e1]
            simpa using this) (fun u hu => by
            have e1 : (cs.take off ++ v.cells ++ cs.drop (off + (n + 1))).length = cs.length := by simp [hl.1]; omega
            rw [e1] at hu
            simp only [List.toList_toArray] at hu
            rw [splice_take (by simpa using hlt) hl.2 (by simpa using husz)] at hu
            simp only [List.append_assoc, List.mem_append] at hu
            rcases hu with hu | hu | hu
            · exact p6 u (List.mem_of_mem_take hu)
            · exact q2 u hu
            · exact p6 u (List.mem_of_mem_drop hu))
        have hex : (execOp a.eval o).run C.P w = .ok .skip (w.setRow b (us.toList.take off ++ (a.eval y).cells.toList ++ us.toList.drop (off + (n + 1))).toArray) := by
          simp [execOp, ho, hrun]
        exact Sim.skip hex (by rw [hd]; exact hr.world hi ha)
      · cases hst
    · cases hst
  · cases hst

/-- A private variable that nobody writes from now on. -/
theorem Rel.freeze (hr : Rel C γ0 w0 γ β σ h a w) {s ver : Nat} {cs : List AVal} {ow : List Nat} (hs : σ.at s = .box ver cs ow) :
    ∃ γ', γ.le γ' ∧ Rel C γ0 w0 γ' β (σ.set s (.val (.rptr cs))) h a w ∧ VRel γ' (.rptr cs) (a.tmps.getD s undef) := by
  have h0 := hr.fr.slots s
  rw [hs] at h0
  obtain ⟨p1, p2, p3, us, e, p4, p5, p6, p7⟩ := h0
  have hls : s < σ.length := Env.at_lt (by rw [hs]; simp)
  have himm : ∀ o, γ.imm (β s) o = none := fun o => by
    cases hc : γ.imm (β s) o with
    | none => rfl
    | some u =>
      obtain ⟨_, _, q⟩ := hr.inv.imm _ _ _ hc
      rw [p2] at q
      rcases q with q | ⟨_, _, _, q, _⟩ <;> cases q
  have hle : γ.le (γ.claim (β s) us us.size none) := ⟨fun b o v hb => by
    have : b ≠ β s := fun e => by rw [e, himm] at hb; cases hb
    simp only [Gh.claim, if_neg this]; exact hb, fun _ _ hm => hm⟩
  have hne : ∀ b id, γ.own b = some (.obj id) → b ≠ β s := fun b id hb e => by rw [e, p2] at hb; cases hb
  have hk : KeptBut (β s) γ w (γ.claim (β s) us us.size none) w := ⟨hle, fun b x hb hx _ => ⟨by simp only [Gh.claim, if_neg hb]; exact hx, rfl⟩⟩
  have hv : VRel (γ.claim (β s) us us.size none) (.rptr cs) (a.tmps.getD s undef) := by
    refine ⟨β s, 0, p1, VRelM.of_get fun i x hi => ?_⟩
    obtain ⟨u, q1, q2⟩ := p5.get hi
    have hlt : i < us.size := by have := (List.getElem?_eq_some_iff.1 q1).1; simpa using this
    exact ⟨u, by simp only [Gh.claim, if_true, Nat.zero_add, if_pos hlt]; simpa using q1, VRel.mono hle _ _ q2⟩
  refine ⟨_, hle, ⟨⟨fun b o v hb => ?_, fun id y hid hy => ?_, fun id cs' hc b hb => ?_, fun id es hc b hb => ?_, hr.inv.mu, fun b x hx => ?_⟩, ⟨by simp [hr.fr.size], fun s2 => ?_⟩, ?_, hr.defers, fun x cs' hx => VRelM.mono hle _ _ _ (hr.glob x cs' hx)⟩, hv⟩
  · by_cases he : b = β s
    · subst he
      simp only [Gh.claim, if_true] at hb ⊢
      split at hb
      · exact ⟨by rw [cell_of_row _ _ _ us e (0, 0) p4]; exact hb, p6 v (by rw [Array.getElem?_eq_some_iff] at hb; obtain ⟨p, q⟩ := hb; rw [← q]; exact Array.getElem_mem_toList p), .inl (by simp)⟩
      · cases hb
    · simp only [Gh.claim, if_neg he] at hb ⊢
      exact hr.inv.imm b o v hb
  · obtain ⟨b, q1, q2⟩ := hr.inv.obj id y hid hy
    exact ⟨b, q1, by simp only [Gh.claim, if_neg (hne b id q2)]; exact q2⟩
  · obtain ⟨us', e', fr', q1, qf, q2, q3⟩ := hr.inv.cells id cs' hc b hb
    exact ⟨us', e', fr', q1, qf, VRelV.mono hle _ _ q2, q3⟩
  · obtain ⟨us', e', q1, q2⟩ := hr.inv.map id es hc b hb
    exact ⟨us', e', q1, q2.mono hle⟩
  · by_cases he : b = β s
    · subst he; exact hr.inv.own _ _ p2
    · simp only [Gh.claim, if_neg he] at hx; exact hr.inv.own b x hx
  · by_cases he : s2 = s
    · subst he
      rw [Env.at_set_self hls]
      exact hv
    · rw [Env.at_set_ne (fun x => he x.symm)]
      exact (hr.fr.slots s2).keptBut p2 hk (by simp only [Owner.slot]; intro hx; cases hx; exact he rfl)
  · refine ⟨hr.acc.le.trans hle, hr.acc.size, hr.acc.os, hr.acc.tape, hr.acc.output, fun b hb hn => ?_⟩
    obtain ⟨q1, q2⟩ := hr.acc.keep b hb hn
    exact ⟨q1, by simp only [Gh.claim, if_neg (show b ≠ β s by omega)]; exact q2⟩

theorem Rel.freezeAll : ∀ {fz : List (Nat × List AVal)} {γ : Gh} {σ : Env}, Rel C γ0 w0 γ β σ h a w → (∀ p ∈ fz, ∃ ver ow, σ.at p.1 = .box ver p.2 ow) → (fz.map (·.1)).Nodup →
    ∃ γ', γ.le γ' ∧ Rel C γ0 w0 γ' β (σ.puts (fz.map fun (s, cs) => (s, .val (.rptr cs)))) h a w ∧ ∀ p ∈ fz, VRel γ' (.rptr p.2) (a.tmps.getD p.1 undef)
  | [], γ, σ, hr, _, _ => ⟨γ, .refl _, hr, by simp⟩
  | (s, cs) :: fz, γ, σ, hr, hb, hn => by
    simp only [List.map_cons, List.nodup_cons] at hn
    obtain ⟨ver, ow, hs⟩ := hb (s, cs) (by simp)
    obtain ⟨γ1, hle1, hr1, hv1⟩ := hr.freeze hs
    obtain ⟨γ2, hle2, hr2, hv2⟩ := freezeAll (fz := fz) hr1 (fun p hp => by
      obtain ⟨ver', ow', hp'⟩ := hb p (by simp [hp])
      refine ⟨ver', ow', ?_⟩
      rw [Env.at_set_ne (fun e => hn.1 (by rw [show s = p.1 from e]; exact List.mem_map.2 ⟨p, hp, rfl⟩))]
      exact hp') hn.2
    refine ⟨γ2, hle1.trans hle2, hr2, fun p hp => ?_⟩
    rcases List.mem_cons.1 hp with rfl | hp
    · exact VRel.mono hle2 _ _ hv1
    · exact hv2 p hp

theorem captures_spec : ∀ {xs : List Operand} {vs : List AVal} {fz : List (Nat × List AVal)}, captures C σ xs = some (vs, fz) →
    (∀ p ∈ fz, ∃ ver ow, σ.at p.1 = .box ver p.2 ow) ∧ (fz.map (·.1)).Nodup ∧
    ∀ γ', (∀ x u, opVal C σ x = some u → VRel γ' u (a.eval x)) → (∀ p ∈ fz, VRel γ' (.rptr p.2) (a.tmps.getD p.1 undef)) → VRelV γ' vs (xs.map a.eval)
  | [], vs, fz, hc => by
    cases hc
    exact ⟨by simp, by simp, fun _ _ _ => rfl⟩
  | x :: xs, vs, fz, hc => by
    unfold captures at hc
    split at hc
    · cases hc
    · rename_i vs' fz' hxs
      obtain ⟨h1, h2, h3⟩ := captures_spec hxs
      split at hc
      · rename_i s ver cs ow hs
        split at hc
        · cases hc
        · rename_i hn
          cases hc
          have hsb : σ.at s = .box ver cs ow := opSlot_tmp hs
          refine ⟨fun p hp => ?_, ?_, fun γ' k1 k2 => ?_⟩
          · rcases List.mem_cons.1 hp with rfl | hp
            · exact ⟨ver, ow, hsb⟩
            · exact h1 p hp
          · simp only [List.map_cons, List.nodup_cons]
            exact ⟨by simpa using hn, h2⟩
          · exact ⟨_, _, rfl, k2 (s, cs) (by simp), h3 γ' k1 fun p hp => k2 p (by simp [hp])⟩
      · rename_i sl _ hs
        cases hv : sl.value? with
        | none => rw [hv] at hc; cases hc
        | some u =>
          rw [hv] at hc
          cases hc
          exact ⟨h1, h2, fun γ' k1 k2 => ⟨_, _, rfl, k1 _ u (by unfold opVal; rw [hs]; exact hv), h3 γ' k1 k2⟩⟩
      · cases hc

theorem sim_closure {o : Oper} {fn : Fn} {first captured : Array Operand} {d : Nat} {as bs : List AVal} {fz : List (Nat × List AVal)} (ho : o.op = .makeFunc fn first captured) (hd : o.dst = some d) (ha : opVals C σ first.toList = some as) (hb : captures C σ captured.toList = some (bs, fz)) (hr : Rel C γ0 w0 γ β σ h a w) :
    Sim C γ0 w0 o a w (((σ.drop (fz.map (·.1))).puts (fz.map fun (s, cs) => (s, .val (.rptr cs)))).set d (.val (.func fn as bs))) h := by
  obtain ⟨h1, h2, h3⟩ := captures_spec (a := a) hb
  obtain ⟨γ', hle, hr', hv⟩ := (hr.drop (fz.map (·.1))).freezeAll (fz := fz) (fun p hp => by
    obtain ⟨ver, ow, hs⟩ := h1 p hp
    exact ⟨ver, ow, by rw [Env.at_drop, hs]⟩) h2
  refine Sim.value (w' := w) (v := .func fn (first.map a.eval) (captured.map a.eval)) (by simp [execOp, ho, Instr.makeFunc]) (by
    rw [hd]
    exact hr'.put (d := some d) fun _ _ => ⟨_, _, rfl, by simpa using VRelV.mono hle _ _ (opVals_rel hr ha), by simpa using h3 γ' (fun x u hx => VRel.mono hle _ _ (opVal_rel hr hx)) hv⟩)
end
end Go.Am
