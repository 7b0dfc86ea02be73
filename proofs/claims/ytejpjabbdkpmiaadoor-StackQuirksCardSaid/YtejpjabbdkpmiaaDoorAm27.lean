/-
  Code: regions, branches, blocks, loops. No law is claimed here.
-/
import Derived.Test.YtejpjabbdkpmiaaDoorAm26
set_option linter.unusedSimpArgs false
set_option linter.unusedVariables false
namespace Go.Am
open Go

def aexit : AExit → Exit
  | .normal => .normal
  | .exit i => .exit i
  | .ret => .ret

theorem nodup_length : ∀ {l m : List Nat}, l.Nodup → (∀ x ∈ l, x ∈ m) → l.length ≤ m.length
  | [], _, _, _ => Nat.zero_le _
  | x :: l, m, hn, hs => by
    have hx := hs x (by simp)
    have h1 := nodup_length (l := l) (m := m.erase x) (List.nodup_cons.1 hn).2 fun y hy => (List.mem_erase_of_ne fun e => (List.nodup_cons.1 hn).1 (by rw [← e]; exact hy)).2 (hs y (by simp [hy]))
    rw [List.length_erase_of_mem hx] at h1
    have : 0 < m.length := List.length_pos_of_mem hx
    simp
    omega

/-- A loop by rounds whose number goes down. -/
theorem wp_loop_fuel {P : Program} {c : Code} {Q : Exit → Act → World → Prop} (T : Nat → Act → World → Prop) (round : ∀ n a w, T n a w → c.wp P (Exit.then (fun a' w' => ∃ m, m < n ∧ T m a' w') Q) a w) (n : Nat) (a : Act) (w : World) (h0 : T n a w) : (Code.loop c).wp P Q a w := by
  intro b k cs
  have key : ∀ n a w, T n a w → ∃ e a' w', Q e a' w' ∧ Arrives P (lone (b.at a (.code c :: .inLoop c :: k)) cs w) b k cs e a' w' := by
    intro n
    induction n using Nat.strongRecOn with
    | _ n ih =>
      intro a w hT
      obtain ⟨e, a1, w1, hq, harr⟩ := round n a w hT b (.inLoop c :: k) cs
      by_cases he : e = .normal
      · subst he
        obtain ⟨m, hm, hT1⟩ := hq
        obtain ⟨e2, a2, w2, q2, r2⟩ := ih m hm a1 w1 hT1
        exact ⟨e2, a2, w2, q2, .of_steps (Go.Steps.trans harr (.one step_inLoop)) r2⟩
      · exact ⟨e, a1, w1, by cases e <;> first | exact hq | exact absurd rfl he, .pass (x := .inLoop c) rfl (fun _ _ => .inl he) harr⟩
  obtain ⟨e, a', w', hq, harr⟩ := key n a w h0
  exact ⟨e, a', w', hq, .of_steps (.one step_loop) harr⟩

section
variable {C : Ctx} {γ0 γ : Gh} {w0 w : World} {β : Nat → Nat} {σ : Env} {h : AHeap} {a : Act} {fid : FuncId} {run : IT → AHeap → Option Res}

theorem step_guarded {ops : List Oper} {o : Oper} {K : Env → IT} {R : Res} (hr : IT.step (afun C) run (sxGuarded C fid ops σ o K) h = some R) :
    ∃ σ1, (σ1 = σ ∨ ∃ s b, s ∈ guardSlot ops o ∧ σ.at s = .val (.bool b) ∧ σ1 = σ.set s (.cst b)) ∧
      ((guardOf ops σ1 o = .known true ∧ IT.step (afun C) run (sxOp C fid ops σ1 o K) h = some R) ∨ (guardOf ops σ1 o = .known false ∧ IT.step (afun C) run (K (σ1.put o.dst .skip)) h = some R)) := by
  unfold sxGuarded at hr
  split at hr
  · rename_i hg; exact ⟨σ, .inl rfl, .inl ⟨hg, hr⟩⟩
  · rename_i hg; exact ⟨σ, .inl rfl, .inr ⟨hg, hr⟩⟩
  · rename_i s v want hg
    -- the guard's slot
    have hgs : s ∈ guardSlot ops o ∧ σ.at s = .val v ∧ ∀ b, guardOf ops (σ.set s (.cst b)) o = .known (b == want) := by
      unfold guardOf at hg ⊢
      unfold guardSlot
      cases ho : o.guard with
      | none => rw [ho] at hg; cases hg
      | some g =>
        obtain ⟨j, want'⟩ := g
        rw [ho] at hg
        simp only at hg ⊢
        cases hd : (ops[j]?).bind (·.dst) with
        | none => rw [hd] at hg; cases hg
        | some s' =>
          rw [hd] at hg
          simp only at hg ⊢
          cases hx : σ.at s' with
          | val v' =>
            rw [hx] at hg
            cases hg
            refine ⟨by simp, hx, fun b => ?_⟩
            rw [Env.at_set_self (Env.at_lt (by rw [hx]; simp))]
          | cst c => rw [hx] at hg; cases hg
          | skip => rw [hx] at hg; cases hg
          | _ => rw [hx] at hg; cases hg
    obtain ⟨g1, g2, g3⟩ := hgs
    simp only [IT.step] at hr
    split at hr
    · refine ⟨σ.set s (.cst true), .inr ⟨s, true, g1, g2, rfl⟩, ?_⟩
      rw [g3]
      cases want with
      | true => exact .inl ⟨rfl, hr⟩
      | false => exact .inr ⟨rfl, hr⟩
    · refine ⟨σ.set s (.cst false), .inr ⟨s, false, g1, g2, rfl⟩, ?_⟩
      rw [g3]
      cases want with
      | true => exact .inr ⟨rfl, hr⟩
      | false => exact .inl ⟨rfl, hr⟩
    · cases hr
  · cases hr

theorem sim_ops (hS : SimCalls C run) {ops : Array Oper} {Q : Exit → Act → World → Prop} {W : List Nat} {K : Env → IT} {R : Res} : ∀ (rest : List Oper) (k : Nat) (γ : Gh) (β : Nat → Nat) (σ : Env) (h : AHeap) (a : Act) (w : World),
    ops.toList.drop k = rest → (∀ o ∈ rest, (∀ s ∈ opWrites ops.toList o, s ∈ W) ∧ ∀ s ∈ guardSlot ops.toList o, s ∈ W) → IT.step (afun C) run (sxOps C fid ops.toList rest σ K) h = some R → Rel C γ0 w0 γ β σ h a w →
    (∀ γ' β' σ' h' a' w', IT.step (afun C) run (K σ') h' = some R → Only W σ σ' → Rel C γ0 w0 γ' β' σ' h' a' w' → Q .normal a' w') → wpOps C.P ops Q (List.range' k rest.length) a w
  | [], k, γ, β, σ, h, a, w, _, _, hrun, hr, hQ => by
    simp only [List.length_nil, List.range'_zero, wpOps]
    exact hQ γ β σ h a w hrun (.refl _ _) hr
  | o :: rest, k, γ, β, σ, h, a, w, hk, hW, hrun, hr, hQ => by
    have ho : ops[k]? = some o := by
      have : ops.toList[k]? = some o := by
        have h0 := congrArg (·[0]?) hk
        simpa [List.getElem?_drop] using h0
      simpa using this
    have hk' : ops.toList.drop (k + 1) = rest := by
      have h0 := congrArg (List.drop 1) hk
      simpa [List.drop_drop] using h0
    obtain ⟨hw1, hw2⟩ := hW o (by simp)
    simp only [List.length_cons, List.range'_succ, wpOps, ho]
    obtain ⟨σ1, hσ1, hcase⟩ := step_guarded hrun
    have hr1 : Rel C γ0 w0 γ β σ1 h a w ∧ Only W σ σ1 := by
      rcases hσ1 with rfl | ⟨s, b, g1, g2, rfl⟩
      · exact ⟨hr, .refl _ _⟩
      · have h0 := hr.fr.slots s
        rw [g2] at h0
        exact ⟨hr.turn h0, .set (hw2 s g1)⟩
    obtain ⟨hr1, hon1⟩ := hr1
    have next : ∀ γ' β' σ' h' a' w', IT.step (afun C) run (sxOps C fid ops.toList rest σ' K) h' = some R → Only W σ σ' → Rel C γ0 w0 γ' β' σ' h' a' w' → wpOps C.P ops Q (List.range' (k + 1) rest.length) a' w' := fun γ' β' σ' h' a' w' hrun' hon hr' =>
      sim_ops hS rest (k + 1) γ' β' σ' h' a' w' hk' (fun o ho => hW o (by simp [ho])) hrun' hr' fun γ2 β2 σ2 h2 a2 w2 hr2 hon2 hrel2 => hQ γ2 β2 σ2 h2 a2 w2 hr2 (hon.trans hon2) hrel2
    rcases hcase with ⟨hg, hrun1⟩ | ⟨hg, hrun1⟩
    · rw [if_pos (guard_wanted hr1 hg)]
      unfold sxOp at hrun1
      split at hrun1
      · rename_i r hc
        obtain ⟨σ2, h2, hd, hrun2⟩ := tree_does hrun1
        exact .inl (sim_op hS hc hd hr1 fun γ' β' a' w' hr' => next γ' β' σ2 h2 a' w' hrun2 (hon1.trans ((op_only hc hd).mono hw1)) hr')
      · cases hrun1
    · rw [if_neg (by rw [guard_wanted hr1 hg]; simp)]
      exact next γ β _ h _ w hrun1 (hon1.trans (.put fun s hs => hw1 s (List.mem_append_left _ hs))) (hr1.put fun _ _ => rfl)

theorem asked_only {W : List Nat} {d : Option Nat} {σ σ' : Env} (h : Asked d σ σ') (hd : ∀ s ∈ d.toList, s ∈ W) : Only W σ σ' := by
  unfold Asked at h
  cases d with
  | none => simp only at h; rw [h]; exact .refl _ _
  | some d =>
    simp only at h
    split at h
    · obtain ⟨b, _, rfl⟩ := h; exact .set (hd d (by simp))
    · rw [h]; exact .refl _ _

theorem steps_only {ops : List Oper} {an : List Nat} {W : List Nat} (hW : ∀ o ∈ ops, ∀ s ∈ opWrites ops o, s ∈ W) {fl : List Float} {L : List St} {σ σf : Env} {h hf : AHeap} (hs : Steps C fid ops run an fl L σ h σf hf) : Only W σ σf := by
  induction hs with
  | nil => exact .refl _ _
  | cons h1 _ _ ih =>
    refine Only.trans ?_ ih
    obtain ⟨o, ho, ⟨_, _, _, rfl, rfl⟩ | ⟨r, σ2, hg, hc, _, hd, _, ha⟩⟩ := h1
    · exact .put fun s hs => hW o (List.mem_of_getElem? ho) s (List.mem_append_left _ hs)
    · refine ((op_only hc hd).mono fun s hs => hW o (List.mem_of_getElem? ho) s hs).trans (asked_only ha fun s hs => ?_)
      split at hs
      · exact hW o (List.mem_of_getElem? ho) s (List.mem_append_left _ hs)
      · simp at hs

theorem sim_region (hm : C.P.follows .mixedOrders = true) (hS : SimCalls C run) {id : Nat} {ops : Array Oper} {draw : Bool} {Q : Exit → Act → World → Prop} {K : Env → IT} {R : Res} (hrun : IT.step (afun C) run (sxRegion C fid ops.toList draw σ K) h = some R) (hr : Rel C γ0 w0 γ β σ h a w)
    (hQ : ∀ γ' β' σ' h' a' w', IT.step (afun C) run (K σ') h' = some R → Only (ops.toList.flatMap (opWrites ops.toList) ++ ops.toList.flatMap (guardSlot ops.toList)) σ σ' → Rel C γ0 w0 γ' β' σ' h' a' w' → Q .normal a' w') : (Code.region id ops draw).wp C.P Q a w := by
  unfold sxRegion at hrun
  cases draw with
  | false =>
    refine wp_region ?_
    have := sim_ops (W := ops.toList.flatMap (opWrites ops.toList) ++ ops.toList.flatMap (guardSlot ops.toList)) hS ops.toList 0 γ β σ h a w rfl (fun o ho => ⟨fun s hs => List.mem_append_left _ (List.mem_flatMap.2 ⟨o, ho, hs⟩), fun s hs => List.mem_append_right _ (List.mem_flatMap.2 ⟨o, ho, hs⟩)⟩) hrun hr hQ
    simpa [List.range_eq_range'] using this
  | true =>
    simp only [if_true] at hrun
    split at hrun
    · rename_i hdo
      obtain ⟨L, σf, hf, h1, h2, h3⟩ := draw_steps hrun
      refine wp_region_any hm ?_
      have hdk := h2
      unfold drawOk at hdk
      simp only [List.reverse_nil, List.nil_append, Bool.and_eq_true] at hdk
      have hord : Ordered (ancs ops.toList) L := by
        have := drawOk_go hdk.1
        rw [List.pairwise_map] at this
        exact this
      have hlt := h1.lt
      have hall : ∀ i, i < ops.size → i ∈ L.map (·.idx) := fun i hi => by
        have := List.all_eq_true.1 hdk.2 i (by simpa using hi)
        simpa using this
      have hnd : (L.map (·.idx)).Nodup := by
        rw [List.Nodup, List.pairwise_map]
        exact hord.imp fun h => h.1
      have hlen : L.length = ops.size := by
        have p1 : (L.map (·.idx)).length ≤ (List.range ops.size).length := nodup_length hnd (fun i hi => by
          obtain ⟨s, hs, rfl⟩ := List.mem_map.1 hi
          simpa using hlt s hs)
        have p2 : (List.range ops.size).length ≤ (L.map (·.idx)).length := nodup_length List.nodup_range fun i hi => hall i (by simpa using hi)
        simp at p1 p2
        omega
      have hon := steps_only (W := ops.toList.flatMap (opWrites ops.toList) ++ ops.toList.flatMap (guardSlot ops.toList)) (fun o ho s hs => List.mem_append_left _ (List.mem_flatMap.2 ⟨o, ho, hs⟩)) h1
      refine any_steps hS hdo (fun γ' β' a' w' hr' => hQ γ' β' σf hf a' w' h3 hon hr') ops.size L _ γ β σ h a w.drew hlen h1 hord ⟨by simp, fun i hi => ⟨fun _ => hall i hi, fun _ => by simp [Array.getD, hi]⟩, fun j hj e _ => ?_⟩ hr.drew
      exfalso
      rcases Nat.lt_or_ge j ops.size with hlt | hge
      · simp [Array.getD, hlt] at hj
      · simp [Array.getD, Nat.not_lt.2 hge] at hj
    · cases hrun
end
end Go.Am
