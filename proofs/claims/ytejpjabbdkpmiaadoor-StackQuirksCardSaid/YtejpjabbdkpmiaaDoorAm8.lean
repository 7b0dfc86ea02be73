/-
  Simulation of operations, first part: copies, arithmetic, addresses, parts. No law is claimed here.
-/
import Derived.Test.YtejpjabbdkpmiaaDoorAm7
set_option linter.unusedSimpArgs false
set_option linter.unusedVariables false
namespace Go.Am

def Gh.retag (γ : Gh) (g : Nat) (x : Owner) : Gh := { γ with own := fun b => if b = g then some x else γ.own b }

section
variable {C : Ctx} {γ0 γ : Gh} {w0 w : World} {β : Nat → Nat} {σ : Env} {h : AHeap} {a : Act}

theorem le_retag (γ : Gh) (g : Nat) (x : Owner) : γ.le (γ.retag g x) := ⟨fun _ _ _ h => h, fun _ _ h => h⟩

theorem Inv.retag (hi : Inv γ h w) {g s s' st : Nat} {c c' : Option Nat} (hg : γ.own g = some (.tail s c st)) : Inv (γ.retag g (.tail s' c' st)) h w := by
  refine ⟨fun b o v hb => ?_, fun id y hid hy => ?_, fun id cs hc b hb => ?_, fun id es hc b hb => ?_, hi.mu, fun b x hx => ?_⟩
  · obtain ⟨p, q, r⟩ := hi.imm b o v hb
    refine ⟨p, q, ?_⟩
    by_cases he : b = g
    · subst he
      rw [hg] at r
      rcases r with r | ⟨_, _, _, r, hl⟩
      · cases r
      · cases r; exact .inr ⟨s', c', st, by simp [Gh.retag], hl⟩
    · simpa only [Gh.retag, if_neg he] using r
  · obtain ⟨b, p, q⟩ := hi.obj id y hid hy
    have : b ≠ g := fun he => by subst he; rw [hg] at q; cases q
    exact ⟨b, p, by simp only [Gh.retag, if_neg this]; exact q⟩
  · obtain ⟨us, e, fr, p, pf, q, r⟩ := hi.cells id cs hc b hb
    exact ⟨us, e, fr, p, pf, VRelV.mono (le_retag γ g _) _ _ q, r⟩
  · obtain ⟨us, e, p, q⟩ := hi.map id es hc b hb
    exact ⟨us, e, p, q.mono (le_retag γ g _)⟩
  · by_cases he : b = g
    · subst he; exact hi.own b _ hg
    · simp only [Gh.retag, if_neg he] at hx; exact hi.own b x hx

theorem OwnT.retag {B : Nat} {s s2 st : Nat} {c c2 : Option Nat} {v : Value} {u : AVal} {x : Owner} {g : Nat} (hg : γ.own g = some (.tail s c st)) (ho : OwnT γ B w s2 c2 v u) (hne : s2 ≠ s ∨ c2 ≠ c) : OwnT (γ.retag g x) B w s2 c2 v u := by
  rcases ho with ho | ⟨g2, n, cap, us, e, z, rows, h1, h2, h3, h4⟩
  · exact .inl ho
  · have : g2 ≠ g := fun he => by
      subst he
      rw [hg] at h3
      cases h3
      rcases hne with hne | hne <;> exact hne rfl
    exact .inr ⟨g2, n, cap, us, e, z, rows, h1, h2, by simp only [Gh.retag, if_neg this]; exact h3, h4⟩

theorem FR.retag {B : Nat} {tmps : Array Value} (hf : FR γ β B σ tmps w) {g s st : Nat} {c : Option Nat} {x : Owner} (hg : γ.own g = some (.tail s c st))
    (h1 : c = none → ∀ v, σ.at s ≠ .own v) (h2 : ∀ o, c = some o → ∀ ver cs ow, σ.at s = .box ver cs ow → o ∉ ow) : FR (γ.retag g x) β B σ tmps w := by
  refine ⟨hf.size, fun s2 => ?_⟩
  have hs := hf.slots s2
  cases hx : σ.at s2 with
  | undef => trivial
  | skip => rw [hx] at hs; exact hs
  | val u => rw [hx] at hs; exact VRel.mono (le_retag γ g x) _ _ hs
  | cst b => rw [hx] at hs; exact hs
  | own u =>
    rw [hx] at hs
    refine ⟨VRel.mono (le_retag γ g x) _ _ hs.1, hs.2.retag hg ?_⟩
    by_cases he : s2 = s
    · subst he
      cases c with
      | none => exact absurd hx (h1 rfl u)
      | some o => exact .inr (by simp)
    · exact .inl he
  | box ver cs ow =>
    rw [hx] at hs
    obtain ⟨p1, p2, p3, us, e, p4, p5, p6, p7⟩ := hs
    have hb : β s2 ≠ g := fun he => by rw [he, hg] at p2; cases p2
    refine ⟨p1, by simp only [Gh.retag, if_neg hb]; exact p2, p3, us, e, p4, VRelV.mono (le_retag γ g x) _ _ p5, p6, fun o ho => ?_⟩
    obtain ⟨u, v, q1, q2, q3⟩ := p7 o ho
    refine ⟨u, v, q1, q2, q3.retag hg ?_⟩
    by_cases he : s2 = s
    · subst he
      cases c with
      | none => exact .inr (by simp)
      | some o' =>
        refine .inr fun he => ?_
        cases he
        exact h2 o rfl ver cs ow hx ho
    · exact .inl he
  | lref s' o => rw [hx] at hs; exact hs

theorem Rel.retag (hr : Rel C γ0 w0 γ β σ h a w) {g s st s' : Nat} {c c' : Option Nat} (hg : γ.own g = some (.tail s c st)) (hB : w0.heap.size ≤ g)
    (h1 : c = none → ∀ v, σ.at s ≠ .own v) (h2 : ∀ o, c = some o → ∀ ver cs ow, σ.at s = .box ver cs ow → o ∉ ow) : Rel C γ0 w0 (γ.retag g (.tail s' c' st)) β σ h a w := by
  refine ⟨hr.inv.retag hg, hr.fr.retag hg h1 h2, ?_, hr.defers, fun x cs hx => VRelM.mono (le_retag γ g _) _ _ _ (hr.glob x cs hx)⟩
  refine ⟨hr.acc.le.trans (le_retag γ g _), hr.acc.size, hr.acc.os, hr.acc.tape, hr.acc.output, fun b hb hn => ?_⟩
  · obtain ⟨p, q⟩ := hr.acc.keep b hb hn
    exact ⟨p, by simp only [Gh.retag, if_neg (show b ≠ g by omega)]; exact q⟩

theorem Env.at_set_self {s : Nat} {x : Slot} (hs : s < σ.length) : Env.at (σ.set s x) s = x := by simp [Env.at, List.getD, hs]
theorem Env.at_set_ne {s t : Nat} {x : Slot} (hs : s ≠ t) : Env.at (σ.set s x) t = σ.at t := by simp [Env.at, List.getD, List.getElem?_set_ne hs]
theorem Env.at_lt {s : Nat} (hs : σ.at s ≠ .undef) : s < σ.length := by
  rcases Nat.lt_or_ge s σ.length with h | h
  · exact h
  · exact absurd (by simp [Env.at, List.getD, List.getElem?_eq_none h]) hs

/-- A slice's spare places go from one slot to another place. -/
theorem Rel.take (hr : Rel C γ0 w0 γ β σ h a w) {s : Nat} {v : AVal} (hs : σ.at s = .own v) (s' : Nat) (c' : Option Nat) :
    ∃ γ', γ.le γ' ∧ Rel C γ0 w0 γ' β (σ.set s (.val v)) h a w ∧ VRel γ' v (a.tmps.getD s undef) ∧ OwnT γ' w0.heap.size w s' c' (a.tmps.getD s undef) v := by
  have h0 := hr.fr.slots s
  rw [hs] at h0
  obtain ⟨hv, ho⟩ := h0
  have hr1 : Rel C γ0 w0 γ β (σ.set s (.val v)) h a w := hr.turn hv
  have hl : s < σ.length := Env.at_lt (by rw [hs]; simp)
  rcases ho with ho | ⟨g, n, cap, us, e, z, rows, h1, h2, h3, h4, h5⟩
  · exact ⟨γ, .refl _, hr1, hv, .inl ho⟩
  · refine ⟨γ.retag g (.tail s' c' (n * z)), le_retag _ _ _, hr1.retag h3 h4 (fun _ u => ?_) (fun o ho => by cases ho), VRel.mono (le_retag _ _ _) _ _ hv, .inr ⟨g, n, cap, us, e, z, rows, h1, h2, by simp [Gh.retag], h4, h5⟩⟩
    rw [Env.at_set_self hl]; simp

theorem copySlot_rel {B s d : Nat} {sl sl' : Slot} {v : Value} (hs : SRel γ β B w s sl v) (hc : copySlot sl = some sl') : SRel γ β B w d sl' v := by
  cases sl <;> simp [copySlot] at hc
  · subst hc; exact hs
  · subst hc; exact hs
  · subst hc; exact hs.1
  · subst hc; exact hs

theorem noNews {ws : List (Nat × Slot)} (h : ∀ p ∈ ws, ∀ cs ow, p.2 ≠ .box 0 cs ow) : (OpR.pure ws).news = [] := by
  simp only [OpR.news, List.filterMap_eq_nil_iff]
  rintro ⟨s, x⟩ hp
  have := h _ hp
  cases x with
  | box ver cs ow =>
    cases ver with
    | zero => exact absurd rfl (this cs ow)
    | succ n => rfl
  | _ => rfl

theorem opSlot_const {v : Value} {sl : Slot} (hs : opSlot C σ (.const v) = some sl) : (∀ B d, SRel γ β B w d sl v) ∧ ∀ ver cs ow, sl ≠ .box ver cs ow := by
  unfold opSlot at hs
  split at hs
  · rename_i heq; cases heq
  · rename_i heq; cases heq; cases hs; exact ⟨fun _ _ => rfl, fun _ _ _ h => by cases h⟩
  · rename_i heq; cases heq; cases hs; exact ⟨fun _ _ => ⟨rfl, .inl rfl⟩, fun _ _ _ h => by cases h⟩
  · rename_i heq
    cases heq
    cases hc : ofConst v with
    | none => rw [hc] at hs; cases hs
    | some u => rw [hc] at hs; cases hs; exact ⟨fun _ _ => ofConst_rel hc, fun _ _ _ h => by cases h⟩
  · rename_i heq; cases heq
  · rename_i heq; cases heq

theorem opSlot_tmp {s : Nat} {sl : Slot} (hs : opSlot C σ (.tmp s) = some sl) : σ.at s = sl := Option.some.inj hs

theorem opSlot_own {x : Operand} {v : AVal} (hs : opSlot C σ x = some (.own v)) (hn : ∀ c, x ≠ .const c) : ∃ s, x = .tmp s ∧ σ.at s = .own v := by
  cases x with
  | tmp s => exact ⟨s, rfl, opSlot_tmp hs⟩
  | const c => exact absurd rfl (hn c)
  | global g =>
    have hs' : (C.glob g).map (fun cs => Slot.val (AVal.rptr cs)) = some (.own v) := hs
    cases hc : C.glob g <;> rw [hc] at hs' <;> cases hs'
  | func f => cases hs

theorem sim_move {x : Operand} {d : Nat} {take : Bool} {r : OpR} {run : IT → AHeap → Option Res} {σ' : Env} {h' : AHeap} (hm : moveOp C σ x d take = some r) (hd : r.does C run (σ.drop r.news) h σ' h')
    (hr : Rel C γ0 w0 γ β σ h a w) : ∃ γ', Rel C γ0 w0 γ' β σ' h' (a.put (some d) (a.eval x)) w := by
  unfold moveOp at hm
  split at hm
  · rename_i s _ _ _ hs
    cases hm
    rw [noNews (by simp)] at hd
    obtain ⟨rfl, rfl⟩ := hd
    refine ⟨γ, hr.put (d := some d) fun t ht => ?_⟩
    have h0 := slot_rel hr s
    rw [opSlot_tmp hs] at h0
    exact h0.1
  · rename_i v sl hs
    cases hm
    obtain ⟨p, q⟩ := opSlot_const (γ := γ) (β := β) (w := w) hs
    rw [noNews (by simpa using fun cs ow => q 0 cs ow)] at hd
    obtain ⟨rfl, rfl⟩ := hd
    exact ⟨γ, hr.put (d := some d) fun t _ => p _ t⟩
  · rename_i v hnc hs
    split at hm
    · cases hm
      obtain ⟨s, rfl, hsv⟩ := opSlot_own hs (fun c hc => hnc c hc)
      rw [noNews (by simp [takeFrom])] at hd
      obtain ⟨rfl, rfl⟩ := hd
      obtain ⟨γ', hle, hr', hv', ho'⟩ := hr.take hsv d none
      exact ⟨γ', hr'.put (d := some d) fun t ht => by cases ht; exact ⟨hv', ho'⟩⟩
    · simp only [copySlot, Option.map_some] at hm
      cases hm
      rw [noNews (by simp)] at hd
      obtain ⟨rfl, rfl⟩ := hd
      obtain ⟨s, h1, _⟩ := opSlot_any hr hs
      exact ⟨γ, hr.put (d := some d) fun t ht => h1.1⟩
  · rename_i sl _ _ _ hs
    cases hc : copySlot sl with
    | none => rw [hc] at hm; cases hm
    | some sl' =>
      rw [hc] at hm; cases hm
      have hnn : ∀ cs ow, sl' ≠ .box 0 cs ow := by
        intro cs ow he
        subst he
        cases sl <;> simp [copySlot] at hc
      rw [noNews (by simpa using hnn)] at hd
      obtain ⟨rfl, rfl⟩ := hd
      obtain ⟨s, h1, _⟩ := opSlot_any hr hs
      exact ⟨γ, hr.put (d := some d) fun t ht => copySlot_rel h1 hc⟩
  · cases hm
end
end Go.Am
