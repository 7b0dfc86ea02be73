/-
  Regions whose order is open, second part: two operations that do not touch change places. No law is claimed here.
-/
import Derived.Test.YtejpjabbdkpmiaaDoorAm23
set_option linter.unusedSimpArgs false
set_option linter.unusedVariables false
namespace Go.Am
open Go

mutual
theorem AVal.beq_eq : ∀ {a b : AVal}, AVal.beq a b = true → a = b
  | .bool a, b, h => by cases b <;> simp [AVal.beq] at h ⊢; exact h
  | .int k a, b, h => by cases b <;> simp [AVal.beq] at h ⊢; exact h
  | .str a, b, h => by cases b <;> simp [AVal.beq] at h ⊢; exact h
  | .ptr a, b, h => by cases b <;> simp [AVal.beq] at h ⊢; exact h
  | .rptr a, b, h => by cases b <;> simp [AVal.beq] at h ⊢; exact AVal.beqL_eq h
  | .sl n a, b, h => by cases b <;> simp [AVal.beq] at h ⊢; exact ⟨h.1, AVal.beqLL_eq h.2⟩
  | .slnil, b, h => by cases b <;> simp [AVal.beq] at h ⊢
  | .msl a c d e, b, h => by cases b <;> simp [AVal.beq] at h ⊢; exact ⟨h.1.1.1, h.1.1.2, h.1.2, h.2⟩
  | .map a, b, h => by cases b <;> simp [AVal.beq] at h ⊢; exact h
  | .func f a c, b, h => by cases b <;> simp [AVal.beq] at h ⊢; exact ⟨h.1.1, AVal.beqL_eq h.1.2, AVal.beqL_eq h.2⟩
  | .nilFunc, b, h => by cases b <;> simp [AVal.beq] at h ⊢
  | .iface t a, b, h => by cases b <;> simp [AVal.beq] at h ⊢; exact ⟨h.1, AVal.beq_eq h.2⟩
  | .nilIface, b, h => by cases b <;> simp [AVal.beq] at h ⊢
  | .agg a, b, h => by cases b <;> simp [AVal.beq] at h ⊢; exact AVal.beqL_eq h
  | .tuple a, b, h => by cases b <;> simp [AVal.beq] at h ⊢; exact AVal.beqL_eq h
theorem AVal.beqL_eq : ∀ {a b : List AVal}, AVal.beqL a b = true → a = b
  | [], b, h => by cases b <;> simp [AVal.beqL] at h ⊢
  | a :: x, b, h => by
    cases b with
    | nil => simp [AVal.beqL] at h
    | cons c y => simp [AVal.beqL] at h ⊢; exact ⟨AVal.beq_eq h.1, AVal.beqL_eq h.2⟩
theorem AVal.beqLL_eq : ∀ {a b : List (List AVal)}, AVal.beqLL a b = true → a = b
  | [], b, h => by cases b <;> simp [AVal.beqLL] at h ⊢
  | a :: x, b, h => by
    cases b with
    | nil => simp [AVal.beqLL] at h
    | cons c y => simp [AVal.beqLL] at h ⊢; exact ⟨AVal.beqL_eq h.1, AVal.beqLL_eq h.2⟩
end

theorem Env.puts_append (σ : Env) : ∀ (a b : List (Nat × Slot)), σ.puts (a ++ b) = (σ.puts a).puts b
  | [], _ => rfl
  | (s, x) :: a, b => Env.puts_append (σ.set s x) a b

theorem Env.length_puts : ∀ (ws : List (Nat × Slot)) (σ : Env), (σ.puts ws).length = σ.length
  | [], _ => rfl
  | (s, x) :: ws, σ => by rw [Env.puts, Env.length_puts ws]; simp

theorem Env.at_set (σ : Env) (s t : Nat) (x : Slot) : Env.at (σ.set s x) t = if s = t ∧ t < σ.length then x else σ.at t := by
  by_cases h : s = t
  · subst h
    by_cases hl : s < σ.length
    · simp [Env.at, List.getD, hl]
    · simp [Env.at, List.getD, hl]
  · simp [Env.at, List.getD, List.getElem?_set_ne h, h]

theorem Env.at_puts_out : ∀ (ws : List (Nat × Slot)) (σ : Env) (t : Nat), (∀ p ∈ ws, p.1 ≠ t) → (σ.puts ws).at t = σ.at t
  | [], _, _, _ => rfl
  | (s, x) :: ws, σ, t, h => by
    rw [Env.puts, Env.at_puts_out ws _ t fun p hp => h p (by simp [hp]), Env.at_set, if_neg]
    exact fun e => h (s, x) (by simp) e.1

/-- A slot holds what was there, or something that was written. -/
theorem Env.at_puts_or : ∀ (ws : List (Nat × Slot)) (σ : Env) (t : Nat), (σ.puts ws).at t = σ.at t ∨ ∃ p ∈ ws, p.1 = t ∧ (σ.puts ws).at t = p.2
  | [], _, _ => .inl rfl
  | (s, x) :: ws, σ, t => by
    rcases Env.at_puts_or ws (σ.set s x) t with h | ⟨p, hp, h1, h2⟩
    · rw [Env.at_set] at h
      by_cases hc : s = t ∧ t < σ.length
      · rw [if_pos hc] at h
        exact .inr ⟨(s, x), by simp, hc.1, h⟩
      · rw [if_neg hc] at h
        exact .inl h
    · exact .inr ⟨p, by simp [hp], h1, h2⟩

theorem Env.at_puts_congr : ∀ (ws : List (Nat × Slot)) (σ τ : Env) (t : Nat), τ.length = σ.length → τ.at t = σ.at t → (τ.puts ws).at t = (σ.puts ws).at t
  | [], _, _, _, _, h => h
  | (s, x) :: ws, σ, τ, t, hl, h => by
    refine Env.at_puts_congr ws _ _ t (by simpa using hl) ?_
    rw [Env.at_set, Env.at_set, hl, h]

theorem Env.ext {σ τ : Env} (hl : τ.length = σ.length) (h : ∀ t, τ.at t = σ.at t) : τ = σ := by
  apply List.ext_getElem hl
  intro i h1 h2
  have := h i
  simpa [Env.at, List.getD, h1, h2] using this

theorem Env.puts_comm {σ : Env} {a b : List (Nat × Slot)} (h : ∀ p ∈ a, ∀ q ∈ b, p.1 ≠ q.1) : (σ.puts a).puts b = (σ.puts b).puts a := by
  refine Env.ext (by simp [Env.length_puts]) fun t => ?_
  by_cases ha : ∀ p ∈ a, p.1 ≠ t
  · rw [Env.at_puts_out a (σ.puts b) t ha]
    exact Env.at_puts_congr b _ _ t (by simp [Env.length_puts]) (Env.at_puts_out a σ t ha)
  · have ⟨p, hp, hpt⟩ : ∃ p ∈ a, p.1 = t := Classical.byContradiction fun hn => ha fun p hp e => hn ⟨p, hp, e⟩
    have hb : ∀ q ∈ b, q.1 ≠ t := fun q hq e => h p hp q hq (by rw [hpt, e])
    rw [Env.at_puts_out b (σ.puts a) t hb]
    exact (Env.at_puts_congr a _ _ t (by simp [Env.length_puts]) (Env.at_puts_out b σ t hb)).symm

theorem noLref_iff {σ : Env} {ds : List Nat} : noLref σ ds = true ↔ ∀ x t o, σ.at x = .lref t o → t ∉ ds := by
  unfold noLref
  rw [List.all_eq_true]
  constructor
  · intro h x t o hx
    by_cases hl : x < σ.length
    · have := h (σ.at x) (by simp [Env.at, List.getD, hl])
      rw [hx] at this
      simpa using this
    · simp [Env.at, List.getD, hl] at hx
  · intro h s hs
    obtain ⟨i, hi⟩ := List.getElem?_of_mem hs
    cases s with
    | lref t o =>
      have := h i t o (by simp [Env.at, List.getD, hi])
      simpa using this
    | _ => rfl

theorem meets_iff {a b : List Nat} : meets a b = true ↔ ∃ x, x ∈ a ∧ x ∈ b := by
  simp [meets]

structure St where
  idx : Nat
  fp : FP
  fl : Option Float

def floatOf (i : Nat) (r : OpR) (σ : Env) : Option Float :=
  match r with
  | .load n p (some d) => match σ.at d with
    | .val v => some { idx := i, n, p, v }
    | _ => none
  | _ => none

theorem floatsAfter_eq (i : Nat) (r : OpR) (σ : Env) (fl : List Float) : floatsAfter i r σ fl = (floatOf i r σ).toList ++ fl := by
  cases r with
  | load n p dst =>
    cases dst with
    | none => rfl
    | some d => simp only [floatsAfter, floatOf]; cases σ.at d <;> rfl
  | _ => rfl

theorem floatOf_congr {i : Nat} {r : OpR} {σ τ : Env} (h : ∀ d ∈ r.wf, τ.at d = σ.at d) : floatOf i r τ = floatOf i r σ := by
  cases r with
  | load n p dst =>
    cases dst with
    | none => rfl
    | some d => simp only [floatOf]; rw [h d (by simp [OpR.wf])]
  | _ => rfl

def Asked (d : Option Nat) (σ σ' : Env) : Prop :=
  match d with
  | none => σ' = σ
  | some d => match σ.at d with
    | .val v => ∃ b, v = .bool b ∧ σ' = σ.set d (.cst b)
    | _ => σ' = σ

section
variable {C : Ctx} {fid : FuncId} {ops : List Oper} {run : IT → AHeap → Option Res} {σ τ σ' : Env} {h h' : AHeap}

/-- One operation of a region whose order is open, as our order has it. -/
def AStep (C : Ctx) (fid : FuncId) (ops : List Oper) (run : IT → AHeap → Option Res) (s : St) (σ : Env) (h : AHeap) (σ' : Env) (h' : AHeap) : Prop :=
  ∃ o, ops[s.idx]? = some o ∧
    ((guardOf ops σ o = .known false ∧ s.fp = fpOf C ops σ o none ∧ s.fl = none ∧ σ' = σ.put o.dst .skip ∧ h' = h) ∨
     ∃ r σ1, guardOf ops σ o = .known true ∧ classify C fid ops σ o = some r ∧ s.fp = fpOf C ops σ o (some r) ∧ r.does C run (σ.drop r.news) h σ1 h' ∧ s.fl = floatOf s.idx r σ1 ∧
       Asked (if isGuard ops s.idx then o.dst else none) σ1 σ')

theorem put_eq (σ : Env) (d : Option Nat) (x : Slot) : σ.put d x = σ.puts (d.toList.map fun s => (s, x)) := by cases d <;> rfl
theorem demote_eq (σ : Env) (d : Option (Nat × AVal)) : σ.demote d = σ.puts (d.toList.map fun p => (p.1, .val p.2)) := by cases d <;> rfl

/-- What an operation does to slots is a row of writes, whatever else the slots hold. -/
theorem does_puts {r : OpR} (hd : r.does C run σ h σ' h') : ∃ ws, σ' = σ.puts ws ∧ (∀ p ∈ ws, p.1 ∈ r.wf) ∧ (∀ p ∈ ws, ∀ t o, p.2 = .lref t o → t ∈ r.lrefs) ∧ ∀ τ, r.does C run τ h (τ.puts ws) h' := by
  have one : ∀ (d : Option Nat) (x : Slot), (∀ t o, x ≠ .lref t o) → σ' = σ.put d x → d.toList ⊆ r.wf → (∀ τ, r.does C run τ h (τ.put d x) h') →
      ∃ ws, σ' = σ.puts ws ∧ (∀ p ∈ ws, p.1 ∈ r.wf) ∧ (∀ p ∈ ws, ∀ t o, p.2 = .lref t o → t ∈ r.lrefs) ∧ ∀ τ, r.does C run τ h (τ.puts ws) h' := by
    intro d x hx he hw ht
    refine ⟨d.toList.map fun s => (s, x), by rw [← put_eq]; exact he, fun p hp => ?_, fun p hp t o hl => ?_, fun τ => by rw [← put_eq]; exact ht τ⟩
    · obtain ⟨s, hs, rfl⟩ := List.mem_map.1 hp
      exact hw hs
    · obtain ⟨s, hs, rfl⟩ := List.mem_map.1 hp
      exact absurd hl (hx t o)
  have two : ∀ (dem : Option (Nat × AVal)) (d : Option Nat) (x : Slot), (∀ t o, x ≠ .lref t o) → σ' = (σ.demote dem).put d x → d.toList ⊆ r.wf → (dem.map (·.1)).toList ⊆ r.wf → (∀ τ, r.does C run τ h ((τ.demote dem).put d x) h') →
      ∃ ws, σ' = σ.puts ws ∧ (∀ p ∈ ws, p.1 ∈ r.wf) ∧ (∀ p ∈ ws, ∀ t o, p.2 = .lref t o → t ∈ r.lrefs) ∧ ∀ τ, r.does C run τ h (τ.puts ws) h' := by
    intro dem d x hx he hw hw2 ht
    have e : ∀ τ : Env, (τ.demote dem).put d x = τ.puts ((dem.toList.map fun p => (p.1, .val p.2)) ++ d.toList.map fun s => (s, x)) := fun τ => by
      rw [Env.puts_append, ← demote_eq, ← put_eq]
    refine ⟨_, by rw [he, e], fun p hp => ?_, fun p hp t o hl => ?_, fun τ => by rw [← e]; exact ht τ⟩
    · rcases List.mem_append.1 hp with hp | hp
      · obtain ⟨q, hq, rfl⟩ := List.mem_map.1 hp
        exact hw2 (by cases dem <;> simp_all)
      · obtain ⟨s, hs, rfl⟩ := List.mem_map.1 hp
        exact hw hs
    · rcases List.mem_append.1 hp with hp | hp
      · obtain ⟨q, hq, rfl⟩ := List.mem_map.1 hp
        cases hl
      · obtain ⟨s, hs, rfl⟩ := List.mem_map.1 hp
        exact absurd hl (hx t o)
  cases r with
  | pure ws =>
    obtain ⟨rfl, rfl⟩ := hd
    refine ⟨ws, rfl, fun p hp => List.mem_map.2 ⟨p, hp, rfl⟩, fun p hp t o hl => ?_, fun τ => ⟨rfl, rfl⟩⟩
    exact List.mem_filterMap.2 ⟨p.2, List.mem_map.2 ⟨p, hp, rfl⟩, by rw [hl]⟩
  | op p args dst own dem =>
    obtain ⟨v, hv, rfl, rfl⟩ := hd
    exact two dem dst _ (by cases own <;> simp) rfl (by simp [OpR.wf]) (by simp [OpR.wf]) fun τ => ⟨v, hv, rfl, rfl⟩
  | box n v d =>
    obtain ⟨hn, rfl, rfl⟩ := hd
    exact one (some d) _ (by simp) rfl (by simp [OpR.wf]) fun τ => ⟨hn, rfl, rfl⟩
  | closure fn x b fz d =>
    obtain ⟨rfl, rfl⟩ := hd
    refine ⟨(fz.map fun (s, cs) => (s, .val (.rptr cs))) ++ [(d, .val (.func fn x b))], by rw [Env.puts_append]; rfl, fun p hp => ?_, fun p hp t o hl => ?_, fun τ => ⟨by rw [Env.puts_append]; rfl, rfl⟩⟩
    · rcases List.mem_append.1 hp with hp | hp
      · obtain ⟨q, hq, rfl⟩ := List.mem_map.1 hp
        exact List.mem_cons_of_mem _ (List.mem_map.2 ⟨q, hq, rfl⟩)
      · simp at hp; subst hp; simp [OpR.wf]
    · rcases List.mem_append.1 hp with hp | hp
      · obtain ⟨q, hq, rfl⟩ := List.mem_map.1 hp
        cases hl
      · simp at hp; subst hp; cases hl
  | bstore s off n v own dem ver cells owned =>
    obtain ⟨hn, rfl, rfl⟩ := hd
    exact two dem (some s) _ (by simp) rfl (by simp [OpR.wf]) (by simp [OpR.wf]) fun τ => ⟨hn, rfl, rfl⟩
  | load n p dst =>
    obtain ⟨v, hv, rfl, rfl⟩ := hd
    exact one dst _ (by simp) rfl (by simp [OpR.wf]) fun τ => ⟨v, hv, rfl, rfl⟩
  | store n p v =>
    obtain ⟨hv, rfl⟩ := hd
    exact one none .undef (by simp) rfl (by simp) fun τ => ⟨hv, rfl⟩
  | alloc n v dst =>
    obtain ⟨hn, rfl, rfl⟩ := hd
    exact one dst _ (by simp) rfl (by simp [OpR.wf]) fun τ => ⟨hn, rfl, rfl⟩
  | call f args dst =>
    obtain ⟨v, hv, rfl⟩ := hd
    exact one dst _ (by intro t o; split <;> simp) rfl (by simp [OpR.wf]) fun τ => ⟨v, hv, rfl⟩
  | callv g args dst =>
    obtain ⟨f, x, v, h1, h2, rfl⟩ := hd
    exact one dst _ (by simp) rfl (by simp [OpR.wf]) fun τ => ⟨f, x, v, h1, h2, rfl⟩
  | pcall f args dst =>
    obtain ⟨hfl, v, h1, h2, h3, rfl, rfl⟩ := hd
    exact one dst _ (by simp) rfl (by simp [OpR.wf]) fun τ => ⟨hfl, v, h1, h2, h3, rfl, rfl⟩
  | mnew dst =>
    obtain ⟨rfl, rfl⟩ := hd
    exact one dst _ (by simp) rfl (by simp [OpR.wf]) fun τ => ⟨rfl, rfl⟩
  | mset m k v =>
    obtain ⟨hv, rfl⟩ := hd
    exact one none .undef (by simp) rfl (by simp) fun τ => ⟨hv, rfl⟩
  | mget z ok m k dst =>
    obtain ⟨v, hv, rfl, rfl⟩ := hd
    exact one dst _ (by simp) rfl (by simp [OpR.wf]) fun τ => ⟨v, hv, rfl, rfl⟩
  | make z b zero l c dst =>
    obtain ⟨v, hv, rfl⟩ := hd
    exact one dst _ (by simp) rfl (by simp [OpR.wf]) fun τ => ⟨v, hv, rfl⟩
  | objOf z b s x dst dem =>
    obtain ⟨v, hv, rfl⟩ := hd
    exact two dem dst _ (by simp) rfl (by simp [OpR.wf]) (by simp [OpR.wf]) fun τ => ⟨v, hv, rfl⟩
  | bytesObj s dst =>
    obtain ⟨v, hv, rfl⟩ := hd
    exact one dst _ (by simp) rfl (by simp [OpR.wf]) fun τ => ⟨v, hv, rfl⟩
  | b2s s dst =>
    obtain ⟨v, u, h1, h2, rfl⟩ := hd
    exact one dst _ (by simp) rfl (by simp [OpR.wf]) fun τ => ⟨v, u, h1, h2, rfl⟩

/-- An operation without effect leaves the heap; and works in any heap, if what it loads is there. -/
theorem does_heap {r : OpR} (hd : r.does C run σ h σ' h') (he : r.eff = false) : h' = h ∧
    (r.hl = false → ∀ h2, r.does C run σ h2 σ' h2) ∧
    ∀ n p d, r = .load n p (some d) → ∃ v, hload h n p = some v ∧ σ' = σ.set d (.val v) ∧ ∀ h2, hload h2 n p = some v → r.does C run σ h2 σ' h2 := by
  cases r <;> simp only [OpR.eff] at he <;> try (exact absurd he (by decide))
  case pure ws => obtain ⟨rfl, rfl⟩ := hd; exact ⟨rfl, fun _ _ => ⟨rfl, rfl⟩, by simp⟩
  case op p args dst own dem => obtain ⟨v, hv, rfl, rfl⟩ := hd; exact ⟨rfl, fun _ _ => ⟨v, hv, rfl, rfl⟩, by simp⟩
  case box n v d => obtain ⟨hn, rfl, rfl⟩ := hd; exact ⟨rfl, fun _ _ => ⟨hn, rfl, rfl⟩, by simp⟩
  case closure fn x b fz d => obtain ⟨rfl, rfl⟩ := hd; exact ⟨rfl, fun _ _ => ⟨rfl, rfl⟩, by simp⟩
  case bstore s off n v own dem ver cells owned => obtain ⟨hn, rfl, rfl⟩ := hd; exact ⟨rfl, fun _ _ => ⟨hn, rfl, rfl⟩, by simp⟩
  case load n p dst =>
    obtain ⟨v, hv, rfl, rfl⟩ := hd
    refine ⟨rfl, fun hh => absurd hh (by simp [OpR.hl]), fun n' p' d he => ?_⟩
    cases he
    exact ⟨v, hv, rfl, fun h2 h2v => ⟨v, h2v, rfl, rfl⟩⟩
  case mget z ok m k dst =>
    obtain ⟨v, hv, rfl, rfl⟩ := hd
    exact ⟨rfl, fun hh => absurd hh (by simp [OpR.hl]), by simp⟩
  case pcall f args dst =>
    obtain ⟨hfl, v, h1, h2, h3, rfl, rfl⟩ := hd
    exact ⟨rfl, fun _ _ => ⟨hfl, v, h1, h2, h3, rfl, rfl⟩, by simp⟩

theorem drop_noLref {ds : List Nat} (hn : noLref σ ds = true) : σ.drop ds = σ := by
  refine Env.ext (Env.length_drop σ ds) fun t => ?_
  rw [Env.at_drop]
  cases hx : σ.at t with
  | lref t' o =>
    have := noLref_iff.1 hn t t' o hx
    simp [this]
  | _ => rfl

theorem guardOf_local {o : Oper} (h : ∀ t ∈ guardSlot ops o, τ.at t = σ.at t) : guardOf ops τ o = guardOf ops σ o := by
  unfold guardOf
  unfold guardSlot at h
  cases hg : o.guard with
  | none => rfl
  | some g =>
    obtain ⟨j, want⟩ := g
    rw [hg] at h
    simp only at h ⊢
    cases hd : (ops[j]?).bind (·.dst) with
    | none => rfl
    | some s =>
      rw [hd] at h
      simp only
      rw [h s (by simp)]

theorem contentOf_local {o : Oper} {r : OpR} (hc : classify C fid ops σ o = some r) (ht : ∀ t ∈ tmpsOf o.op.operands.toList, τ.at t = σ.at t) (hb : ∀ s ∈ contentOf C σ o, τ.at s = σ.at s) : contentOf C τ o = contentOf C σ o := by
  have h : Loc C σ τ o.op.operands.toList := .of_tmps ht
  unfold contentOf at hb ⊢
  cases ho : o.op with
  | load t x =>
    rw [ho] at h hb
    simp only at hb ⊢
    have hn : addrOf C σ x ≠ none := fun he => by
      unfold classify at hc
      simp only [ho] at hc
      split at hc
      · unfold loadOp at hc; rw [he] at hc; split at hc <;> simp_all
      · cases hc
    unfold baseOf
    rw [h.addr (by simp [Op.operands]) hb hn]
  | store t x y =>
    rw [ho] at h hb
    simp only at hb ⊢
    have hn : addrOf C σ x ≠ none := fun he => by
      unfold classify at hc
      simp only [ho] at hc
      split at hc
      · unfold storeOp at hc; rw [he] at hc; split at hc <;> simp_all
      · cases hc
    unfold baseOf
    rw [h.addr (by simp [Op.operands]) hb hn]
  | _ => rfl

theorem lrefsOf_mem {xs : List Slot} {t o : Nat} (h : .lref t o ∈ xs) : t ∈ lrefsOf xs := List.mem_filterMap.2 ⟨_, h, rfl⟩

/-- A step that may change places: its writes, and that it does the same wherever its slots hold the same. -/
theorem AStep.spec {s : St} (hs : AStep C fid ops run s σ h σ' h') (hf : s.fp.free = true) :
    ∃ ws, σ' = σ.puts ws ∧ (∀ p ∈ ws, p.1 ∈ s.fp.wf) ∧ (∀ p ∈ ws, ∀ t o, p.2 = .lref t o → t ∈ s.fp.lr) ∧ (∀ x ∈ s.fp.wf, ∀ t o, σ.at x = .lref t o → t ∈ s.fp.lr) ∧ noLref σ s.fp.news = true ∧ (s.fp.eff = false → h' = h) ∧
      (s.fp.eff = false → s.fp.hl = true → ∃ f, s.fl = some f) ∧
      ∀ (τ : Env) (h2 h2' : AHeap), τ.length = σ.length → (∀ x ∈ s.fp.rs ++ s.fp.wf, τ.at x = σ.at x) → noLref τ s.fp.news = true →
        ((h2 = h ∧ h2' = h') ∨ (s.fp.eff = false ∧ h2' = h2 ∧ (s.fp.hl = true → ∀ f, s.fl = some f → hload h2 f.n f.p = some f.v))) → AStep C fid ops run s τ h2 (τ.puts ws) h2' := by
  obtain ⟨o, ho, ⟨hg, hfp, hfl, rfl, rfl⟩ | ⟨r, σ1, hg, hc, hfp, hd, hfl, ha⟩⟩ := hs
  · rw [hfp] at hf ⊢
    refine ⟨o.dst.toList.map fun d => (d, .skip), put_eq _ _ _, fun p hp => ?_, fun p hp t k hl => ?_, fun x hx t k hl => ?_, noLref_iff.2 (by simp [fpOf]), fun _ => rfl, fun _ hh => absurd hh (by simp [fpOf]), fun τ h2 h2' hlen hag _ hcase => ?_⟩
    · obtain ⟨d, hd, rfl⟩ := List.mem_map.1 hp; exact hd
    · obtain ⟨d, hd, rfl⟩ := List.mem_map.1 hp; cases hl
    · exact lrefsOf_mem (o := k) (List.mem_map.2 ⟨x, hx, hl⟩)
    · have hh : h2' = h2 := by rcases hcase with ⟨e1, e2⟩ | ⟨_, e, _⟩ <;> first | exact e | rw [e1, e2]
      refine ⟨o, ho, .inl ⟨?_, ?_, hfl, (put_eq _ _ _).symm, hh⟩⟩
      · rw [guardOf_local fun t ht => hag t (List.mem_append_left _ ht)]; exact hg
      · rw [hfp]
        have e : o.dst.toList.map τ.at = o.dst.toList.map σ.at := List.map_congr_left fun x hx => hag x (List.mem_append_right _ hx)
        simp only [fpOf, e]
  · rw [hfp] at hf ⊢
    have hf' : r.free σ = true := hf
    have hnl : noLref σ r.news = true := by
      unfold OpR.free at hf'
      rw [Bool.and_eq_true] at hf'
      exact hf'.1
    rw [drop_noLref hnl] at hd
    obtain ⟨ws1, rfl, hw, hlr, hall⟩ := does_puts hd
    -- the guard that is looked at
    have hask : ∃ ws2 : List (Nat × Slot), σ' = (σ.puts ws1).puts ws2 ∧ (∀ p ∈ ws2, o.dst = some p.1 ∧ ∃ b, p.2 = .cst b) ∧ ∀ τ : Env, τ.length = σ.length → (∀ x ∈ r.wf ++ o.dst.toList, τ.at x = σ.at x) → Asked (if isGuard ops s.idx then o.dst else none) (τ.puts ws1) ((τ.puts ws1).puts ws2) := by
      by_cases hig : isGuard ops s.idx = true
      · rw [if_pos hig] at ha
        cases hdst : o.dst with
        | none =>
          rw [hdst] at ha
          exact ⟨[], ha, by simp, fun τ _ _ => by simp [hig, Asked, Env.puts]⟩
        | some d =>
          rw [hdst] at ha
          simp only [Asked] at ha
          have hcg : ∀ τ : Env, τ.length = σ.length → (∀ x ∈ r.wf ++ [d], τ.at x = σ.at x) → (τ.puts ws1).at d = (σ.puts ws1).at d := fun τ hl hag => Env.at_puts_congr ws1 σ τ d hl (hag d (by simp))
          cases hx : (σ.puts ws1).at d with
          | val v =>
            rw [hx] at ha
            obtain ⟨b, rfl, rfl⟩ := ha
            refine ⟨[(d, .cst b)], rfl, by simp, fun τ hl hag => ?_⟩
            simp only [hig, if_true, Asked]
            rw [hcg τ hl hag, hx]
            exact ⟨b, rfl, rfl⟩
          | _ =>
            rw [hx] at ha
            refine ⟨[], ha, by simp, fun τ hl hag => ?_⟩
            simp only [hig, if_true, Asked]
            rw [hcg τ hl hag, hx]
            rfl
      · rw [if_neg hig] at ha
        exact ⟨[], ha, by simp, fun τ _ _ => by rw [if_neg hig]; rfl⟩
    obtain ⟨ws2, rfl, hw2, hask2⟩ := hask
    have hhl : r.hl = true → ∃ n p d, r = .load n p (some d) ∧ d < σ.length := fun hh => by
      unfold OpR.free at hf'
      rw [Bool.and_eq_true] at hf'
      cases r with
      | load n p dst =>
        cases dst with
        | none => exact absurd hf'.2 (by simp)
        | some d => exact ⟨n, p, d, rfl, by simpa using hf'.2⟩
      | mget _ _ _ _ _ => exact absurd hf'.2 (by simp)
      | _ => simp [OpR.hl] at hh
    have hflo : r.eff = false → ∀ n p d, r = .load n p (some d) → d < σ.length → ∃ v, hload h n p = some v ∧ s.fl = some { idx := s.idx, n, p, v } := by
      intro he n p d hr hdl
      obtain ⟨v, q1, q2, _⟩ := (does_heap hd he).2.2 n p d hr
      refine ⟨v, q1, ?_⟩
      rw [hfl, hr]
      simp only [floatOf]
      rw [q2, Env.at_set_self hdl]
    have heff : ∀ (τ : Env) h2 h2', ((h2 = h ∧ h2' = h') ∨ (r.eff = false ∧ h2' = h2 ∧ (r.hl = true → ∀ f, s.fl = some f → hload h2 f.n f.p = some f.v))) → r.does C run τ h2 (τ.puts ws1) h2' := by
      intro τ h2 h2' hcase
      rcases hcase with ⟨rfl, rfl⟩ | ⟨he, rfl, hre⟩
      · exact hall τ
      · obtain ⟨_, k2, k3⟩ := does_heap (hall τ) he
        cases hh : r.hl with
        | false => exact k2 hh _
        | true =>
          obtain ⟨n, p, d, hr, hdl⟩ := hhl hh
          obtain ⟨v, q1, q2⟩ := hflo he n p d hr hdl
          obtain ⟨v', p1, _, p3⟩ := k3 n p d hr
          rw [q1] at p1; cases p1
          exact p3 _ (hre hh _ q2)
    refine ⟨ws1 ++ ws2, by rw [Env.puts_append], fun p hp => ?_, fun p hp t k hl => ?_, fun x hx t k hl => ?_, hnl, fun he => (does_heap hd he).1, fun he hh => ?_, fun τ h2 h2' hlen hag hnt hcase => ?_⟩
    · rcases List.mem_append.1 hp with hp | hp
      · exact List.mem_append_left _ (hw p hp)
      · exact List.mem_append_right _ (by rw [(hw2 p hp).1]; simp)
    · rcases List.mem_append.1 hp with hp | hp
      · exact List.mem_append_right _ (hlr p hp t k hl)
      · obtain ⟨_, b, e⟩ := hw2 p hp
        rw [e] at hl; cases hl
    · exact List.mem_append_left _ (lrefsOf_mem (o := k) (List.mem_map.2 ⟨x, hx, hl⟩))
    · obtain ⟨n, p, d, hr, hdl⟩ := hhl hh
      obtain ⟨v, _, q2⟩ := hflo he n p d hr hdl
      exact ⟨_, q2⟩
    · have hrs : ∀ t ∈ guardSlot ops o ++ tmpsOf o.op.operands.toList ++ contentOf C σ o, τ.at t = σ.at t := fun t ht => hag t (List.mem_append_left _ ht)
      have hwf : ∀ t ∈ r.wf ++ o.dst.toList, τ.at t = σ.at t := fun t ht => hag t (List.mem_append_right _ ht)
      have ht : ∀ t ∈ tmpsOf o.op.operands.toList, τ.at t = σ.at t := fun t ht => hrs t (by simp [ht])
      have hb : ∀ t ∈ contentOf C σ o, τ.at t = σ.at t := fun t ht => hrs t (by simp [ht])
      have hnt' : noLref τ r.news = true := hnt
      refine ⟨o, ho, .inr ⟨r, τ.puts ws1, ?_, classify_local hc ht hb, ?_, ?_, ?_, ?_⟩⟩
      · rw [guardOf_local fun t ht => hrs t (by simp [ht])]; exact hg
      · rw [hfp]
        have e1 : (r.wf ++ o.dst.toList).map τ.at = (r.wf ++ o.dst.toList).map σ.at := List.map_congr_left fun x hx => hwf x hx
        have e2 : r.free τ = r.free σ := by unfold OpR.free; rw [hnl, hnt', hlen]
        simp only [fpOf, e1, e2, contentOf_local hc ht hb]
      · rw [drop_noLref hnt']
        exact heff τ h2 h2' hcase
      · rw [hfl]
        exact (floatOf_congr fun d hd => Env.at_puts_congr ws1 σ τ d hlen (hwf d (List.mem_append_left _ hd))).symm
      · rw [Env.puts_append]
        exact hask2 τ hlen hwf
end
end Go.Am
