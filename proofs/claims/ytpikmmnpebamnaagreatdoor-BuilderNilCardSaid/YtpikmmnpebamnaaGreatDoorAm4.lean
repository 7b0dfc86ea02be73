/-
  The abstract machine, fourth part: rules for showing that a tree runs to an end that meets a condition. No law is claimed here.
-/
import Derived.Test.YtpikmmnpebamnaaGreatDoorAm3
set_option linter.unusedSimpArgs false
set_option linter.unusedVariables false
namespace Go.Am

theorem IT.step_mono {fn : FuncId → List AVal → IT} {rec rec' : IT → AHeap → Option Res} (hr : ∀ t h r, rec t h = some r → rec' t h = some r) :
    ∀ (t : IT) (h : AHeap) (r : Res), IT.step fn rec t h = some r → IT.step fn rec' t h = some r := by
  intro t
  induction t with
  | ret x vs => intro h r hh; simpa [IT.step] using hh
  | fail => intro h r hh; simp [IT.step] at hh
  | op o args k ih =>
    intro h r hh
    simp only [IT.step] at hh ⊢
    split at hh
    · exact ih _ _ _ hh
    · cases hh
  | cells n v k ih =>
    intro h r hh
    simp only [IT.step] at hh ⊢
    split at hh
    · rename_i hc; rw [if_pos hc]; exact ih _ _ _ hh
    · cases hh
  | cnd c t e iht ihe =>
    intro h r hh
    simp only [IT.step] at hh ⊢
    split at hh
    · exact iht _ _ hh
    · exact ihe _ _ hh
    · cases hh
  | load n p k ih =>
    intro h r hh
    simp only [IT.step] at hh ⊢
    split at hh
    · exact ih _ _ _ hh
    · cases hh
  | store n p v k ih =>
    intro h r hh
    simp only [IT.step] at hh ⊢
    split at hh
    · exact ih _ _ hh
    · cases hh
  | alloc n v k ih =>
    intro h r hh
    simp only [IT.step] at hh ⊢
    split at hh
    · exact ih _ _ _ hh
    · cases hh
  | call f args k ih =>
    intro h r hh
    simp only [IT.step] at hh ⊢
    split at hh
    · rename_i h1; rw [hr _ _ _ h1]; exact ih _ _ _ hh
    · cases hh
  | callv g args k ih =>
    intro h r hh
    simp only [IT.step] at hh ⊢
    split at hh
    · rename_i f a ht
      split at hh
      · rename_i h1; simp only [hr _ _ _ h1]; exact ih _ _ _ hh
      · cases hh
    · cases hh
  | pcall f args k ih =>
    intro h r hh
    simp only [IT.step] at hh ⊢
    split at hh
    · rename_i hfl
      rw [if_pos hfl]
      split at hh
      · rename_i h1
        rw [hr _ _ _ h1]
        split at hh
        · rename_i hf2
          simp only [hf2, if_true]
          exact ih _ _ _ hh
        · cases hh
      · cases hh
    · cases hh
  | loop key init body k ihb ihk =>
    intro h r hh
    simp only [IT.step] at hh ⊢
    split at hh
    · rename_i h1; rw [ihb _ _ _ h1]; exact hr _ _ _ hh
    · rename_i x vs h1 hne hx; rw [ihb _ _ _ hx]; cases x <;> first | exact ihk _ _ _ _ hh | exact absurd rfl hne
    · cases hh
  | join key t k iht ihk =>
    intro h r hh
    simp only [IT.step] at hh ⊢
    split at hh
    · rename_i h1; rw [iht _ _ h1]; exact ihk _ _ _ _ hh
    · cases hh
  | same a b k ih =>
    intro h r hh
    simp only [IT.step] at hh ⊢
    split at hh
    · rename_i hc; rw [if_pos hc]; exact ih _ _ hh
    · cases hh
  | mnew k ih =>
    intro h r hh
    simp only [IT.step] at hh ⊢
    exact ih _ _ _ hh
  | mset m key v k ih =>
    intro h r hh
    simp only [IT.step] at hh ⊢
    split at hh
    · exact ih _ _ hh
    · cases hh
  | mget z ok m key k ih =>
    intro h r hh
    simp only [IT.step] at hh ⊢
    split at hh
    · exact ih _ _ _ hh
    · cases hh
  | make size bytes zero len cap k ih =>
    intro h r hh
    simp only [IT.step] at hh ⊢
    split at hh
    · exact ih _ _ _ hh
    · cases hh
  | objOf size bytes s x k ih =>
    intro h r hh
    simp only [IT.step] at hh ⊢
    split at hh
    · exact ih _ _ _ hh
    · cases hh
  | bytesObj s k ih =>
    intro h r hh
    simp only [IT.step] at hh ⊢
    split at hh
    · exact ih _ _ _ hh
    · cases hh
  | frz v k ih =>
    intro h r hh
    simp only [IT.step] at hh ⊢
    split at hh
    · exact ih _ _ _ hh
    · cases hh
  | frzAt off p k ih =>
    intro h r hh
    simp only [IT.step] at hh ⊢
    split at hh
    · exact ih _ _ hh
    · cases hh
  | grow size bytes s x k ih =>
    intro h r hh
    simp only [IT.step] at hh ⊢
    split at hh
    · exact ih _ _ _ hh
    · cases hh
  | appendM size bytes s x k ih =>
    intro h r hh
    simp only [IT.step] at hh ⊢
    split at hh
    · exact ih _ _ _ hh
    · cases hh
  | mem o args k ih =>
    intro h r hh
    simp only [IT.step] at hh ⊢
    split at hh
    · exact ih _ _ _ hh
    · cases hh
  | qcall f args k ih =>
    intro h r hh
    simp only [IT.step] at hh ⊢
    split at hh
    · rename_i h1
      rw [hr _ _ _ h1]
      split at hh
      · rename_i hf2
        simp only [hf2, if_true]
        exact ih _ _ _ hh
      · cases hh
    · cases hh

theorem IT.run_succ {fn : FuncId → List AVal → IT} : ∀ (n : Nat) (t : IT) (h : AHeap) (r : Res), IT.run fn n t h = some r → IT.run fn (n + 1) t h = some r := by
  intro n
  induction n with
  | zero => intro t h r hh; simp [IT.run] at hh
  | succ n ih => intro t h r hh; exact IT.step_mono (fun t h r => ih t h r) t h r hh

theorem IT.run_le {fn : FuncId → List AVal → IT} {n m : Nat} (hnm : n ≤ m) {t : IT} {h : AHeap} {r : Res} (hh : IT.run fn n t h = some r) : IT.run fn m t h = some r := by
  induction hnm with
  | refl => exact hh
  | step _ ih => exact IT.run_succ _ _ _ _ ih

abbrev Post := AExit → List AVal → AHeap → Prop

/-- The tree runs to an end that meets Q. -/
def W (C : Ctx) (t : IT) (Q : Post) (h : AHeap) : Prop := ∃ n x vs h', C.run n t h = some (x, vs, h') ∧ Q x vs h'

section
variable {C : Ctx} {Q : Post} {h : AHeap}

theorem W.mono {t : IT} {Q' : Post} (hw : W C t Q h) (hq : ∀ x vs h', Q x vs h' → Q' x vs h') : W C t Q' h :=
  let ⟨n, x, vs, h', hr, q⟩ := hw; ⟨n, x, vs, h', hr, hq _ _ _ q⟩

theorem W_ret {x : AExit} {vs : List AVal} (hq : Q x vs h) : W C (.ret x vs) Q h := ⟨1, x, vs, h, rfl, hq⟩

theorem W_succ {t : IT} (hh : ∃ n x vs h', IT.step (afun C) (C.run n) t h = some (x, vs, h') ∧ Q x vs h') : W C t Q h :=
  let ⟨n, x, vs, h', hr, q⟩ := hh; ⟨n + 1, x, vs, h', hr, q⟩

theorem W.succ {t : IT} (hh : W C t Q h) : ∃ n x vs h', IT.step (afun C) (C.run n) t h = some (x, vs, h') ∧ Q x vs h' := by
  obtain ⟨n, x, vs, h', hr, q⟩ := hh
  cases n with
  | zero => simp [Ctx.run, IT.run] at hr
  | succ n => exact ⟨n, x, vs, h', hr, q⟩

theorem W_op {o : POp} {args : List AVal} {k : AVal → IT} {v : AVal} (hv : peval o args = some v) (hw : W C (k v) Q h) : W C (.op o args k) Q h := by
  obtain ⟨n, x, vs, h', hr, q⟩ := hw.succ
  exact W_succ ⟨n, x, vs, h', by simp only [IT.step, hv]; exact hr, q⟩

theorem W_cells {n : Nat} {v : AVal} {k : List AVal → IT} (hv : v.cells.length = n) (hw : W C (k v.cells) Q h) : W C (.cells n v k) Q h := by
  obtain ⟨m, x, vs, h', hr, q⟩ := hw.succ
  exact W_succ ⟨m, x, vs, h', by simp only [IT.step, hv, if_true]; exact hr, q⟩

theorem W_cnd {b : Bool} {t e : IT} (ht : b = true → W C t Q h) (he : b = false → W C e Q h) : W C (.cnd (.bool b) t e) Q h := by
  cases b with
  | true =>
    obtain ⟨m, x, vs, h', hr, q⟩ := (ht rfl).succ
    exact W_succ ⟨m, x, vs, h', by simp only [IT.step]; exact hr, q⟩
  | false =>
    obtain ⟨m, x, vs, h', hr, q⟩ := (he rfl).succ
    exact W_succ ⟨m, x, vs, h', by simp only [IT.step]; exact hr, q⟩

theorem W_load {n : Option Nat} {p v : AVal} {k : AVal → IT} (hv : hload h n p = some v) (hw : W C (k v) Q h) : W C (.load n p k) Q h := by
  obtain ⟨m, x, vs, h', hr, q⟩ := hw.succ
  exact W_succ ⟨m, x, vs, h', by simp only [IT.step, hv]; exact hr, q⟩

theorem W_store {n : Nat} {p v : AVal} {k : IT} {h1 : AHeap} (hv : hstore h n p v = some h1) (hw : W C k Q h1) : W C (.store n p v k) Q h := by
  obtain ⟨m, x, vs, h', hr, q⟩ := hw.succ
  exact W_succ ⟨m, x, vs, h', by simp only [IT.step, hv]; exact hr, q⟩

theorem W_alloc {n : Nat} {v : AVal} {k : AVal → IT} (hv : v.cells.length = n) (hw : W C (k (.ptr (some (h.length, 0)))) Q (h ++ [.cells v.cells])) : W C (.alloc n v k) Q h := by
  obtain ⟨m, x, vs, h', hr, q⟩ := hw.succ
  exact W_succ ⟨m, x, vs, h', by simp only [IT.step, halloc, hv, if_true]; exact hr, q⟩

theorem W_same {a b : AVal} {k : IT} (hv : AVal.beq a b = true) (hw : W C k Q h) : W C (.same a b k) Q h := by
  obtain ⟨m, x, vs, h', hr, q⟩ := hw.succ
  exact W_succ ⟨m, x, vs, h', by simp only [IT.step, hv, if_true]; exact hr, q⟩

theorem W_mnew {k : AVal → IT} (hw : W C (k (.map (some h.length))) Q (h ++ [.map []])) : W C (.mnew k) Q h := by
  obtain ⟨m, x, vs, h', hr, q⟩ := hw.succ
  exact W_succ ⟨m, x, vs, h', by simp only [IT.step]; exact hr, q⟩

theorem W_mset {m key v : AVal} {k : IT} {h1 : AHeap} (hv : hmset h m key v = some h1) (hw : W C k Q h1) : W C (.mset m key v k) Q h := by
  obtain ⟨n, x, vs, h', hr, q⟩ := hw.succ
  exact W_succ ⟨n, x, vs, h', by simp only [IT.step, hv]; exact hr, q⟩

theorem W_mget {z : AVal} {ok : Bool} {m key v : AVal} {k : AVal → IT} (hv : hmget h z ok m key = some v) (hw : W C (k v) Q h) : W C (.mget z ok m key k) Q h := by
  obtain ⟨n, x, vs, h', hr, q⟩ := hw.succ
  exact W_succ ⟨n, x, vs, h', by simp only [IT.step, hv]; exact hr, q⟩

theorem W_make {size bytes : Nat} {zero : List AVal} {len cap v : AVal} {k : AVal → IT} {h1 : AHeap} (hv : hmake h size bytes zero len cap = some (h1, v)) (hw : W C (k v) Q h1) : W C (.make size bytes zero len cap k) Q h := by
  obtain ⟨n, x, vs, h', hr, q⟩ := hw.succ
  exact W_succ ⟨n, x, vs, h', by simp only [IT.step, hv]; exact hr, q⟩

theorem W_objOf {size bytes : Nat} {s x v : AVal} {k : AVal → IT} {h1 : AHeap} (hv : hobjOf h size bytes s x = some (h1, v)) (hw : W C (k v) Q h1) : W C (.objOf size bytes s x k) Q h := by
  obtain ⟨n, x, vs, h', hr, q⟩ := hw.succ
  exact W_succ ⟨n, x, vs, h', by simp only [IT.step, hv]; exact hr, q⟩

theorem W_bytesObj {s v : AVal} {k : AVal → IT} {h1 : AHeap} (hv : hbytesObj h s = some (h1, v)) (hw : W C (k v) Q h1) : W C (.bytesObj s k) Q h := by
  obtain ⟨n, x, vs, h', hr, q⟩ := hw.succ
  exact W_succ ⟨n, x, vs, h', by simp only [IT.step, hv]; exact hr, q⟩

theorem W_frz {u v : AVal} {k : AVal → IT} {h1 : AHeap} (hv : hfrz h u = some (h1, v)) (hw : W C (k v) Q h1) : W C (.frz u k) Q h := by
  obtain ⟨n, x, vs, h', hr, q⟩ := hw.succ
  exact W_succ ⟨n, x, vs, h', by simp only [IT.step, hv]; exact hr, q⟩

theorem W_frzAt {off : Nat} {p : AVal} {k : IT} {h1 : AHeap} (hv : hfrzAt h off p = some h1) (hw : W C k Q h1) : W C (.frzAt off p k) Q h := by
  obtain ⟨n, x, vs, h', hr, q⟩ := hw.succ
  exact W_succ ⟨n, x, vs, h', by simp only [IT.step, hv]; exact hr, q⟩

theorem W_grow {size bytes : Nat} {s x v : AVal} {k : AVal → IT} {h1 : AHeap} (hv : hgrow h size bytes s x = some (h1, v)) (hw : W C (k v) Q h1) : W C (.grow size bytes s x k) Q h := by
  obtain ⟨n, x, vs, h', hr, q⟩ := hw.succ
  exact W_succ ⟨n, x, vs, h', by simp only [IT.step, hv]; exact hr, q⟩

theorem W_appendM {size bytes : Nat} {s x v : AVal} {k : AVal → IT} (hv : happM h size bytes s x = some v) (hw : W C (k v) Q h) : W C (.appendM size bytes s x k) Q h := by
  obtain ⟨n, x, vs, h', hr, q⟩ := hw.succ
  exact W_succ ⟨n, x, vs, h', by simp only [IT.step, hv]; exact hr, q⟩

theorem W_mem {o : MOp} {args : List AVal} {v : AVal} {k : AVal → IT} {h1 : AHeap} (hv : meval o h args = some (h1, v)) (hw : W C (k v) Q h1) : W C (.mem o args k) Q h := by
  obtain ⟨n, x, vs, h', hr, q⟩ := hw.succ
  exact W_succ ⟨n, x, vs, h', by simp only [IT.step, hv]; exact hr, q⟩

/-- A call of a function: it returns one value, in a heap. -/
def Ev (C : Ctx) (f : FuncId) (args : List AVal) (h : AHeap) (R : AVal → AHeap → Prop) : Prop :=
  W C (afun C f args) (fun x vs h' => x = .ret ∧ ∃ r, vs = [r] ∧ R r h') h

theorem Ev.mono {f : FuncId} {args : List AVal} {R R' : AVal → AHeap → Prop} (hw : Ev C f args h R) (hr : ∀ r h', R r h' → R' r h') : Ev C f args h R' :=
  W.mono hw fun _ _ _ ⟨hx, r, hv, hR⟩ => ⟨hx, r, hv, hr _ _ hR⟩

theorem W_call {f : FuncId} {args : List AVal} {k : AVal → IT} (hc : Ev C f args h fun r h1 => W C (k r) Q h1) : W C (.call f args k) Q h := by
  obtain ⟨n, x, vs, h1, hr, hx, r, hv, m, x', vs', h', hr', q⟩ := hc
  subst hx; subst hv
  refine W_succ ⟨max n m, x', vs', h', ?_, q⟩
  have h1' := IT.run_le (Nat.le_max_left n m) hr
  have h2 := IT.run_le (Nat.le_trans (Nat.le_max_right n m) (Nat.le_succ _)) hr'
  simp only [IT.step]
  simp only [Ctx.run] at *
  rw [h1']
  exact h2

theorem W_callv {g : AVal} {f : FuncId} {args args' : List AVal} {k : AVal → IT} (ht : targetOf g args = some (f, args')) (hc : Ev C f args' h fun r h1 => W C (k r) Q h1) : W C (.callv g args k) Q h := by
  obtain ⟨n, x, vs, h1, hr, hx, r, hv, m, x', vs', h', hr', q⟩ := hc
  subst hx; subst hv
  refine W_succ ⟨max n m, x', vs', h', ?_, q⟩
  have h1' := IT.run_le (Nat.le_max_left n m) hr
  have h2 := IT.run_le (Nat.le_trans (Nat.le_max_right n m) (Nat.le_succ _)) hr'
  simp only [IT.step, ht]
  simp only [Ctx.run] at *
  rw [h1']
  exact h2

theorem W_pcall {f : FuncId} {args : List AVal} {k : AVal → IT} (ha : args.all AVal.flat = true) (hc : Ev C f args [] fun r _ => r.flat = true ∧ W C (k r) Q h) : W C (.pcall f args k) Q h := by
  obtain ⟨n, x, vs, h1, hr, hx, r, hv, hfl, m, x', vs', h', hr', q⟩ := hc
  subst hx; subst hv
  refine W_succ ⟨max n m, x', vs', h', ?_, q⟩
  have h1' := IT.run_le (Nat.le_max_left n m) hr
  have h2 := IT.run_le (Nat.le_trans (Nat.le_max_right n m) (Nat.le_succ _)) hr'
  simp only [IT.step, ha, if_true]
  simp only [Ctx.run] at *
  rw [h1']
  simp only [hfl, if_true]
  exact h2

theorem W_join {key : Nat} {t : IT} {k : AExit → List AVal → IT} (hw : W C t (fun x vs h1 => W C (k x vs) Q h1) h) : W C (.join key t k) Q h := by
  obtain ⟨n, x, vs, h1, hr, hw'⟩ := hw.succ
  obtain ⟨m, x', vs', h', hr', q⟩ := hw'.succ
  refine W_succ ⟨max n m, x', vs', h', ?_, q⟩
  have e1 := IT.step_mono (fun t h r => IT.run_le (fn := afun C) (Nat.le_max_left n m)) _ _ _ hr
  have e2 := IT.step_mono (fun t h r => IT.run_le (fn := afun C) (Nat.le_max_right n m)) _ _ _ hr'
  simp only [IT.step]
  simp only [Ctx.run] at *
  rw [e1]
  exact e2

/-- A loop by an invariant and a measure. -/
theorem W_loop {key : Nat} {init : List AVal} {body : List AVal → IT} {k : AExit → List AVal → IT} (I : List AVal → AHeap → Prop) (μ : List AVal → AHeap → Nat) (h0 : I init h)
    (round : ∀ vs h, I vs h → W C (body vs) (fun x vs1 h1 => (x = .normal ∧ I vs1 h1 ∧ μ vs1 h1 < μ vs h) ∨ (x ≠ .normal ∧ W C (k x vs1) Q h1)) h) : W C (.loop key init body k) Q h := by
  have key : ∀ n vs h, μ vs h = n → I vs h → W C (.loop key vs body k) Q h := by
    intro n
    induction n using Nat.strongRecOn with
    | _ n ih =>
      intro vs h hn hI
      obtain ⟨m, x, vs1, h1, hr, hcase⟩ := (round vs h hI).succ
      rcases hcase with ⟨rfl, hI1, hlt⟩ | ⟨hx, hw⟩
      · obtain ⟨m', x', vs', h', hr', q⟩ := ih _ (hn ▸ hlt) vs1 h1 rfl hI1
        refine W_succ ⟨max m m', x', vs', h', ?_, q⟩
        have e1 := IT.step_mono (fun t h r => IT.run_le (fn := afun C) (Nat.le_max_left m m')) _ _ _ hr
        have e2 := IT.run_le (Nat.le_max_right m m') hr'
        simp only [IT.step]
        simp only [Ctx.run] at *
        rw [e1]
        exact e2
      · obtain ⟨m', x', vs', h', hr', q⟩ := hw.succ
        refine W_succ ⟨max m m', x', vs', h', ?_, q⟩
        have e1 := IT.step_mono (fun t h r => IT.run_le (fn := afun C) (Nat.le_max_left m m')) _ _ _ hr
        have e2 := IT.step_mono (fun t h r => IT.run_le (fn := afun C) (Nat.le_max_right m m')) _ _ _ hr'
        simp only [IT.step]
        simp only [Ctx.run] at *
        rw [e1]
        cases x <;> first | exact absurd rfl hx | exact e2
  exact key _ init h rfl h0
end

/-- A closed run by the kernel. -/
theorem Ev_of_run {C : Ctx} {f : FuncId} {args : List AVal} {h : AHeap} {R : AVal → AHeap → Prop} (n : Nat) {r : AVal} {h' : AHeap}
    (hr : C.run n (afun C f args) h = some (.ret, [r], h')) (hR : R r h') : Ev C f args h R := ⟨n, _, _, _, hr, rfl, r, rfl, hR⟩

end Go.Am
