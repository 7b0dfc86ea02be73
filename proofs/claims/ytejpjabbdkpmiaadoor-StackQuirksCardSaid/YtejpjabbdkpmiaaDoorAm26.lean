/-
  Which slots an operation and a region leave alone; regions. No law is claimed here.
-/
import Derived.Test.YtejpjabbdkpmiaaDoorAm25
set_option linter.unusedSimpArgs false
set_option linter.unusedVariables false
namespace Go.Am
open Go

/-- What becomes of a slot that code does not write: an address may be forgotten, a private variable may be written. -/
def Kpt (x y : Slot) : Prop :=
  match x with
  | .box ver cs ow => ∃ ver' cs' ow', y = .box ver' cs' ow' ∧ ver ≤ ver' ∧ (ver' = ver → cs' = cs ∧ ow' = ow)
  | .lref t o => y = .lref t o ∨ y = .undef
  | x => y = x

theorem Kpt.refl (x : Slot) : Kpt x x := by
  cases x with
  | box ver cs ow => exact ⟨ver, cs, ow, rfl, Nat.le_refl _, fun _ => ⟨rfl, rfl⟩⟩
  | lref t o => exact .inl rfl
  | _ => rfl

theorem Kpt.trans {x y z : Slot} (h : Kpt x y) (k : Kpt y z) : Kpt x z := by
  cases x with
  | box ver cs ow =>
    obtain ⟨v1, c1, o1, rfl, h1, h2⟩ := h
    obtain ⟨v2, c2, o2, rfl, k1, k2⟩ := k
    refine ⟨v2, c2, o2, rfl, Nat.le_trans h1 k1, fun e => ?_⟩
    have e1 : v1 = ver := by omega
    have e2 : v2 = v1 := by omega
    obtain ⟨rfl, rfl⟩ := k2 e2
    exact h2 e1
  | lref t o =>
    rcases h with rfl | rfl
    · exact k
    · exact .inr k
  | _ => rw [show y = _ from h] at k; exact k

def Only (W : List Nat) (σ τ : Env) : Prop := τ.length = σ.length ∧ ∀ s, s ∉ W → Kpt (σ.at s) (τ.at s)

theorem Only.refl (W : List Nat) (σ : Env) : Only W σ σ := ⟨rfl, fun _ _ => .refl _⟩
theorem Only.trans {W : List Nat} {σ τ ρ : Env} (h : Only W σ τ) (k : Only W τ ρ) : Only W σ ρ := ⟨k.1.trans h.1, fun s hs => (h.2 s hs).trans (k.2 s hs)⟩
theorem Only.mono {W W' : List Nat} {σ τ : Env} (h : Only W σ τ) (hw : ∀ s ∈ W, s ∈ W') : Only W' σ τ := ⟨h.1, fun s hs => h.2 s fun hm => hs (hw s hm)⟩
theorem Only.set {W : List Nat} {σ : Env} {s : Nat} {x : Slot} (hs : s ∈ W) : Only W σ (σ.set s x) :=
  ⟨by simp, fun t ht => by rw [Env.at_set_ne fun e => ht (by rw [← e]; exact hs)]; exact .refl _⟩
theorem Only.put {W : List Nat} {σ : Env} {d : Option Nat} {x : Slot} (hs : ∀ s ∈ d.toList, s ∈ W) : Only W σ (σ.put d x) := by
  cases d with
  | none => exact .refl _ _
  | some d => exact .set (hs d (by simp))

section
variable {C : Ctx} {fid : FuncId} {ops : List Oper} {run : IT → AHeap → Option Res} {σ σ' : Env} {h h' : AHeap} {W : List Nat}

theorem Only.drop (σ : Env) (ds : List Nat) : Only W σ (σ.drop ds) := by
  refine ⟨Env.length_drop σ ds, fun s _ => ?_⟩
  rw [Env.at_drop]
  cases hx : σ.at s with
  | lref t o =>
    simp only
    split
    · exact .inr rfl
    · exact .inl rfl
  | _ => exact .refl _

theorem only_of_wf {r : OpR} {ds : List Nat} (hd : r.does C run (σ.drop ds) h σ' h') (hw : ∀ s ∈ r.wf, s ∈ W) : Only W σ σ' := by
  obtain ⟨ws, rfl, h1, _⟩ := does_puts hd
  refine (Only.drop σ ds).trans ⟨Env.length_puts ws _, fun s hs => ?_⟩
  rw [Env.at_puts_out ws _ s fun p hp e => hs (hw s (by rw [← e]; exact h1 p hp))]
  exact .refl _

theorem moveOp_wf {x : Operand} {d : Nat} {take : Bool} {r : OpR} (h : moveOp C σ x d take = some r) : ∀ s ∈ r.wf, s = d ∨ (take = true ∧ x = .tmp s) := by
  unfold moveOp at h
  split at h
  · cases h; simp [OpR.wf]
  · cases h; simp [OpR.wf]
  · split at h
    · rename_i ht
      cases h
      intro s hs
      simp only [OpR.wf, List.map_append, List.mem_append] at hs
      rcases hs with hs | hs
      · revert hs
        generalize hX : takeFrom _ _ = tf
        intro hs
        unfold takeFrom at hX
        split at hX
        · subst hX; simp at hs; exact .inr ⟨ht, by rw [hs]⟩
        · subst hX; simp at hs
      · exact .inl (by simpa using hs)
    · cases hc : copySlot _ with
      | none => rw [hc] at h; cases h
      | some sl => rw [hc] at h; cases h; simp [OpR.wf]
  · cases hc : copySlot _ with
    | none => rw [hc] at h; cases h
    | some sl => rw [hc] at h; cases h; simp [OpR.wf]
  · cases h

theorem demoteOf_tmp {x : Operand} {p : Nat × AVal} (h : demoteOf σ x = some p) : x = .tmp p.1 := by
  cases x with
  | tmp t =>
    simp only [demoteOf] at h
    cases hx : σ.at t with
    | own v => rw [hx] at h; cases h; rfl
    | _ => rw [hx] at h; cases h
  | _ => cases h

theorem boxOp_wf {t : TypeId} {v : AVal} {d : Nat} {r : OpR} (h : boxOp C fid t v d = some r) : r.wf = [d] := by
  unfold boxOp at h
  split at h
  · cases h
  · split at h
    · cases h
    · split at h <;> (cases h; rfl)

theorem captures_tmps : ∀ {xs : List Operand} {vs : List AVal} {fz : List (Nat × List AVal)}, captures C σ xs = some (vs, fz) → ∀ p ∈ fz, p.1 ∈ tmpsOf xs
  | [], vs, fz, hc => by cases hc; simp
  | x :: xs, vs, fz, hc => by
    unfold captures at hc
    split at hc
    · cases hc
    · rename_i vs' fz' hxs
      have ih := captures_tmps hxs
      have up : ∀ p ∈ fz', p.1 ∈ tmpsOf (x :: xs) := fun p hp => by
        obtain ⟨y, hy, he⟩ := List.mem_filterMap.1 (ih p hp)
        exact List.mem_filterMap.2 ⟨y, List.mem_cons_of_mem _ hy, he⟩
      split at hc
      · rename_i s ver cs ow hs
        split at hc
        · cases hc
        · cases hc
          intro p hp
          rcases List.mem_cons.1 hp with rfl | hp
          · simp [tmpsOf]
          · exact up p hp
      · rename_i sl _ hs
        cases hv : sl.value? with
        | none => rw [hv] at hc; cases hc
        | some u => rw [hv] at hc; cases hc; exact up
      · cases hc

theorem op_only {o : Oper} {r : OpR} (hc : classify C fid ops σ o = some r) (hd : r.does C run (σ.drop r.news) h σ' h') : Only (opWrites ops o) σ σ' := by
  have hdst : ∀ s ∈ o.dst.toList, s ∈ opWrites ops o := fun s hs => List.mem_append_left _ hs
  have hwf : (∀ s ∈ r.wf, s ∈ opWrites ops o) → Only (opWrites ops o) σ σ' := only_of_wf hd
  have hdd : r.wf = o.dst.toList → Only (opWrites ops o) σ σ' := fun e => hwf (by rw [e]; exact hdst)
  have haop : ∀ {p x}, aop p o.dst x = some r → Only (opWrites ops o) σ σ' := fun {p x} he => by
    obtain ⟨args, _, rfl⟩ := aop_some he
    exact hdd (by simp [OpR.wf])
  unfold classify at hc
  split at hc
  · rename_i x ho
    split at hc
    · rename_i d hdo
      refine hwf fun s hs => ?_
      rcases moveOp_wf hc s hs with rfl | ⟨ht, rfl⟩
      · exact hdst s (by rw [hdo]; simp)
      · refine List.mem_append_right _ ?_
        simp [ho, hdo, ht]
    · cases hc
  · rename_i x ho
    split at hc
    · rename_i d hdo
      refine hwf fun s hs => ?_
      rcases moveOp_wf hc s hs with rfl | ⟨ht, rfl⟩
      · exact hdst s (by rw [hdo]; simp)
      · refine List.mem_append_right _ ?_
        simp [ho]
    · cases hc
  · rename_i c x y ho
    split at hc
    · rename_i d _ hdo
      refine hwf fun s hs => ?_
      rcases moveOp_wf hc s hs with rfl | ⟨ht, rfl⟩
      · exact hdst s (by rw [hdo]; simp)
      · cases ht
    · rename_i d _ hdo
      refine hwf fun s hs => ?_
      rcases moveOp_wf hc s hs with rfl | ⟨ht, rfl⟩
      · exact hdst s (by rw [hdo]; simp)
      · cases ht
    · exact haop hc
  · split at hc
    · rename_i d z hdo hz
      split at hc
      · split at hc
        · cases hc; exact hdd (by rw [hdo]; rfl)
        · cases hc
      · exact hdd (by rw [boxOp_wf hc, hdo]; rfl)
    · cases hc
  · split at hc
    · rename_i d v hdo hz
      exact hdd (by rw [boxOp_wf hc, hdo]; rfl)
    · cases hc
  · split at hc
    · split at hc
      · exact haop hc
      · cases hc
    · cases hc
  · split at hc
    · split at hc
      · split at hc
        · cases ha : opVals C σ _ with
          | none => rw [ha] at hc; cases hc
          | some args => rw [ha] at hc; cases hc; exact hdd (by simp [OpR.wf])
        · cases hc
      · cases hc
    · cases hc
  · split at hc
    · rename_i d hdo
      unfold loadOp at hc
      split at hc
      · cases hc; exact hdd (by rw [hdo]; rfl)
      · rename_i s off ver cs ow ht ha
        split at hc
        · simp only at hc
          split at hc
          · cases hc
            rw [noNews (by simp)] at hd
            obtain ⟨rfl, rfl⟩ := hd
            have hs : σ.at s = .box ver cs ow := by
              unfold addrOf at ha
              split at ha
              · rename_i hs; cases ha; exact opSlot_tmp hs
              · split at ha
                · rename_i hb; cases ha; exact hb
                · cases ha
              · exact absurd ha (by cases hv : Slot.value? _ <;> simp)
              · cases ha
            refine ⟨by simp [Env.drop, Env.puts], fun t htW => ?_⟩
            have htd : t ≠ d := fun e => htW (hdst t (by rw [hdo, e]; simp))
            have hls : s < σ.length := Env.at_lt (by rw [hs]; simp)
            show Kpt (σ.at t) (Env.at ((σ.set s _).set d _) t)
            rw [Env.at_set_ne (fun e => htd e.symm)]
            by_cases hts : s = t
            · subst hts
              rw [Env.at_set_self hls, hs]
              exact ⟨_, _, _, rfl, Nat.le_succ _, fun e => absurd e (by omega)⟩
            · rw [Env.at_set_ne hts]; exact .refl _
          · cases hc; exact hdd (by rw [hdo]; rfl)
        · cases hc
      · split at hc
        · cases hc; exact hdd (by rw [hdo]; rfl)
        · cases hc
      · cases hc
    · cases hc
  · rename_i t x y ho
    split at hc
    · rename_i hdo
      unfold storeOp at hc
      split at hc
      · cases hc; exact hwf (by simp [OpR.wf])
      · rename_i m sh s off ver cs ow v hsz hsh ha hv
        split at hc
        · cases hc
          obtain ⟨_, rfl, rfl⟩ := hd
          have hs : σ.at s = .box ver cs ow := by
            unfold addrOf at ha
            split at ha
            · rename_i hs; cases ha; exact opSlot_tmp hs
            · split at ha
              · rename_i hb; cases ha; exact hb
              · cases ha
            · exact absurd ha (by cases hv : Slot.value? _ <;> simp)
            · cases ha
          have hdem : ∀ (D : Option (Nat × AVal)), (∀ p, D = some p → p.1 ∈ opWrites ops o ∧ p.1 ≠ s) → ∀ X : List AVal × List Nat, Only (opWrites ops o) σ ((σ.demote D).set s (.box (ver + 1) X.1 X.2)) := by
            intro D hD X
            refine ⟨by cases D <;> simp [Env.demote], fun t htW => ?_⟩
            have hlen : s < (σ.demote D).length := by
              have : s < σ.length := Env.at_lt (by rw [hs]; simp)
              cases D <;> simpa [Env.demote] using this
            by_cases hts : s = t
            · subst hts
              rw [Env.at_set_self hlen, hs]
              exact ⟨_, _, _, rfl, Nat.le_succ _, fun e => absurd e (by omega)⟩
            · rw [Env.at_set_ne hts]
              cases D with
              | none => exact .refl _
              | some p =>
                obtain ⟨k1, k2⟩ := hD p rfl
                simp only [Env.demote]
                rw [Env.at_set_ne (fun e => htW (by rw [← e]; exact k1))]
                exact .refl _
          refine hdem _ (fun p hp => ?_) (_, _)
          split at hp
          · have hy := demoteOf_tmp hp
            subst hy
            refine ⟨List.mem_append_right _ (by simp [ho]), fun e => ?_⟩
            simp only [demoteOf] at hp
            rw [e, hs] at hp
            cases hp
          · cases hp
        · cases hc
      · cases hc
    · cases hc
  · split at hc
    · rename_i hdo _ _
      cases hc; exact hdd (by rw [hdo]; rfl)
    · rename_i hdo _ _
      cases hc; exact hdd (by rw [hdo]; rfl)
    · exact haop hc
  · split at hc
    · exact haop hc
    · cases hc
  · exact haop hc
  · split at hc
    · cases hv : opVal C σ _ with
      | none => rw [hv] at hc; cases hc
      | some v => rw [hv] at hc; cases hc; exact hdd rfl
    · split at hc
      · cases hv : opVal C σ _ with
        | none => rw [hv] at hc; cases hc
        | some v => rw [hv] at hc; cases hc; exact hdd rfl
      · exact haop hc
    · exact haop hc
    · cases hc
  · rename_i fn first captured ho
    split at hc
    · rename_i d as bs fz hdo ha hb
      cases hc
      refine hwf fun s hs => ?_
      simp only [OpR.wf, List.mem_cons] at hs
      rcases hs with rfl | hs
      · exact hdst s (by rw [hdo]; simp)
      · obtain ⟨p, hp, rfl⟩ := List.mem_map.1 hs
        refine List.mem_append_right _ ?_
        simp only [ho]
        exact captures_tmps hb p hp
    · cases hc
  · cases hc; exact hdd rfl
  · split at hc
    · split at hc
      · cases hc; exact hdd rfl
      · cases hc
    · cases hc
  · split at hc
    · split at hc
      · cases hc; exact hwf (by simp [OpR.wf])
      · cases hc
    · cases hc
  · split at hc
    · split at hc
      · cases hc; exact hwf (by simp [OpR.wf])
      · cases hc
    · cases hc
  · split at hc
    · split at hc
      · cases hc; exact hdd rfl
      · cases hc
    · cases hc
  · split at hc
    · exact haop hc
    · split at hc
      · exact haop hc
      · cases hc
    · cases hc
  · split at hc
    · rename_i off sh d hf hdo
      split at hc
      · cases hc; exact hdd (by rw [hdo]; rfl)
      · cases hc; exact hdd (by rw [hdo]; rfl)
      · exact haop (by rw [hdo]; exact hc)
    · cases hc
  · split at hc
    · exact haop hc
    · cases hc
  · split at hc
    · split at hc
      · exact haop hc
      · cases hc
    · split at hc
      · split at hc
        · cases hc
        · exact haop hc
      · cases hc
    · cases hc
  · split at hc
    · exact haop hc
    · split at hc
      · exact haop hc
      · cases hc
    · cases hc
  · exact haop hc
  · rename_i c ho
    unfold callOp at hc
    split at hc
    · split at hc
      · split at hc
        · exact haop hc
        · exact haop hc
        · cases hc
      · cases hc
    · rename_i hcl
      split at hc
      · rename_i t t' s x h0 h1 hargs
        have hdem : ∀ p, demoteOf σ s = some p → p.1 ∈ opWrites ops o := fun p hp => by
          have := demoteOf_tmp hp
          subst this
          refine List.mem_append_right _ ?_
          simp only [ho, hcl, hargs]
          simp [tmpsOf]
        split at hc
        all_goals first
          | (cases hc; done)
          | (split at hc
             · split at hc
               · split at hc
                 · split at hc
                   · cases hc
                     refine hwf fun q hq => ?_
                     simp only [OpR.wf, List.mem_append] at hq
                     rcases hq with hq | hq
                     · exact hdst q hq
                     · cases hds : demoteOf σ s with
                       | none => rw [hds] at hq; simp at hq
                       | some p => rw [hds] at hq; simp at hq; rw [hq]; exact hdem p hds
                   · cases hc
                     refine hwf fun q hq => ?_
                     simp only [OpR.wf, List.mem_append] at hq
                     rcases hq with hq | hq
                     · exact hdst q hq
                     · cases hds : demoteOf σ s with
                       | none => rw [hds] at hq; simp at hq
                       | some p => rw [hds] at hq; simp at hq; rw [hq]; exact hdem p hds
                 · cases hc
               · cases hc
             · cases hc)
      · cases hc
    · split at hc
      · exact haop hc
      · cases hc
    · split at hc
      · exact haop hc
      · cases hc
    · cases ha : opVals C σ c.args.toList with
      | none => rw [ha] at hc; cases hc
      | some args =>
        rw [ha] at hc
        simp only [Option.map_some, Option.some.injEq] at hc
        split at hc <;> (cases hc; exact hdd rfl)
    · split at hc
      · cases hc; exact hdd rfl
      · cases hc
    · cases hc
  · cases hc
end
end Go.Am
