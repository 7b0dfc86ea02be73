/-
  Simulation of operations, ninth part: which operation a classified one is. No law is claimed here.
-/
import Derived.Test.YtejpjabbdkpmiaaDoorAm15
set_option linter.unusedSimpArgs false
set_option linter.unusedVariables false
namespace Go.Am
open Go

section
variable {C : Ctx} {γ0 γ : Gh} {w0 w : World} {β : Nat → Nat} {σ : Env} {h : AHeap} {a : Act} {fid : FuncId} {ops : List Oper}

theorem moveOp_pure {x : Operand} {d : Nat} {take : Bool} {r : OpR} (h : moveOp C σ x d take = some r) : ∃ ws, r = .pure ws := by
  unfold moveOp at h
  split at h
  · cases h; exact ⟨_, rfl⟩
  · cases h; exact ⟨_, rfl⟩
  · split at h
    · cases h; exact ⟨_, rfl⟩
    · cases hc : copySlot _ with
      | none => rw [hc] at h; cases h
      | some s => rw [hc] at h; cases h; exact ⟨_, rfl⟩
  · cases hc : copySlot _ with
    | none => rw [hc] at h; cases h
    | some s => rw [hc] at h; cases h; exact ⟨_, rfl⟩
  · cases h

theorem boxOp_not {t : TypeId} {v : AVal} {d : Nat} {p : POp} {args : List AVal} {dst : Option Nat} {own : Bool} {dem : Option (Nat × AVal)} : boxOp C fid t v d ≠ some (.op p args dst own dem) := by
  unfold boxOp
  intro h
  split at h
  · cases h
  · split at h
    · cases h
    · split at h <;> cases h

theorem loadOp_not {t : TypeId} {x : Operand} {d : Nat} {take : Bool} {p : POp} {args : List AVal} {dst : Option Nat} {own : Bool} {dem : Option (Nat × AVal)} : loadOp C σ t x d take ≠ some (.op p args dst own dem) := by
  unfold loadOp
  intro h
  split at h
  · cases h
  · split at h
    · simp only at h; split at h <;> cases h
    · cases h
  · split at h <;> cases h
  · cases h

theorem storeOp_not {t : TypeId} {x y : Operand} {p : POp} {args : List AVal} {dst : Option Nat} {own : Bool} {dem : Option (Nat × AVal)} : storeOp C σ t x y ≠ some (.op p args dst own dem) := by
  unfold storeOp
  intro h
  split at h
  · cases h
  · split at h <;> cases h
  · cases h

theorem sim_still {o : Oper} {p : POp} {args : List AVal} {dst : Option Nat} {own : Bool} {dem : Option (Nat × AVal)} (hc : classify C fid ops σ o = some (.op p args dst own dem)) (hst : p.still = true) (hr : Rel C γ0 w0 γ β σ h a w) :
    Stills C.P γ a o w p args ∧ dst = o.dst ∧ own = false ∧ dem = none := by
  unfold classify at hc
  split at hc
  · split at hc
    · obtain ⟨ws, e⟩ := moveOp_pure hc; cases e
    · cases hc
  · split at hc
    · obtain ⟨ws, e⟩ := moveOp_pure hc; cases e
    · cases hc
  · rename_i c x y ho
    split at hc
    · obtain ⟨ws, e⟩ := moveOp_pure hc; cases e
    · obtain ⟨ws, e⟩ := moveOp_pure hc; cases e
    · obtain ⟨as, e1, e2⟩ := aop_some hc
      cases e2
      exact ⟨still_pick ho hr e1, rfl, rfl, rfl⟩
  · split at hc
    · split at hc
      · split at hc <;> cases hc
      · exact absurd hc boxOp_not
    · cases hc
  · split at hc
    · exact absurd hc boxOp_not
    · cases hc
  · rename_i t parts ho
    split at hc
    · rename_i z ps hz hp
      split at hc
      · rename_i hb
        obtain ⟨as, e1, e2⟩ := aop_some hc
        cases e2
        exact ⟨still_build hz hp hb (by simp [execOp, ho]) hr e1, rfl, rfl, rfl⟩
      · cases hc
    · cases hc
  · split at hc
    · split at hc
      · split at hc
        · cases hq : opVals C σ _ with
          | none => rw [hq] at hc; cases hc
          | some q => rw [hq] at hc; cases hc; cases hst
        · cases hc
      · cases hc
    · cases hc
  · split at hc
    · exact absurd hc loadOp_not
    · cases hc
  · split at hc
    · exact absurd hc storeOp_not
    · cases hc
  · rename_i x ho
    split at hc
    · cases hc
    · cases hc
    · obtain ⟨as, e1, e2⟩ := aop_some hc
      cases e2
      exact ⟨still_nonnil ho hr e1, rfl, rfl, rfl⟩
  · rename_i op t x y k ho
    split at hc
    · rename_i q hq
      obtain ⟨as, e1, e2⟩ := aop_some hc
      cases e2
      exact ⟨still_bin hq (by simp [execOp, ho]) hr e1, rfl, rfl, rfl⟩
    · cases hc
  · rename_i op t x ho
    obtain ⟨as, e1, e2⟩ := aop_some hc
    cases e2
    exact ⟨still_un (by simp [execOp, ho]) hr e1, rfl, rfl, rfl⟩
  · rename_i src dst' x ho
    split at hc
    · cases hq : opVal C σ x with
      | none => rw [hq] at hc; cases hc
      | some q => rw [hq] at hc; cases hc
    · split at hc
      · cases hq : opVal C σ x with
        | none => rw [hq] at hc; cases hc
        | some q => rw [hq] at hc; cases hc
      · obtain ⟨as, e1, e2⟩ := aop_some hc
        cases e2; cases hst
    · rename_i q hn1 hn2 hq
      obtain ⟨as, e1, e2⟩ := aop_some hc
      cases e2
      refine ⟨?_, rfl, rfl, rfl⟩
      unfold convOp at hq
      split at hq
      · rename_i hs hd
        cases hq
        exact still_conv hs hd (by simp [execOp, ho]) hr e1
      · cases hq
      · split at hq
        · cases hq; cases hst
        · cases hq
      · split at hq
        · cases hq; cases hst
        · cases hq
      · cases hq
    · cases hc
  · split at hc
    · cases hc
    · cases hc
  · cases hc
  · split at hc
    · split at hc <;> cases hc
    · cases hc
  · split at hc
    · split at hc <;> cases hc
    · cases hc
  · split at hc
    · split at hc <;> cases hc
    · cases hc
  · split at hc
    · split at hc <;> cases hc
    · cases hc
  · rename_i t x lo hi ho
    split at hc
    · rename_i ht
      obtain ⟨as, e1, e2⟩ := aop_some hc
      cases e2
      exact ⟨still_slice (isStr := true) ht (by simp [execOp, ho]) hr e1, rfl, rfl, rfl⟩
    · rename_i e ht
      split at hc
      · rename_i n hn
        obtain ⟨as, e1, e2⟩ := aop_some hc
        cases e2
        exact ⟨still_slice (isStr := false) ⟨e, ht, hn⟩ (by simp [execOp, ho]) hr e1, rfl, rfl, rfl⟩
      · cases hc
    · cases hc
  · rename_i t x f ho
    split at hc
    · rename_i off sh d hf hd
      split at hc
      · cases hc
      · cases hc
      · obtain ⟨as, e1, e2⟩ := aop_some hc
        cases e2
        exact ⟨still_fieldAddr hf (by simp [execOp, ho]) hr e1, hd.symm, rfl, rfl⟩
    · cases hc
  · rename_i t x f ho
    split at hc
    · rename_i off sh hf
      obtain ⟨as, e1, e2⟩ := aop_some hc
      cases e2
      exact ⟨still_field hf (by simp [execOp, ho]) hr e1, rfl, rfl, rfl⟩
    · cases hc
  · rename_i t x i ho
    split at hc
    · rename_i e ht
      split at hc
      · rename_i n hn
        obtain ⟨as, e1, e2⟩ := aop_some hc
        cases e2
        exact ⟨still_elemAddr ht hn (by simp [execOp, ho]) hr e1, rfl, rfl, rfl⟩
      · cases hc
    · rename_i len e ht
      split at hc
      · rename_i n hn
        split at hc
        · cases hc
        · obtain ⟨as, e1, e2⟩ := aop_some hc
          cases e2
          exact ⟨still_arrAddr ht hn (by simp [execOp, ho]) hr e1, rfl, rfl, rfl⟩
      · cases hc
    · cases hc
  · rename_i t x i ho
    split at hc
    · rename_i ht
      obtain ⟨as, e1, e2⟩ := aop_some hc
      cases e2
      exact ⟨still_index_str ht (by simp [execOp, ho]) hr e1, rfl, rfl, rfl⟩
    · rename_i len e ht
      split at hc
      · rename_i n sh hn hsh
        obtain ⟨as, e1, e2⟩ := aop_some hc
        cases e2
        exact ⟨still_index_arr ht hn hsh (by simp [execOp, ho]) hr e1, rfl, rfl, rfl⟩
      · cases hc
    · cases hc
  · rename_i x i ho
    obtain ⟨as, e1, e2⟩ := aop_some hc
    cases e2
    exact ⟨still_ext (by simp [execOp, ho]) hr e1, rfl, rfl, rfl⟩
  · rename_i c ho
    unfold callOp at hc
    split at hc
    · rename_i hcl
      split at hc
      · rename_i t h0
        split at hc
        · rename_i ht
          obtain ⟨as, e1, e2⟩ := aop_some hc
          cases e2
          exact ⟨still_len (isStr := true) ho hcl h0 ht hr e1, rfl, rfl, rfl⟩
        · rename_i e ht
          obtain ⟨as, e1, e2⟩ := aop_some hc
          cases e2
          exact ⟨still_len (isStr := false) ho hcl h0 ⟨e, ht⟩ hr e1, rfl, rfl, rfl⟩
        · cases hc
      · cases hc
    · split at hc
      · split at hc
        all_goals first
          | (cases hc; done)
          | (split at hc
             · split at hc
               · split at hc
                 · split at hc
                   · cases hc
                   · cases hc; cases hst
                 · cases hc
               · cases hc
             · cases hc)
      · cases hc
    · rename_i hcl
      split at hc
      · obtain ⟨as, e1, e2⟩ := aop_some hc
        cases e2
        exact ⟨still_minmax (isMax := true) ho hcl hr e1, rfl, rfl, rfl⟩
      · cases hc
    · rename_i hcl
      split at hc
      · obtain ⟨as, e1, e2⟩ := aop_some hc
        cases e2
        exact ⟨still_minmax (isMax := false) ho hcl hr e1, rfl, rfl, rfl⟩
      · cases hc
    · cases hq : opVals C σ c.args.toList with
      | none => rw [hq] at hc; cases hc
      | some q =>
        rw [hq] at hc
        simp only [Option.map_some, Option.some.injEq] at hc
        split at hc <;> cases hc
    · split at hc <;> cases hc
    · cases hc
  · cases hc
end
end Go.Am
