/-
  Simulation of operations, third part: comparisons. No law is claimed here.
-/
import Derived.Test.YtejpjabbdkpmiaaDoorAm9
set_option linter.unusedSimpArgs false
set_option linter.unusedVariables false
namespace Go.Am
open Go

theorem flatEq_b {x y : AVal} {b : Bool} (h : flatEq .b x y = some b) : ∃ p q, x = .bool p ∧ y = .bool q ∧ (p == q) = b := by
  unfold flatEq at h
  split at h <;> first | cases h; done | (rename_i he; cases he; done) | (cases h; exact ⟨_, _, rfl, rfl, rfl⟩)

theorem flatEq_i {x y : AVal} {b : Bool} (h : flatEq .i x y = some b) : ∃ k p q, x = .int k p ∧ y = .int k q ∧ (p == q) = b := by
  unfold flatEq at h
  split at h
  · rename_i he; cases he
  · split at h
    · rename_i hk; subst hk; cases h; exact ⟨_, _, _, rfl, rfl, rfl⟩
    · cases h
  · rename_i he; cases he
  · cases h

theorem flatEq_s {x y : AVal} {b : Bool} (h : flatEq .s x y = some b) : ∃ p q, x = .str p ∧ y = .str q ∧ (p == q) = b := by
  unfold flatEq at h
  split at h
  · rename_i he; cases he
  · rename_i he; cases he
  · cases h; exact ⟨_, _, rfl, rfl, rfl⟩
  · cases h

theorem flatEqs_append : ∀ {ks ks' : List FK} {xs ys : List AVal} {b : Bool}, flatEqs (ks ++ ks') xs ys = some b →
    ∃ b1 b2, flatEqs ks (xs.take ks.length) (ys.take ks.length) = some b1 ∧ flatEqs ks' (xs.drop ks.length) (ys.drop ks.length) = some b2 ∧ b = (b1 && b2)
  | [], ks', xs, ys, b, h => ⟨true, b, by simp [flatEqs], by simpa using h, by simp⟩
  | k :: ks, ks', [], ys, b, h => by cases ys <;> simp [flatEqs] at h
  | k :: ks, ks', x :: xs, [], b, h => by simp [flatEqs] at h
  | k :: ks, ks', x :: xs, y :: ys, b, h => by
    simp only [List.cons_append, flatEqs] at h
    split at h
    · rename_i e es h1 h2
      cases h
      obtain ⟨b1, b2, p, q, r⟩ := flatEqs_append h2
      refine ⟨e && b1, b2, ?_, by simpa using q, by rw [r, Bool.and_assoc]⟩
      simp only [List.length_cons, List.take_succ_cons, flatEqs, h1, p]
    · cases h

theorem flatEqs_length : ∀ {ks : List FK} {xs ys : List AVal} {b : Bool}, flatEqs ks xs ys = some b → xs.length = ks.length ∧ ys.length = ks.length
  | [], xs, ys, b, h => by cases xs <;> cases ys <;> simp [flatEqs] at h ⊢
  | k :: ks, xs, ys, b, h => by
    cases xs <;> cases ys <;> simp [flatEqs] at h
    split at h
    · rename_i h1 h2
      obtain ⟨p, q⟩ := flatEqs_length h2
      simp [p, q]
    · cases h

section
variable {P : Program} {γ : Gh} {w : World}

theorem flat_size : ∀ {d : Nat} {t : TypeId} {ks : List FK}, flatK P d t = some ks → tySize P t = some ks.length
  | 0, t, ks, h => by cases h
  | d + 1, t, ks, h => by
    simp only [flatK] at h
    split at h
    · split at h <;> cases h; assumption
    · split at h <;> cases h; assumption
    · split at h <;> cases h; assumption
    · split at h
      · split at h
        · rename_i hc; cases h; exact hc.1
        · cases h
      · cases h
    · cases h

theorem one_of {ks : List FK} {k : FK} {t : TypeId} (h : (if tySize P t = some 1 then some [k] else none) = some ks) : ks = [k] := by
  split at h <;> cases h; rfl

theorem run_part_scalar {t : TypeId} {us : Array Value} {off : Nat} {v : Value} {d : TypeDesc} (hu : P.underlying t = some d) (h1 : ∀ fs, d ≠ .struct fs) (h2 : ∀ n e, d ≠ .array n e) (hv : us[off]? = some v) :
    (part t us off).run P w = .ok v w := by
  have ha : (isAgg t).run P w = .ok false w := by
    simp only [isAgg, Sem.run_bind, run_underlying hu, Result.andThen_ok]
    cases d <;> first | rfl | exact absurd rfl (h1 _) | exact absurd rfl (h2 _ _)
  simp [part, ha, hv]

theorem get_of_take {l : List AVal} {off : Nat} {x : AVal} (h : (l.drop off).take 1 = [x]) : l[off]? = some x := by
  have := congrArg (·[0]?) h
  simpa using this

theorem flat_one {k : FK} {xs ys : List AVal} {b : Bool} (h : flatEqs [k] xs ys = some b) : ∃ x y, xs = [x] ∧ ys = [y] ∧ flatEq k x y = some b := by
  cases xs <;> cases ys <;> simp [flatEqs] at h
  rename_i x xs y ys
  cases xs <;> cases ys <;> simp [flatEqs] at h
  all_goals first
    | (split at h
       · rename_i e es h1 h2; cases h2; cases h; exact ⟨x, y, rfl, rfl, by simpa using h1⟩
       · cases h)
    | (split at h <;> simp_all)

mutual
theorem run_flat : ∀ {d D : Nat}, d ≤ D → ∀ {t : TypeId} {ks : List FK}, flatK P d t = some ks → ∀ (us vs : Array Value) (cs ds : List AVal) (off : Nat) (b : Bool), VRelV γ cs us.toList → VRelV γ ds vs.toList →
    flatEqs ks ((cs.drop off).take ks.length) ((ds.drop off).take ks.length) = some b →
    ∃ x y, (part t us off).run P w = .ok x w ∧ (part t vs off).run P w = .ok y w ∧ (Op.equalIn D t x y).run P w = .ok b w
  | 0, _, _, _, _, h => by cases h
  | d + 1, 0, hd, _, _, _ => by omega
  | d + 1, D + 1, hd, t, ks, h => by
    intro us vs cs ds off b hu hv he
    have hsz := flat_size h
    simp only [flatK] at h
    split at h
    · rename_i hty
      have := one_of h; subst this
      obtain ⟨x, y, e1, e2, e3⟩ := flat_one he
      obtain ⟨x', p1, p2⟩ := hu.get (get_of_take e1)
      obtain ⟨y', q1, q2⟩ := hv.get (get_of_take e2)
      refine ⟨x', y', run_part_scalar hty (by simp) (by simp) (by simpa using p1), run_part_scalar hty (by simp) (by simp) (by simpa using q1), ?_⟩
      obtain ⟨x1, y1, rfl, rfl, e4⟩ := flatEq_b e3
      rw [p2, q2, run_equalIn_bool' w D t _ _ hty, ← e4]
    · rename_i kk hty
      have := one_of h; subst this
      obtain ⟨x, y, e1, e2, e3⟩ := flat_one he
      obtain ⟨x', p1, p2⟩ := hu.get (get_of_take e1)
      obtain ⟨y', q1, q2⟩ := hv.get (get_of_take e2)
      refine ⟨x', y', run_part_scalar hty (by simp) (by simp) (by simpa using p1), run_part_scalar hty (by simp) (by simp) (by simpa using q1), ?_⟩
      obtain ⟨k1, x1, y1, rfl, rfl, e4⟩ := flatEq_i e3
      rw [p2, q2, run_equalIn_int w D t _ _ _ _ hty, ← e4]
    · rename_i hty
      have := one_of h; subst this
      obtain ⟨x, y, e1, e2, e3⟩ := flat_one he
      obtain ⟨x', p1, p2⟩ := hu.get (get_of_take e1)
      obtain ⟨y', q1, q2⟩ := hv.get (get_of_take e2)
      refine ⟨x', y', run_part_scalar hty (by simp) (by simp) (by simpa using p1), run_part_scalar hty (by simp) (by simp) (by simpa using q1), ?_⟩
      obtain ⟨x1, y1, rfl, rfl, e4⟩ := flatEq_s e3
      rw [p2, q2, run_equalIn_string w D t _ _ hty, data_mk, data_mk, ← e4]
    · rename_i fs hty
      split at h
      · rename_i ks' hfs
        split at h
        · rename_i hc
          cases h
          have hsh : tyShape P t = some (some ks.length) := by simp [tyShape, hty, hsz]
          obtain ⟨ha, hs⟩ := isAgg_some (w := w) hsh
          refine ⟨.agg (us.extract off (off + ks.length)), .agg (vs.extract off (off + ks.length)), by simp [part, ha, run_sizeOf hs], by simp [part, ha, run_sizeOf hs], ?_⟩
          have hty' : P.underlying t = some (.struct (P.fieldsOf t)) := by simp [Program.fieldsOf, hty]
          rw [run_equalIn_struct w D t _ _ hty' hc.2]
          have hf : (P.fieldsOf t).toList = fs.toList := by simp [Program.fieldsOf, hty]
          rw [hf]
          have hu' : VRelV γ ((cs.drop off).take ks.length) (us.extract off (off + ks.length)).toList := by
            have := (hu.drop off).take ks.length
            simpa [Array.toList_extract, List.extract_eq_take_drop] using this
          have hv' : VRelV γ ((ds.drop off).take ks.length) (vs.extract off (off + ks.length)).toList := by
            have := (hv.drop off).take ks.length
            simpa [Array.toList_extract, List.extract_eq_take_drop] using this
          refine run_flats (Nat.le_of_succ_le_succ hd) fs.toList hfs _ _ _ _ _ hu' hv' ?_
          simpa using he
        · cases h
      · cases h
    · cases h
theorem run_flats : ∀ {d D : Nat}, d ≤ D → ∀ (fs : List Field) {off : Nat} {ks : List FK}, flatFs (flatK P d) fs off = some ks → ∀ (us vs : Array Value) (cs ds : List AVal) (b : Bool), VRelV γ cs us.toList → VRelV γ ds vs.toList →
    flatEqs ks (cs.drop off) (ds.drop off) = some b → (Op.eqFields D us vs fs).run P w = .ok b w
  | d, D, hd, [], off, ks, h => by
    intro us vs cs ds b hu hv he
    cases h
    have : b = true := by
      cases h1 : cs.drop off <;> cases h2 : ds.drop off <;> rw [h1, h2] at he <;> simp [flatEqs] at he
      exact he
    subst this
    rfl
  | d, D, hd, f :: fs, off, ks, h => by
    intro us vs cs ds b hu hv he
    simp only [flatFs] at h
    split at h
    · rename_i hc
      obtain ⟨hn, hoff⟩ := hc
      split at h
      · rename_i ks1 hk1
        cases hr : flatFs (flatK P d) fs (off + ks1.length) with
        | none => rw [hr] at h; cases h
        | some ks2 =>
          rw [hr] at h; cases h
          obtain ⟨b1, b2, e1, e2, rfl⟩ := flatEqs_append he
          obtain ⟨x, y, p1, p2, p3⟩ := run_flat hd hk1 _ _ _ _ _ _ hu hv e1
          simp only [Op.eqFields, hn, ne_eq, not_false_eq_true, if_true, hoff, Sem.run_bind, p1, p2, p3, Result.andThen_ok]
          cases b1
          · rfl
          · simp only [Bool.not_true, Bool.false_eq_true, if_false, Bool.true_and]
            exact run_flats hd fs hr _ _ _ _ _ hu hv (by simpa [List.drop_drop] using e2)
      · cases h
    · cases h
end

theorem run_pop_geq {op : BinOp} {t : TypeId} {ox oy : Operand} {neg : Bool} {ks : List FK} {a b : List AVal} {x y : Value} {u : AVal} (hop : (op = .eql ∧ neg = false) ∨ (op = .neq ∧ neg = true))
    (hg : P.eqGuardType P.depth t = false) (hk : flatK P 20 t = some ks) (hst : ∃ fs, P.underlying t = some (.struct fs)) (hx : VRel γ (.agg a) x) (hy : VRel γ (.agg b) y) (h : (flatEqs ks a b).map (fun e => AVal.bool (e != neg)) = some u) :
    ∃ v, (do eqGuard op t ox oy x y; binOp op t x y : Sem Value).run P w = .ok v w ∧ VRel γ u v := by
  obtain ⟨us, rfl, hu, _⟩ := hx
  obtain ⟨vs, rfl, hv, _⟩ := hy
  cases he : flatEqs ks a b with
  | none => rw [he] at h; cases h
  | some e =>
    rw [he] at h; cases h
    obtain ⟨l1, l2⟩ := flatEqs_length he
    obtain ⟨x', y', p1, p2, p3⟩ := run_flat (w := w) (P := P) (γ := γ) (D := 10000) (by omega : 20 ≤ 10000) hk us vs a b 0 e hu hv (by rw [List.drop_zero, List.drop_zero, List.take_of_length_le (Nat.le_of_eq l1), List.take_of_length_le (Nat.le_of_eq l2)]; exact he)
    obtain ⟨fs, hfs⟩ := hst
    have hsh : tyShape P t = some (some ks.length) := by simp [tyShape, hfs, flat_size hk]
    obtain ⟨ha, hs⟩ := isAgg_some (w := w) hsh
    have e1 : us.extract 0 ks.length = us := by
      have : us.size = ks.length := by have := hu.length; simp at this; omega
      rw [← this]; simp
    have e2 : vs.extract 0 ks.length = vs := by
      have : vs.size = ks.length := by have := hv.length; simp at this; omega
      rw [← this]; simp
    have q1 : x' = .agg us := by
      simp [part, ha, run_sizeOf hs, e1] at p1; exact p1.symm
    have q2 : y' = .agg vs := by
      simp [part, ha, run_sizeOf hs, e2] at p2; exact p2.symm
    subst q1; subst q2
    rcases hop with ⟨rfl, rfl⟩ | ⟨rfl, rfl⟩
    · refine ⟨.bool e, by simp [run_eqGuard_agg (P := P) w .eql t ox oy us vs hg, run_eql_struct, p3], ?_⟩
      show Value.bool e = Value.bool _
      cases e <;> rfl
    · refine ⟨.bool (!e), by simp [run_eqGuard_agg (P := P) w .neq t ox oy us vs hg, run_neq_struct, p3], ?_⟩
      show Value.bool _ = Value.bool _
      cases e <;> rfl
end
end Go.Am
