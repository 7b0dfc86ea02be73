/-
  StackFirst and StackUndoes as the abstract machine runs them: they return true. No law is claimed here.
-/
import Derived.Test.YtejpjabbdkpmiaaDoorLPlays
namespace Go.Am
open Go
set_option maxRecDepth 100000
set_option linter.unusedSimpArgs false
set_option linter.unusedVariables false

theorem itemAt_zero {a : Item} {w : List Item} : itemAt (a :: w) 0 = a := rfl
/-- An operation leaves the first item, and only Push and Insert make the stack longer. -/
theorem doS_first (x : SOp) (a : Item) (w : List Item) : ∃ w', (doS x (a :: w)).2.2 = a :: w' ∧ ((x.kind = 1 ∨ x.kind = 10) → w'.length = w.length + 1) ∧ (¬ (x.kind = 1 ∨ x.kind = 10) → w'.length ≤ w.length) := by
  rcases doS_cases x (a :: w) with ⟨n, h0, e, hk⟩ | ⟨hk, k, b, h0, hkl, _, e⟩ | ⟨k, h0, hkl, e, hk⟩ | ⟨k, b, h0, hkl, _, e, hk⟩ <;> rw [e]
  · obtain ⟨m, rfl⟩ : ∃ m, n = m + 1 := ⟨n - 1, by omega⟩
    refine ⟨w.take m, by simp, fun h => absurd h hk, fun _ => by rw [List.length_take]; omega⟩
  · have h0 : 1 ≤ k := by rcases h0 with h0 | h0; exact h0; cases h0
    obtain ⟨m, rfl⟩ : ∃ m, k = m + 1 := ⟨k - 1, by omega⟩
    rw [List.length_cons] at hkl
    refine ⟨w.take m ++ b :: w.drop m, by simp, fun _ => ?_, fun h => absurd hk h⟩
    rw [List.length_append, List.length_take, List.length_cons, List.length_drop]; omega
  · obtain ⟨m, rfl⟩ : ∃ m, k = m + 1 := ⟨k - 1, by omega⟩
    rw [List.length_cons] at hkl
    refine ⟨w.take m ++ w.drop (m + 1), by simp [dropAt], fun h => absurd h hk, fun _ => ?_⟩
    rw [List.length_append, List.length_take, List.length_drop]; omega
  · obtain ⟨m, rfl⟩ : ∃ m, k = m + 1 := ⟨k - 1, by omega⟩
    refine ⟨w.set m b, by simp, fun h => absurd h hk, fun _ => by rw [List.length_set]; omega⟩

theorem ev_first (a : Item) {v : AVal} {l : List SOp} (hv : IsSl 8 (l.map SOp.row) v) (hok : ∀ x ∈ l, x.ok) : Ev cx 19 [.agg a.row, v] [] fun r _ => r = .bool true := by
  unfold Ev
  rw [t19_eq, t19]
  simp only [amS, Nat.reduceAdd, Nat.reduceLeDiff, Nat.reduceEqDiff, ↓reduceIte, reduceCtorEq, fillAt, targetOf, itS, (f88 hv hok []).call, known_iff]
  rw [cndW_iff]
  refine ⟨fun _ => ⟨_, rfl, rfl⟩, fun h0 => ⟨fun _ => ⟨_, rfl, rfl⟩, fun h1 => ?_⟩⟩
  have h0 : opsOk l := by simpa using h0
  have hlen := h0.1
  simp only [amS, Nat.reduceAdd, Nat.reduceLeDiff, Nat.reduceEqDiff, ↓reduceIte, reduceCtorEq, fillAt, targetOf, itS, pe_mksl4]
  have hg : IsItems [a] (.sl 4 [a.row]) := .mk
  refine W_call (Ev.mono (f24 (h := []) hg (by simp)) ?_)
  rintro _ _ ⟨u, rfl, rfl, hu⟩
  simp only [List.length_nil, List.nil_append]
  refine W_loop_st (fun n : Nat => [.bool false, .int .i64 (n : Int)]) (fun n h1 => n ≤ l.length ∧ ∃ w : List Item, SObj h1 0 (a :: w) ∧ w.length ≤ n) (fun n => l.length - n) 0 rfl ⟨Nat.zero_le _, [], ⟨u, rfl, hu⟩, by simp⟩ ?_
  rintro n h1 ⟨hn, w, hs, hw⟩
  rcases Nat.lt_or_ge n l.length with hlt | hge
  · have i1 : (n : Int) < (l.length : Int) := by omega
    have hx := hok _ (List.getElem_mem hlt)
    have hb := h0.2 _ (List.getElem_mem hlt)
    have hns : (l[n]).ns.length ≤ 100000 := hb.2.few
    obtain ⟨h2, r1, hs2⟩ := f89 hs (by rw [List.length_cons]; omega) hx hns
    obtain ⟨w', e, g1, g2⟩ := doS_first l[n] a w
    rw [e] at hs2
    have next : w'.length ≤ n + 1 → LoopPost cx (fun n : Nat => [.bool false, .int .i64 (n : Int)]) (fun n h1 => n ≤ l.length ∧ ∃ w : List Item, SObj h1 0 (a :: w) ∧ w.length ≤ n) (fun n => l.length - n)
        (fun x c50 => match x with | .normal => .pcall 23 [] fun v51 => .ret .ret [v51] | .exit i => if i = 0 then .pcall 23 [] fun v52 => .ret .ret [v52] else .fail | .ret => .ret .ret [(g c50 0)])
        (fun x vs h' => x = AExit.ret ∧ ∃ r, vs = [r] ∧ r = AVal.bool true) n .normal [.bool false, .int .i64 ((n + 1 : Nat) : Int)] h2 := fun h => LoopPost.next (n + 1) rfl ⟨hlt, w', hs2, h⟩ (by omega)
    have ad : peval (.int .add) [.int .i64 ((w.length + 1 : Nat) : Int), .int .i64 1] = some (.int .i64 ((w.length + 1 + 1 : Nat) : Int)) := pe_inc (by omega)
    simp only [amS, Nat.reduceAdd, Nat.reduceLeDiff, Nat.reduceEqDiff, ↓reduceIte, reduceCtorEq, fillAt, targetOf, itS, SOp.take_row, SOp.len_row, SOp.at0, Nat.le_refl, hv.lenM, i1, not_true_eq_false, not_false_eq_true, true_implies, false_implies, hv.eaddrM hlt, r1.call, (f34 hs.at).call, (f34 hs2.at).call, (f48 hs2.at 0).call, (f32 _).call, itemAt_zero, item_neq, decide_true, bne_self_eq_false, ne_eq, ad, show ¬ ((w'.length + 1 : Nat) : Int) < 1 by omega, pe_inc (show n < 9223372036854775807 by omega)]
    refine ⟨fun k1 => ?_, fun k1 => ⟨fun k10 => ?_, fun k10 => ?_⟩⟩
    · have gl := g1 (.inl k1)
      refine ⟨fun h => absurd (show ((w'.length + 1 : Nat) : Int) = ((w.length + 1 + 1 : Nat) : Int) by omega) h, fun _ => ?_⟩
      simp only [Bool.not_true, cndW_false]
      exact next (by omega)
    · have gl := g1 (.inr k10)
      refine ⟨fun h => absurd (show ((w'.length + 1 : Nat) : Int) = ((w.length + 1 + 1 : Nat) : Int) by omega) h, fun _ => ?_⟩
      simp only [amS, Nat.reduceAdd, Nat.reduceLeDiff, Nat.reduceEqDiff, ↓reduceIte, reduceCtorEq, fillAt, targetOf, k10, decide_true, Bool.not_true]
      exact next (by omega)
    · have gl := g2 (by omega)
      simp only [amS, Nat.reduceAdd, Nat.reduceLeDiff, Nat.reduceEqDiff, ↓reduceIte, reduceCtorEq, fillAt, targetOf, k10, decide_false, Bool.not_false]
      exact ⟨fun h => absurd h (by omega), fun _ => next (by omega)⟩
  · have i1 : ¬ (n : Int) < (l.length : Int) := by omega
    simp only [amS, Nat.reduceAdd, Nat.reduceLeDiff, Nat.reduceEqDiff, ↓reduceIte, reduceCtorEq, fillAt, targetOf, itS, hv.lenM, i1, not_false_eq_true, true_implies, false_implies, known_iff]
    exact ⟨_, rfl, rfl⟩
theorem hasV_item {v : AVal} (h : HasV tItem v) : ∃ a : Item, v = .agg a.row := by
  obtain ⟨cs, rfl, h⟩ := h
  obtain ⟨a, rfl, _⟩ := has_item cs h
  exact ⟨a, rfl⟩
theorem all_first : ∀ l, HasArgs [tItem, .sl tSOp] l → Ev cx 19 l [] fun r _ => r = .bool true := by
  rintro _ ⟨a, _, rfl, ha, b, _, rfl, hb, rfl⟩
  obtain ⟨a, rfl⟩ := hasV_item ha
  obtain ⟨l, hv, hok⟩ := has_sops hb
  exact ev_first a hv hok
end Go.Am
