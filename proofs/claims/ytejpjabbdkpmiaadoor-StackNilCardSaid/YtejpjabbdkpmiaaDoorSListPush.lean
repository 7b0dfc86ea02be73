/-
  The list of active formatting elements: Push and Replace, and what the specification's changes return. No law is claimed here.
-/
import Derived.Test.YtejpjabbdkpmiaaDoorSListEd
namespace Go.Am
open Go
set_option maxRecDepth 100000
set_option linter.unusedSimpArgs false
set_option linter.unusedVariables false

/-- How many entries behind the last marker are alike, and the first of them. -/
def cntR (e : FCor) : List Fmt → Nat
  | [] => 0
  | x :: t => if x.c.node = 0 then 0 else cntR e t + (if alikeC x.c e = true then 1 else 0)
def fstR (e : FCor) : List Fmt → Int
  | [] => -1
  | x :: t => if x.c.node = 0 then -1 else if 0 ≤ fstR e t then fstR e t else if alikeC x.c e = true then (t.length : Int) else -1
def cntE (e : FCor) (l : List Fmt) : Nat := cntR e l.reverse
def fstE (e : FCor) (l : List Fmt) : Int := fstR e l.reverse
section
variable {e : FCor} {l : List Fmt} {n s : Nat}
theorem cntE_nil : cntE e [] = 0 := rfl
theorem fstE_nil : fstE e [] = -1 := rfl
theorem cntE_take (hn : n < l.length) : cntE e (l.take (n + 1)) = if l[n].c.node = 0 then 0 else cntE e (l.take n) + (if alikeC l[n].c e = true then 1 else 0) := by
  rw [List.take_succ_eq_append_getElem hn, cntE, List.reverse_append, List.reverse_singleton, List.singleton_append, cntR, cntE]
theorem fstE_take (hn : n < l.length) : fstE e (l.take (n + 1)) = if l[n].c.node = 0 then -1 else if 0 ≤ fstE e (l.take n) then fstE e (l.take n) else if alikeC l[n].c e = true then (n : Int) else -1 := by
  rw [List.take_succ_eq_append_getElem hn, fstE, List.reverse_append, List.reverse_singleton, List.singleton_append, fstR, fstE, List.length_reverse, List.length_take, Nat.min_eq_left (Nat.le_of_lt hn)]
theorem cntE_since (hs : since l = (s : Int)) : cntE e (l.take s) = 0 ∧ fstE e (l.take s) = -1 := by
  obtain ⟨s', e, h1, h2, h3⟩ := since_spec l
  obtain rfl : s = s' := by omega
  cases s with
  | zero => exact ⟨rfl, rfl⟩
  | succ t =>
    obtain ⟨ht, h0⟩ := h3 t rfl
    exact ⟨by rw [cntE_take ht, if_pos h0], by rw [fstE_take ht, if_pos h0]⟩
end
def pushed (e : FCor) (l : List Fmt) : List Fmt := if e.node ≠ 0 ∧ 3 ≤ cntE e l then dropAt l (fstE e l).toNat else l
theorem pushed_length (e : FCor) (l : List Fmt) : (pushed e l).length ≤ l.length := by
  unfold pushed
  split
  · unfold dropAt; rw [List.length_append, List.length_take, List.length_drop]; omega
  · exact Nat.le_refl _

section
variable {h : AHeap} {v : AVal} {l : List Fmt} {id : Nat}
set_option maxHeartbeats 1000000 in
/-- Push. -/
theorem f71 (hs : LObj h id l) (hb : l.length ≤ 90000) (hl : ∀ x ∈ l, FOk x) {e : Fmt} (he : FOk e) : ∃ h' e', e'.c = e.c ∧ Ret cx 71 [.ptr (some (id, 0)), .agg e.row] h (.tuple []) h' ∧ h'.length = h.length ∧ LObj h' id (pushed e.c l ++ [e']) := by
  obtain ⟨v, hc, hv⟩ := (show LObj h id l from hs)
  have hv' : IsSl 3 (l.map Fmt.row) v := hv
  have hid := hs.lt
  obtain ⟨s, es, hs1, hs2, _⟩ := since_spec l
  have hev : Ev cx 71 [.ptr (some (id, 0)), .agg e.row] h fun r h' => r = .tuple [] ∧ ∃ e' : Fmt, e'.c = e.c ∧ h'.length = h.length ∧ LObj h' id (pushed e.c l ++ [e']) := by
    unfold Ev
    rw [t71_eq, t71]
    by_cases h0 : e.c.node = 0
    · obtain ⟨e', he', r1⟩ := f125 (h := h) he
      obtain ⟨u, r2, hu⟩ := f124 (h := h) hv e' (Nat.le_refl l.length) (by omega)
      rw [List.take_length, List.drop_length] at hu
      simp only [amS, Nat.reduceAdd, Nat.reduceLeDiff, Nat.reduceEqDiff, ↓reduceIte, reduceCtorEq, fillAt, targetOf, itS, Fmt.len_row, Fmt.g0, Fmt.g1, Fmt.g2, Fmt.fold, bne_self_eq_false, Bool.bne_true, Bool.not_false, h0, ne_eq, not_true_eq_false, false_implies, true_implies, not_false_eq_true, hload_at hc, Nat.add_zero, hv'.lenM]
      rw [← h0, Fmt.fold]
      simp only [amS, Nat.reduceAdd, Nat.reduceLeDiff, Nat.reduceEqDiff, ↓reduceIte, reduceCtorEq, fillAt, targetOf, itS, r1.call, W_same_self, hload_at hc, Nat.add_zero, r2.call, hstore1 hc (IsFmts.cells hu)]
      refine ⟨_, rfl, rfl, e', he', List.length_set, ?_⟩
      rw [pushed, if_neg (fun h => h.1 h0)]
      exact .of_set hid hu
    · simp only [amS, Nat.reduceAdd, Nat.reduceLeDiff, Nat.reduceEqDiff, ↓reduceIte, reduceCtorEq, fillAt, targetOf, itS, Fmt.len_row, Fmt.g0, Fmt.g1, Fmt.g2, Fmt.fold, bne_self_eq_false, Bool.bne_true, Bool.not_false, h0, ne_eq, not_true_eq_false, false_implies, true_implies, not_false_eq_true, hload_at hc, Nat.add_zero, hv'.lenM, pe_subI (show -9223372036854775808 ≤ (l.length : Int) - 1 by omega) (show (l.length : Int) - 1 < 9223372036854775808 by omega)]
      refine W_loop_st (fun p : Int × Nat × Nat => [.int .i64 p.1, .int .i64 (p.2.1 : Int), .int .i64 ((p.2.2 : Int) - 1)])
        (fun p h1 => s ≤ p.2.2 ∧ p.2.2 ≤ l.length ∧ p.2.1 + p.2.2 ≤ l.length ∧ cntE e.c l = p.2.1 + cntE e.c (l.take p.2.2) ∧ (fstE e.c l = if 0 ≤ fstE e.c (l.take p.2.2) then fstE e.c (l.take p.2.2) else if p.2.1 = 0 then -1 else p.1) ∧ (p.2.1 = 0 ∨ ∃ k : Nat, k < l.length ∧ p.1 = (k : Int)) ∧ h1 = h)
        (fun p => p.2.2) (0, 0, l.length) rfl ⟨hs1, Nat.le_refl _, by simp, by simp, by
          rw [List.take_length]
          have : ∀ l : List Fmt, -1 ≤ fstR e.c l := by
            intro l
            induction l with
            | nil => exact Int.le_refl _
            | cons x t ih => rw [fstR]; split <;> (try split) <;> (try split) <;> omega
          have := this l.reverse
          simp only [if_true]
          unfold fstE
          split <;> omega, .inl rfl, rfl⟩ ?_
      rintro ⟨fi, cn, n⟩ h1 ⟨a1, a2, a3, a4, a5, a6, rfl⟩
      simp only at a1 a2 a3 a4 a5 a6
      have r0 := f121 hc hv (by omega)
      rw [es] at r0
      rcases Nat.lt_or_ge s n with hlt | hge
      · obtain ⟨n, rfl⟩ : ∃ m, n = m + 1 := ⟨n - 1, by omega⟩
        have i2 : ((n + 1 : Nat) : Int) - 1 = (n : Int) := by omega
        have hn : n < l.length := a2
        have hnz := hs2 n hn (by omega)
        rw [cntE_take hn, if_neg hnz] at a4
        rw [fstE_take hn, if_neg hnz] at a5
        have r1 := f122 (h := h1) (hl _ (List.getElem_mem hn)) he
        simp only [amS, Nat.reduceAdd, Nat.reduceLeDiff, Nat.reduceEqDiff, ↓reduceIte, reduceCtorEq, fillAt, targetOf, itS, i2, r0.call, show (s : Int) ≤ (n : Int) by omega, not_true_eq_false, false_implies, true_implies, not_false_eq_true, hload_at hc, Nat.add_zero, hv'.eaddrM hn, Fmt.len_row, Fmt.take_row, Nat.le_refl, r1.call, pe_inc (show cn < 9223372036854775807 by omega), pe_subI (show -9223372036854775808 ≤ (n : Int) - 1 by omega) (show (n : Int) - 1 < 9223372036854775808 by omega)]
        rw [cndW_iff]
        refine ⟨fun h2 => ?_, fun h2 => ?_⟩
        · rw [if_pos h2] at a4 a5
          refine LoopPost.next ((n : Int), cn + 1, n) rfl ⟨by simp only; omega, by simp only; omega, by simp only; omega, by simp only; omega, ?_, .inr ⟨n, hn, rfl⟩, rfl⟩ (by simp only; omega)
          simp only
          rw [a5]
          by_cases hf : 0 ≤ fstE e.c (l.take n)
          · simp [hf]
          · simp [hf, show (0 : Int) ≤ (n : Int) by omega]
        · rw [if_neg (by simp [h2])] at a4
          rw [if_neg (show ¬ alikeC l[n].c e.c = true by simp [h2])] at a5
          refine LoopPost.next (fi, cn, n) rfl ⟨by simp only; omega, by simp only; omega, by simp only; omega, by simp only; omega, ?_, a6, rfl⟩ (by simp only; omega)
          simp only
          rw [a5]
          by_cases hf : 0 ≤ fstE e.c (l.take n)
          · simp [hf]
          · simp [hf]
      · obtain rfl : n = s := by omega
        obtain ⟨b1, b2⟩ := cntE_since (e := e.c) es
        rw [b1, Nat.add_zero] at a4
        rw [b2, if_neg (by decide)] at a5
        simp only [amS, Nat.reduceAdd, Nat.reduceLeDiff, Nat.reduceEqDiff, ↓reduceIte, reduceCtorEq, fillAt, targetOf, itS, r0.call, show ¬ (n : Int) ≤ (n : Int) - 1 by omega, not_true_eq_false, false_implies, true_implies, not_false_eq_true]
        by_cases h3 : 3 ≤ cn
        · rcases a6 with a6 | ⟨k, hk, rfl⟩
          · omega
          rw [if_neg (by omega)] at a5
          obtain ⟨u1, r1, hu1⟩ := f123 (h := h1) hv hk (by omega)
          have hk2 : (dropAt l k).length ≤ l.length := by unfold dropAt; rw [List.length_append, List.length_take, List.length_drop]; omega
          have hid1 : id < (h1.set id (.cells [u1])).length := by rw [List.length_set]; exact hid
          have c1 : (h1.set id (.cells [u1]))[id]? = some (.cells [u1]) := List.getElem?_set_self hid
          obtain ⟨e', he', r2⟩ := f125 (h := h1.set id (.cells [u1])) he
          obtain ⟨u2, r3, hu2⟩ := f124 (h := h1.set id (.cells [u1])) hu1 e' (Nat.le_refl (dropAt l k).length) (by omega)
          rw [List.take_length, List.drop_length] at hu2
          simp only [amS, Nat.reduceAdd, Nat.reduceLeDiff, Nat.reduceEqDiff, ↓reduceIte, reduceCtorEq, fillAt, targetOf, itS, show (3 : Int) ≤ (cn : Int) by omega, not_true_eq_false, false_implies, true_implies, not_false_eq_true, hload_at hc, Nat.add_zero, r1.call, hstore1 hc (IsFmts.cells hu1), hload_at c1, IsSl.lenM hu1, r2.call, W_same_self, r3.call, hstore1 c1 (IsFmts.cells hu2)]
          refine ⟨_, rfl, rfl, e', he', by simp, ?_⟩
          rw [pushed, if_pos ⟨h0, by omega⟩, a5, Int.toNat_natCast]
          exact .of_set hid1 hu2
        · obtain ⟨e', he', r1⟩ := f125 (h := h1) he
          obtain ⟨u, r2, hu⟩ := f124 (h := h1) hv e' (Nat.le_refl l.length) (by omega)
          rw [List.take_length, List.drop_length] at hu
          simp only [amS, Nat.reduceAdd, Nat.reduceLeDiff, Nat.reduceEqDiff, ↓reduceIte, reduceCtorEq, fillAt, targetOf, itS, show ¬ (3 : Int) ≤ (cn : Int) by omega, not_true_eq_false, false_implies, true_implies, not_false_eq_true, hload_at hc, Nat.add_zero, hv'.lenM, r1.call, W_same_self, r2.call, hstore1 hc (IsFmts.cells hu)]
          refine ⟨_, rfl, rfl, e', he', List.length_set, ?_⟩
          rw [pushed, if_neg (by omega)]
          exact .of_set hid hu
  obtain ⟨r, h', hr, rfl, e', he', hlen, hu⟩ := hev.ret
  exact ⟨h', e', he', hr, hlen, hu⟩
end
end Go.Am
