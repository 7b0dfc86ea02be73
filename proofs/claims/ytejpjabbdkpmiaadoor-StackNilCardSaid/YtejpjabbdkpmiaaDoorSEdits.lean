/-
  The stack of open elements: the calls that change items, and the specification's. No law is claimed here.
-/
import Derived.Test.YtejpjabbdkpmiaaDoorSPops
import Derived.Test.YtejpjabbdkpmiaaDoorObjs
namespace Go.Am
open Go
set_option maxRecDepth 100000
set_option linter.unusedSimpArgs false
set_option linter.unusedVariables false

section
variable {h : AHeap} {p v : AVal} {l : List Item}

theorem SObj.app {id : Nat} (hs : SObj h id l) (t : AHeap) : SObj (h ++ t) id l := by
  obtain ⟨u, hc, hu⟩ := hs
  exact ⟨u, by rw [List.getElem?_append_left (List.getElem?_eq_some_iff.1 hc).1]; exact hc, hu⟩
theorem rowI (l : List Item) : ∀ r ∈ l.map Item.row, r.length = 4 := map_rows (f := Item.row) (fun a => Item.len_row) l
theorem big40 {n : Nat} (h : n ≤ 200000) : n * 40 ≤ maxBytes := by have : maxBytes = 140737488355328 := rfl; omega

/-- What a list without an element is. -/
def dropAt {α : Type} (l : List α) (k : Nat) : List α := l.take k ++ l.drop (k + 1)
theorem f120 (hv : IsItems l v) {k : Nat} (hk : k < l.length) (hb : l.length ≤ 100000) : ∃ u, Ret cx 120 [v, .int .i64 (k : Int)] h u h ∧ IsItems (dropAt l k) u := by
  obtain ⟨u1, e1, h1⟩ := IsSl.slcHi hv (k := .i64) (show k ≤ l.length by omega)
  obtain ⟨u2, e2, h2⟩ := IsSl.appNil h1 (b := 40) (big40 (by rw [List.length_take]; omega))
  obtain ⟨u4, e4, h4⟩ := IsSl.slcLo hv (k := .i64) (show k + 1 ≤ l.length by omega)
  obtain ⟨u5, e5, h5⟩ := IsSl.appM h2 h4 (b := 40) (big40 (by rw [List.length_take, List.length_drop]; omega))
  refine ⟨u5, ?_, h5⟩
  rw [ret_iff, t120_eq, t120]
  simp only [amS, Nat.reduceAdd, Nat.reduceLeDiff, Nat.reduceEqDiff, ↓reduceIte, reduceCtorEq, fillAt, targetOf, e1, e2, pe_inc (show k < 9223372036854775807 by omega), e4, e5]

/-- Remove. -/
def removed (node : Int) (l : List Item) : List Item := if lastIdx (isNode node) l < 1 then l else dropAt l (lastIdx (isNode node) l).toNat
theorem f70 {id : Nat} (hs : SObj h id l) (hb : l.length ≤ 100000) (node : Int) : ∃ u, Ret cx 70 [.ptr (some (id, 0)), .int .i64 node] h (.bool (decide (1 ≤ lastIdx (isNode node) l))) (h.set id (.cells [u])) ∧ IsItems (removed node l) u := by
  by_cases hneg : lastIdx (isNode node) l < 1
  · obtain ⟨u, e, hu⟩ := hs.setSame
    refine ⟨u, ?_, by rw [removed, if_pos hneg]; exact hu⟩
    rw [ret_iff, t70_eq, t70, ← e]
    simp only [amS, Nat.reduceAdd, Nat.reduceLeDiff, Nat.reduceEqDiff, ↓reduceIte, reduceCtorEq, fillAt, targetOf, (f40 hs.at hb node).call, hneg, not_true_eq_false, true_implies, false_implies, show ¬ 1 ≤ lastIdx (isNode node) l by omega, decide_false]
  · rcases lastIdx_spec (q := isNode node) (l := l) with ⟨h1, _⟩ | ⟨k, hk, h1, _⟩
    · rw [h1] at hneg; omega
    · obtain ⟨v, hc, hv⟩ := (show SObj h id l from hs)
      obtain ⟨u, hr, hu⟩ := f120 (h := h) hv hk hb
      refine ⟨u, ?_, by rw [removed, if_neg hneg, h1]; exact hu⟩
      rw [ret_iff, t70_eq, t70]
      simp only [amS, Nat.reduceAdd, Nat.reduceLeDiff, Nat.reduceEqDiff, ↓reduceIte, reduceCtorEq, fillAt, targetOf, (f40 hs.at hb node).call, hneg, not_false_eq_true, true_implies, false_implies, hload_at hc, Nat.add_zero, h1]
      rw [h1] at hneg
      simp only [amS, Nat.reduceAdd, Nat.reduceLeDiff, Nat.reduceEqDiff, ↓reduceIte, reduceCtorEq, fillAt, targetOf, hr.call, hload_at hc, Nat.add_zero, hstore1 hc (IsItems.cells hu), show ¬ (k : Int) < 1 from hneg, not_false_eq_true, true_implies, false_implies, show (1 : Int) ≤ (k : Int) by omega, decide_true]

/-- Insert. -/
def insertPos (i : Int) (n : Nat) : Nat := min (max i 1).toNat n
theorem f69 {id : Nat} (hs : SObj h id l) (hb : l.length ≤ 100000) (a : Item) (i : Int) : ∃ u, Ret cx 69 [.ptr (some (id, 0)), .agg a.row, .int .i64 i] h (.tuple []) (h.set id (.cells [u])) ∧ IsItems (l.take (insertPos i l.length) ++ a :: l.drop (insertPos i l.length)) u := by
  obtain ⟨v, hc, hv⟩ := (show SObj h id l from hs)
  obtain ⟨u, hr, hu⟩ := f119 (h := h) hv a (n := insertPos i l.length) (by unfold insertPos; omega) hb
  refine ⟨u, ?_, hu⟩
  rw [ret_iff, t69_eq, t69]
  have e1 : (if (l.length : Int) < (if i < 1 then 1 else i) then (l.length : Int) else (if i < 1 then 1 else i)) = ((insertPos i l.length : Nat) : Int) := by
    unfold insertPos; split <;> split <;> omega
  simp only [amS, Nat.reduceAdd, Nat.reduceLeDiff, Nat.reduceEqDiff, ↓reduceIte, reduceCtorEq, fillAt, targetOf, itS, bne_self_eq_false, Bool.bne_true, Bool.not_false, hload_at hc, Nat.add_zero, pe_max, IsSl.lenM hv, pe_min, e1, hr.call, hstore1 hc (IsItems.cells hu)]

/-- Clone, of a list that is not empty: a new object. -/
theorem f118 (hv : IsItems l v) (hne : l ≠ []) (hb : l.length ≤ 100000) : Ret cx 118 [v] h (.msl h.length 0 l.length 4) (h ++ [.cells (l.map Item.row).flatten]) := by
  have e1 : peval (.nileq false .sl) [v, .slnil] = some (.bool false) := by
    rcases hv with rfl | ⟨rfl, hv⟩
    · rfl
    · exact absurd (by simpa using hv) hne
  have e2 : peval (.mksl 4) [] = some (.sl 4 []) := rfl
  have e3 := hobjOf_some (h := h) (s := .sl 4 []) (z := 4) (b := 40) (.inr rfl) hv (by simpa using hne) (by rw [List.length_map]; exact big40 (by omega))
  rw [List.length_map] at e3
  rw [ret_iff, t118_eq, t118]
  simp only [amS, Nat.reduceAdd, Nat.reduceLeDiff, Nat.reduceEqDiff, ↓reduceIte, reduceCtorEq, fillAt, targetOf, e1, e2, e3]

/-- Replace. -/
def replaced (node : Int) (a : Item) (l : List Item) : List Item := if lastIdx (isNode node) l < 1 then l else l.set (lastIdx (isNode node) l).toNat a
theorem f66 {id : Nat} (hs : SObj h id l) (hb : l.length ≤ 100000) (node : Int) (a : Item) : ∃ h', Ret cx 66 [.ptr (some (id, 0)), .int .i64 node, .agg a.row] h (.bool (decide (1 ≤ lastIdx (isNode node) l))) h' ∧ ∃ u t, h' = h.set id (.cells [u]) ++ t ∧ IsItems (replaced node a l) u := by
  by_cases hneg : lastIdx (isNode node) l < 1
  · obtain ⟨u, e, hu⟩ := hs.setSame
    obtain ⟨v, hc, hv⟩ := (show SObj h id l from hs)
    refine ⟨h, ?_, u, [], by rw [List.append_nil]; exact e, by rw [replaced, if_pos hneg]; exact hu⟩
    have e2 : hfrzAt h 0 (.ptr (some (id, 0))) = some h := by
      have e3 : hfrz h v = some (h, v) := IsSl.frz hv
      simp only [hfrzAt, hc, Nat.zero_add, List.getElem?_cons_zero, e3, Option.bind_some, List.set_cons_zero]
      congr 1
      obtain ⟨hl, e⟩ := List.getElem?_eq_some_iff.1 hc
      rw [← e, List.set_getElem_self]
    rw [ret_iff, t66_eq, t66]
    simp only [amS, Nat.reduceAdd, Nat.reduceLeDiff, Nat.reduceEqDiff, ↓reduceIte, reduceCtorEq, fillAt, targetOf, itS, (f40 hs.at hb node).call, hneg, not_true_eq_false, true_implies, false_implies, e2, show ¬ 1 ≤ lastIdx (isNode node) l by omega, decide_false]
  · rcases lastIdx_spec (q := isNode node) (l := l) with ⟨h1, _⟩ | ⟨k, hk, h1, _⟩
    · rw [h1] at hneg; omega
    · have hnk : ¬ (k : Int) < 1 := by rw [h1] at hneg; exact hneg
      have hlt := hs.lt
      obtain ⟨v, hc, hv⟩ := (show SObj h id l from hs)
      have hne : l ≠ [] := by intro e; subst e; simp at hk
      have hcl := f118 (h := h) hv hne hb
      have c1 : (h ++ [AObj.cells (l.map Item.row).flatten])[id]? = some (.cells [v]) := by rw [List.getElem?_append_left hlt]; exact hc
      have s1 := hstore1 (u := .msl h.length 0 l.length 4) c1 rfl
      have hl2 : id < (h ++ [AObj.cells (l.map Item.row).flatten]).length := by simp; omega
      have c2 : ((h ++ [AObj.cells (l.map Item.row).flatten]).set id (.cells [.msl h.length 0 l.length 4]))[id]? = some (.cells [.msl h.length 0 l.length 4]) := List.getElem?_set_self hl2
      have hidne : id ≠ h.length := by omega
      have c3 : ((h ++ [AObj.cells (l.map Item.row).flatten]).set id (.cells [.msl h.length 0 l.length 4]))[h.length]? = some (.cells (l.map Item.row).flatten) := by
        rw [List.getElem?_set_ne hidne]; simp
      have s2 := hstore_rows (z := 4) (rowI l) c3 (i := k) (by simpa using hk) (q := a.row) rfl
      have e4 : peval (.eaddr 4) [.msl h.length 0 l.length 4, .int .i64 (k : Int)] = some (.ptr (some (h.length, k * 4))) := eaddr_msl hk
      generalize hh3 : ((h ++ [AObj.cells (l.map Item.row).flatten]).set id (.cells [.msl h.length 0 l.length 4])).set h.length (.cells ((l.map Item.row).set k a.row).flatten) = h3 at s2
      have c4 : h3[id]? = some (.cells [.msl h.length 0 l.length 4]) := by rw [← hh3, List.getElem?_set_ne (fun e => hidne e.symm)]; exact c2
      have c5 : h3[h.length]? = some (.cells ((l.map Item.row).set k a.row).flatten) := by rw [← hh3]; exact List.getElem?_set_self (by simp)
      have f1 := hfrz_rows (set_rows (rowI l) (i := k) (q := a.row) rfl) c5
      rw [List.length_set, List.length_map] at f1
      have e2 : hfrzAt h3 0 (.ptr (some (id, 0))) = some ((h3.set h.length .dead).set id (.cells [.sl 4 ((l.map Item.row).set k a.row)])) := by
        simp only [hfrzAt, c4, Nat.zero_add, List.getElem?_cons_zero, f1, Option.bind_some]
        rw [List.getElem?_set_ne (fun e => hidne e.symm), c4]
        rfl
      refine ⟨(h3.set h.length .dead).set id (.cells [.sl 4 ((l.map Item.row).set k a.row)]), ?_, .sl 4 ((l.map Item.row).set k a.row), [.dead], ?_, ?_⟩
      · rw [ret_iff, t66_eq, t66]
        simp only [amS, Nat.reduceAdd, Nat.reduceLeDiff, Nat.reduceEqDiff, ↓reduceIte, reduceCtorEq, fillAt, targetOf, itS, (f40 hs.at hb node).call, h1, hnk, not_false_eq_true, true_implies, false_implies, hload_at hc, Nat.add_zero, hcl.call, s1, hload_at c2, e4, s2, e2, show (1 : Int) ≤ (k : Int) by omega, decide_true]
      · rw [← hh3]
        apply List.ext_getElem?
        intro j
        simp only [List.getElem?_set, List.getElem?_append, List.length_set, List.length_append, List.length_singleton]
        by_cases hj : id = j
        · subst hj; simp [hlt, Nat.lt_succ_of_lt hlt]
        · by_cases hj2 : h.length = j
          · subst hj2; simp [hj]
          · by_cases hj3 : j < h.length
            · simp [hj, hj2, hj3]
            · have : ¬ j - h.length = 0 := by omega
              simp [hj, hj2, hj3]
              rw [List.getElem?_eq_none (by simp; omega), List.getElem?_eq_none (by simp; omega)]
      · rw [replaced, if_neg hneg, h1, Int.toNat_natCast, IsItems, List.map_set]; exact .mk

/-! The specification. -/
/-- What cut returns: nothing, or a new object. -/
def CutRes (h : AHeap) (l : List Item) (r : AVal) (h' : AHeap) : Prop := (l = [] ∧ r = .slnil ∧ h' = h) ∨ (l ≠ [] ∧ r = .msl h.length 0 l.length 4 ∧ h' = h ++ [.cells (l.map Item.row).flatten])
theorem cut_obj (hv : IsItems l v) (hb : l.length ≤ 100000) : ∃ r h', hobjOf h 4 40 .slnil v = some (h', r) ∧ CutRes h l r h' := by
  by_cases hne : l = []
  · subst hne
    exact ⟨_, _, hobjOf_none (.inl rfl) hv, .inl ⟨rfl, rfl, rfl⟩⟩
  · have e3 := hobjOf_some (h := h) (s := .slnil) (z := 4) (b := 40) (.inl rfl) hv (by simpa using hne) (by rw [List.length_map]; exact big40 (by omega))
    rw [List.length_map] at e3
    exact ⟨_, _, e3, .inr ⟨hne, rfl, rfl⟩⟩
theorem f170 (hv : IsItems l v) (hb : l.length ≤ 100000) (i : Int) : ∃ r h', Ret cx 170 [v, .int .i64 i] h r h' ∧ CutRes h (cutL l i) r h' := by
  have hv' : IsSl 4 (l.map Item.row) v := hv
  obtain ⟨k, hk, hkl, hc⟩ : ∃ k, k = min (max 1 i.toNat) l.length ∧ k ≤ l.length ∧ cutL l i = l.take k := ⟨_, rfl, by omega, by
    unfold cutL
    rcases Nat.le_total (max 1 i.toNat) l.length with h1 | h1
    · rw [Nat.min_eq_left h1]
    · rw [Nat.min_eq_right h1, List.take_length, List.take_of_length_le h1]⟩
  obtain ⟨u, e, hu⟩ := IsSl.slcHi hv (k := .i64) hkl
  obtain ⟨r, h', e2, hr⟩ := cut_obj (h := h) (l := l.take k) (v := u) hu (by rw [List.length_take]; omega)
  refine ⟨r, h', ?_, by rw [hc]; exact hr⟩
  rw [ret_iff, t170_eq, t170]
  simp only [amS, Nat.reduceAdd, Nat.reduceLeDiff, Nat.reduceEqDiff, ↓reduceIte, reduceCtorEq, fillAt, targetOf, hv'.lenM]
  refine ⟨fun h1 => ⟨fun h2 => ?_, fun h2 => ?_⟩, fun h1 => ⟨fun h2 => ?_, fun h2 => ?_⟩⟩
  · have : (k : Int) = (l.length : Int) := by omega
    rw [this] at e
    simp only [amS, Nat.reduceAdd, Nat.reduceLeDiff, Nat.reduceEqDiff, ↓reduceIte, reduceCtorEq, fillAt, targetOf, e, e2]
  · have : (k : Int) = 1 := by omega
    rw [this] at e
    simp only [amS, Nat.reduceAdd, Nat.reduceLeDiff, Nat.reduceEqDiff, ↓reduceIte, reduceCtorEq, fillAt, targetOf, e, e2]
  · have : (k : Int) = (l.length : Int) := by omega
    rw [this] at e
    simp only [amS, Nat.reduceAdd, Nat.reduceLeDiff, Nat.reduceEqDiff, ↓reduceIte, reduceCtorEq, fillAt, targetOf, e, e2]
  · have : (k : Int) = i := by omega
    rw [this] at e
    simp only [amS, Nat.reduceAdd, Nat.reduceLeDiff, Nat.reduceEqDiff, ↓reduceIte, reduceCtorEq, fillAt, targetOf, e, e2]
theorem CutRes.frz {r : AVal} {h' : AHeap} (hc : CutRes h l r h') : ∃ u t, hfrz h' r = some (h ++ t, u) ∧ IsItems l u := by
  rcases hc with ⟨rfl, rfl, rfl⟩ | ⟨hne, rfl, rfl⟩
  · exact ⟨.slnil, [], by rw [List.append_nil]; rfl, .nil⟩
  · have c5 : (h ++ [AObj.cells (l.map Item.row).flatten])[h.length]? = some (.cells (l.map Item.row).flatten) := by simp
    have f1 := hfrz_rows (rowI l) c5
    rw [List.length_map] at f1
    refine ⟨.sl 4 (l.map Item.row), [.dead], ?_, .mk⟩
    rw [f1]
    congr 2
    rw [List.set_append_right _ _ (Nat.le_refl _)]
    simp

theorem f145 (hv : IsItems l v) (hb : l.length ≤ 100000) : ∃ u t, Ret cx 145 [v] h u (h ++ t) ∧ IsItems (cutL l ((l.length : Int) - 1)) u := by
  obtain ⟨r, h', hr, hc⟩ := f170 (h := h) hv hb ((l.length : Int) - 1)
  obtain ⟨u, t, e, hu⟩ := hc.frz
  refine ⟨u, t, ?_, hu⟩
  rw [ret_iff, t145_eq, t145]
  simp only [amS, Nat.reduceAdd, Nat.reduceLeDiff, Nat.reduceEqDiff, ↓reduceIte, reduceCtorEq, fillAt, targetOf, IsSl.lenM hv, pe_subI (show -9223372036854775808 ≤ (l.length : Int) - 1 by omega) (show (l.length : Int) - 1 < 9223372036854775808 by omega), hr.call, e]
theorem f147 (hv : IsItems l v) (hb : l.length ≤ 100000) (node : Int) : ∃ u t, Ret cx 147 [v, .int .i64 node] h u (h ++ t) ∧ IsItems (popNode node l) u := by
  by_cases hneg : lastIdx (isNode node) l < 0
  · obtain ⟨r, h', hr, hc⟩ := f170 (h := h) hv hb (l.length : Int)
    obtain ⟨u, t, e, hu⟩ := hc.frz
    have e1 : cutL l (l.length : Int) = l := by unfold cutL; rw [List.take_of_length_le (by omega)]
    refine ⟨u, t, ?_, by rw [popNode_cut, if_pos hneg]; rwa [e1] at hu⟩
    rw [ret_iff, t147_eq, t147]
    simp only [amS, Nat.reduceAdd, Nat.reduceLeDiff, Nat.reduceEqDiff, ↓reduceIte, reduceCtorEq, fillAt, targetOf, (f49 hv hb node).call, hneg, not_true_eq_false, true_implies, false_implies, IsSl.lenM hv, hr.call, e]
  · obtain ⟨r, h', hr, hc⟩ := f170 (h := h) hv hb (lastIdx (isNode node) l)
    obtain ⟨u, t, e, hu⟩ := hc.frz
    refine ⟨u, t, ?_, by rw [popNode_cut, if_neg hneg]; exact hu⟩
    rw [ret_iff, t147_eq, t147]
    simp only [amS, Nat.reduceAdd, Nat.reduceLeDiff, Nat.reduceEqDiff, ↓reduceIte, reduceCtorEq, fillAt, targetOf, (f49 hv hb node).call, hneg, not_false_eq_true, true_implies, false_implies, hr.call, e]
end
end Go.Am
