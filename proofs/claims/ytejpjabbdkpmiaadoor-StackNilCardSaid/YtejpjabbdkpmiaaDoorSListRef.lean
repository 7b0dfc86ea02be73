/-
  The list of active formatting elements: Replace, and what the specification's changes return. No law is claimed here.
-/
import Derived.Test.YtejpjabbdkpmiaaDoorSListPush
namespace Go.Am
open Go
set_option maxRecDepth 100000
set_option linter.unusedSimpArgs false
set_option linter.unusedVariables false

section
variable {h : AHeap} {v : AVal} {l : List Fmt} {id : Nat}
theorem f73 (hs : LObj h id l) (hb : l.length ≤ 90000) (node : Int) {e : Fmt} (he : FOk e) : ∃ h' e', e'.c = e.c ∧ Ret cx 73 [.ptr (some (id, 0)), .int .i64 node, .agg e.row] h (.bool (decide (0 ≤ entIdx node l))) h' ∧ h.length ≤ h'.length ∧ LObj h' id (if entIdx node l < 0 then l else l.set (entIdx node l).toNat e') := by
  obtain ⟨v, hc, hv⟩ := (show LObj h id l from hs)
  have hlt := hs.lt
  rcases entIdx_spec node l with h1 | ⟨k, hk, h1⟩
  · refine ⟨h, e, rfl, ?_, Nat.le_refl _, by rw [h1]; exact hs⟩
    have e2 : hfrzAt h 0 (.ptr (some (id, 0))) = some h := by
      have e3 : hfrz h v = some (h, v) := IsSl.frz hv
      simp only [hfrzAt, hc, Nat.zero_add, List.getElem?_cons_zero, e3, Option.bind_some, List.set_cons_zero]
      congr 1
      obtain ⟨hl, e⟩ := List.getElem?_eq_some_iff.1 hc
      rw [← e, List.set_getElem_self]
    rw [ret_iff, t73_eq, t73]
    simp only [amS, Nat.reduceAdd, Nat.reduceLeDiff, Nat.reduceEqDiff, ↓reduceIte, reduceCtorEq, fillAt, targetOf, itS, Fmt.len_row, (f82 hc hv (by omega) node).call, h1, show (-1 : Int) < 0 by decide, not_true_eq_false, true_implies, false_implies, e2]
    rfl
  · have hne : l ≠ [] := by intro e; subst e; simp at hk
    have hcl := f126 (h := h) hv hne (by omega)
    have c1 : (h ++ [AObj.cells (l.map Fmt.row).flatten])[id]? = some (.cells [v]) := by rw [List.getElem?_append_left hlt]; exact hc
    have s1 := hstore1 (u := .msl h.length 0 l.length 3) c1 rfl
    have hl2 : id < (h ++ [AObj.cells (l.map Fmt.row).flatten]).length := by simp; omega
    have c2 : ((h ++ [AObj.cells (l.map Fmt.row).flatten]).set id (.cells [.msl h.length 0 l.length 3]))[id]? = some (.cells [.msl h.length 0 l.length 3]) := List.getElem?_set_self hl2
    have hidne : id ≠ h.length := by omega
    have c3 : ((h ++ [AObj.cells (l.map Fmt.row).flatten]).set id (.cells [.msl h.length 0 l.length 3]))[h.length]? = some (.cells (l.map Fmt.row).flatten) := by
      rw [List.getElem?_set_ne hidne]; simp
    obtain ⟨e', he', r1⟩ := f125 (h := (h ++ [AObj.cells (l.map Fmt.row).flatten]).set id (.cells [.msl h.length 0 l.length 3])) he
    have s2 := hstore_rows (z := 3) (rowF l) c3 (i := k) (by simpa using hk) (q := e'.row) rfl
    have e4 : peval (.eaddr 3) [.msl h.length 0 l.length 3, .int .i64 (k : Int)] = some (.ptr (some (h.length, k * 3))) := eaddr_msl hk
    generalize hh3 : ((h ++ [AObj.cells (l.map Fmt.row).flatten]).set id (.cells [.msl h.length 0 l.length 3])).set h.length (.cells ((l.map Fmt.row).set k e'.row).flatten) = h3 at s2
    have hl3 : h3.length = h.length + 1 := by rw [← hh3]; simp
    have c4 : h3[id]? = some (.cells [.msl h.length 0 l.length 3]) := by rw [← hh3, List.getElem?_set_ne (fun e => hidne e.symm)]; exact c2
    have c5 : h3[h.length]? = some (.cells ((l.map Fmt.row).set k e'.row).flatten) := by rw [← hh3]; exact List.getElem?_set_self (by simp)
    have f1 := hfrz_rows (set_rows (rowF l) (i := k) (q := e'.row) rfl) c5
    rw [List.length_set, List.length_map] at f1
    have e2 : hfrzAt h3 0 (.ptr (some (id, 0))) = some ((h3.set h.length .dead).set id (.cells [.sl 3 ((l.map Fmt.row).set k e'.row)])) := by
      simp only [hfrzAt, c4, Nat.zero_add, List.getElem?_cons_zero, f1, Option.bind_some]
      rw [List.getElem?_set_ne (fun e => hidne e.symm), c4]
      rfl
    refine ⟨(h3.set h.length .dead).set id (.cells [.sl 3 ((l.map Fmt.row).set k e'.row)]), e', he', ?_, by simp [hl3], ?_⟩
    · rw [ret_iff, t73_eq, t73]
      simp only [amS, Nat.reduceAdd, Nat.reduceLeDiff, Nat.reduceEqDiff, ↓reduceIte, reduceCtorEq, fillAt, targetOf, itS, Fmt.len_row, Fmt.g0, Fmt.g1, Fmt.g2, Fmt.fold, (f82 hc hv (by omega) node).call, h1, show ¬ (k : Int) < 0 by omega, not_false_eq_true, true_implies, false_implies, hload_at hc, Nat.add_zero, hcl.call, s1, hload_at c2, r1.call, W_same_self, e4, s2, e2, show (0 : Int) ≤ (k : Int) by omega, decide_true]
    · rw [h1, if_neg (by omega), Int.toNat_natCast]
      refine .of_set (by simp [hl3]; omega) ?_
      rw [← List.map_set]
      exact .mk

/-- EntriesWithout. -/
theorem f137 (hv : IsFmts l v) (hb : l.length ≤ 90000) {k : Nat} (hk : k < l.length) : ∃ u, Ret cx 137 [v, .int .i64 (k : Int)] h u h ∧ IsFmts (dropAt l k) u := by
  have hv' : IsSl 3 (l.map Fmt.row) v := hv
  have hev : Ev cx 137 [v, .int .i64 (k : Int)] h fun r h' => h' = h ∧ IsFmts (dropAt l k) r := by
    unfold Ev
    rw [t137_eq, t137]
    refine W_loop_st (fun p : Nat × AVal => [p.2, .int .i64 (p.1 : Int)]) (fun p h1 => p.1 ≤ l.length ∧ IsFmts (if p.1 ≤ k then l.take p.1 else dropAt (l.take p.1) k) p.2 ∧ h1 = h) (fun p => l.length - p.1) (0, .slnil) rfl ⟨Nat.zero_le _, by rw [if_pos (Nat.zero_le _)]; exact .nil, rfl⟩ ?_
    rintro ⟨n, u⟩ h1 ⟨hn, hu, rfl⟩
    simp only at hn hu
    have inc := pe_inc (show n < 9223372036854775807 by omega)
    rcases Nat.lt_or_ge n l.length with hlt | hge
    · have i1 : (n : Int) < (l.length : Int) := by omega
      have elem := hv'.eaddrM (k := .i64) hlt
      have hlen : (if n ≤ k then l.take n else dropAt (l.take n) k).length ≤ l.length := by
        split
        · rw [List.length_take]; omega
        · unfold dropAt; rw [List.length_append, List.length_take, List.length_drop, List.length_take]; omega
      have e3 := IsSl.app1M (a := l[n]) hu (b := 48) (big48 (by omega))
      simp only [amS, Nat.reduceAdd, Nat.reduceLeDiff, Nat.reduceEqDiff, ↓reduceIte, reduceCtorEq, fillAt, targetOf, hv'.lenM, i1, not_true_eq_false, not_false_eq_true, true_implies, false_implies, elem, Fmt.len_row, Fmt.take_row, Nat.le_refl, pe_mksl3r Fmt.len_row, e3, inc]
      refine ⟨fun h0 => ?_, fun h0 => ?_⟩
      · refine LoopPost.next (n + 1, _) rfl ⟨hlt, ?_, rfl⟩ (by simp only; omega)
        have h0 : n ≠ k := by omega
        have : (if n + 1 ≤ k then l.take (n + 1) else dropAt (l.take (n + 1)) k) = (if n ≤ k then l.take n else dropAt (l.take n) k) ++ [l[n]] := by
          rw [List.take_succ_eq_append_getElem hlt]
          by_cases hnk : n < k
          · rw [if_pos (by omega), if_pos (by omega)]
          · rw [if_neg (by omega), if_neg (by omega)]
            unfold dropAt
            rw [List.take_append_of_le_length (by rw [List.length_take]; omega), List.drop_append_of_le_length (by rw [List.length_take]; omega), List.append_assoc]
        simp only
        rw [this]
        exact .mk
      · refine LoopPost.next (n + 1, u) rfl ⟨hlt, ?_, rfl⟩ (by simp only; omega)
        obtain rfl : n = k := by omega
        have : (if n + 1 ≤ n then l.take (n + 1) else dropAt (l.take (n + 1)) n) = l.take n := by
          rw [if_neg (by omega)]
          unfold dropAt
          rw [List.take_take, Nat.min_eq_left (by omega), List.drop_of_length_le (by rw [List.length_take]; omega), List.append_nil]
        simp only
        rw [this]
        rw [if_pos (Nat.le_refl _)] at hu
        exact hu
    · have i1 : ¬ (n : Int) < (l.length : Int) := by omega
      rw [if_neg (by omega), List.take_of_length_le hge] at hu
      simp only [amS, Nat.reduceAdd, Nat.reduceLeDiff, Nat.reduceEqDiff, ↓reduceIte, reduceCtorEq, fillAt, targetOf, hv'.lenM, i1, not_false_eq_true, true_implies, false_implies]
      exact ⟨_, rfl, hu⟩
  obtain ⟨r, h', hr, rfl, hu⟩ := hev.ret
  exact ⟨r, hr, hu⟩
/-- EntriesWith. -/
theorem f135 (hv : IsFmts l v) (hb : l.length ≤ 90000) {e : Fmt} (he : FOk e) (i : Int) : ∃ u e', e'.c = e.c ∧ Ret cx 135 [v, .agg e.row, .int .i64 i] h u h ∧ IsFmts (l.take (clampPos i l.length) ++ e' :: l.drop (clampPos i l.length)) u := by
  obtain ⟨e', he', r1⟩ := f167 (h := h) he
  have key : ∀ k : Nat, k ≤ l.length → ∃ u1 u2 u4 u5, peval (.slc 3 false false true) [v, .int .i64 (k : Int)] = some u1 ∧ peval (.append 3 48) [.slnil, u1] = some u2 ∧ peval (.append 3 48) [u2, .sl 3 [e'.row]] = some (.sl 3 ((l.take k ++ [e']).map Fmt.row)) ∧ peval (.slc 3 false true false) [v, .int .i64 (k : Int)] = some u4 ∧ peval (.append 3 48) [.sl 3 ((l.take k ++ [e']).map Fmt.row), u4] = some u5 ∧ IsFmts (l.take k ++ e' :: l.drop k) u5 := by
    intro k hk
    obtain ⟨u1, e1, h1⟩ := IsSl.slcHi hv (k := .i64) hk
    obtain ⟨u2, e2, h2⟩ := IsSl.appNil h1 (b := 48) (big48 (by rw [List.length_take]; omega))
    have e3 := IsSl.app1M (a := e') h2 (b := 48) (big48 (by rw [List.length_take]; omega))
    obtain ⟨u4, e4, h4⟩ := IsSl.slcLo hv (k := .i64) hk
    obtain ⟨u5, e5, h5⟩ := IsSl.appM (f := Fmt.row) (l := l.take k ++ [e']) .mk h4 (b := 48) (big48 (by rw [List.length_append, List.length_take, List.length_drop, List.length_singleton]; omega))
    exact ⟨u1, u2, u4, u5, e1, e2, e3, e4, e5, by rw [List.append_assoc] at h5; exact h5⟩
  obtain ⟨u1, u2, u4, u5, e1, e2, e3, e4, e5, hu⟩ := key (clampPos i l.length) (by unfold clampPos; omega)
  refine ⟨u5, e', he', ?_, hu⟩
  have hv' : IsSl 3 (l.map Fmt.row) v := hv
  rw [ret_iff, t135_eq, t135]
  by_cases h1 : i < 0
  · have : clampPos i l.length = 0 := by unfold clampPos; omega
    rw [this] at e1 e4
    have e1 : peval (.slc 3 false false true) [v, .int .i64 0] = some u1 := e1
    have e4 : peval (.slc 3 false true false) [v, .int .i64 0] = some u4 := e4
    simp only [amS, Nat.reduceAdd, Nat.reduceLeDiff, Nat.reduceEqDiff, ↓reduceIte, reduceCtorEq, fillAt, targetOf, Fmt.len_row, Fmt.g0, Fmt.g1, Fmt.g2, Fmt.fold, h1, not_true_eq_false, not_false_eq_true, true_implies, false_implies, hv'.lenM, show ¬ (l.length : Int) < 0 by omega, e1, e2, r1.call, pe_mksl3r Fmt.len_row, e3, e4, e5]
  · by_cases h2 : (l.length : Int) < i
    · have : clampPos i l.length = l.length := by unfold clampPos; omega
      rw [this] at e1 e4
      simp only [amS, Nat.reduceAdd, Nat.reduceLeDiff, Nat.reduceEqDiff, ↓reduceIte, reduceCtorEq, fillAt, targetOf, Fmt.len_row, Fmt.g0, Fmt.g1, Fmt.g2, Fmt.fold, h1, h2, not_true_eq_false, not_false_eq_true, true_implies, false_implies, hv'.lenM, e1, e2, r1.call, pe_mksl3r Fmt.len_row, e3, e4, e5]
    · have : ((clampPos i l.length : Nat) : Int) = i := by unfold clampPos; omega
      rw [this] at e1 e4
      simp only [amS, Nat.reduceAdd, Nat.reduceLeDiff, Nat.reduceEqDiff, ↓reduceIte, reduceCtorEq, fillAt, targetOf, Fmt.len_row, Fmt.g0, Fmt.g1, Fmt.g2, Fmt.fold, h1, h2, not_true_eq_false, not_false_eq_true, true_implies, false_implies, hv'.lenM, e1, e2, r1.call, pe_mksl3r Fmt.len_row, e3, e4, e5]
/-- Clear. -/
theorem f136 (hv : IsFmts l v) (hb : l.length ≤ 90000) : ∃ u, Ret cx 136 [v] h u h ∧ IsFmts (l.take (clearLen l)) u := by
  obtain ⟨s, es, hs1, _⟩ := since_spec l
  have hcl : clearLen l ≤ l.length := by unfold clearLen; omega
  obtain ⟨u, e1, hu⟩ := IsSl.slcHi hv (k := .i64) hcl
  obtain ⟨u2, e2, hu2⟩ := IsSl.appNil hu (b := 48) (big48 (by rw [List.length_take]; omega))
  refine ⟨u2, ?_, hu2⟩
  rw [ret_iff, t136_eq, t136]
  by_cases h1 : since l - 1 < 0
  · have : clearLen l = 0 := by unfold clearLen; omega
    rw [this] at e1
    have e1 : peval (.slc 3 false false true) [v, .int .i64 0] = some u := e1
    simp only [amS, Nat.reduceAdd, Nat.reduceLeDiff, Nat.reduceEqDiff, ↓reduceIte, reduceCtorEq, fillAt, targetOf, (f139 hv (by omega)).call, pe_subI (show -9223372036854775808 ≤ since l - 1 by omega) (show since l - 1 < 9223372036854775808 by omega), h1, not_true_eq_false, not_false_eq_true, true_implies, false_implies, e1, e2]
  · have : ((clearLen l : Nat) : Int) = since l - 1 := by unfold clearLen; omega
    rw [this] at e1
    simp only [amS, Nat.reduceAdd, Nat.reduceLeDiff, Nat.reduceEqDiff, ↓reduceIte, reduceCtorEq, fillAt, targetOf, (f139 hv (by omega)).call, pe_subI (show -9223372036854775808 ≤ since l - 1 by omega) (show since l - 1 < 9223372036854775808 by omega), h1, not_true_eq_false, not_false_eq_true, true_implies, false_implies, e1, e2]
/-- EntryReplaced. -/
theorem f138 (hv : IsFmts l v) (hb : l.length ≤ 90000) (node : Int) {e : Fmt} (he : FOk e) : ∃ u e', e'.c = e.c ∧ Ret cx 138 [v, .int .i64 node, .agg e.row] h (.tuple [u, .bool (decide (0 ≤ entIdx node l))]) h ∧ IsFmts (if entIdx node l < 0 then l else l.set (entIdx node l).toNat e') u := by
  rcases entIdx_spec node l with h1 | ⟨k, hk, h1⟩
  · refine ⟨v, e, rfl, ?_, by rw [h1]; exact hv⟩
    rw [ret_iff, t138_eq, t138]
    simp only [amS, Nat.reduceAdd, Nat.reduceLeDiff, Nat.reduceEqDiff, ↓reduceIte, reduceCtorEq, fillAt, targetOf, Fmt.len_row, (f83 hv (by omega) node).call, h1, show (-1 : Int) < 0 by decide, not_true_eq_false, true_implies, false_implies]
    rfl
  · obtain ⟨u1, r1, hu1⟩ := f137 (h := h) hv hb hk
    have hlen : (dropAt l k).length = l.length - 1 := by unfold dropAt; rw [List.length_append, List.length_take, List.length_drop]; omega
    obtain ⟨u2, e', he', r2, hu2⟩ := f135 (h := h) hu1 (by omega) he (k : Int)
    refine ⟨u2, e', he', ?_, ?_⟩
    · rw [ret_iff, t138_eq, t138]
      simp only [amS, Nat.reduceAdd, Nat.reduceLeDiff, Nat.reduceEqDiff, ↓reduceIte, reduceCtorEq, fillAt, targetOf, Fmt.len_row, Fmt.g0, Fmt.g1, Fmt.g2, Fmt.fold, (f83 hv (by omega) node).call, h1, show ¬ (k : Int) < 0 by omega, not_false_eq_true, true_implies, false_implies, r1.call, r2.call, show (0 : Int) ≤ (k : Int) by omega, decide_true]
    · rw [h1, if_neg (by omega), Int.toNat_natCast]
      have : clampPos (k : Int) (dropAt l k).length = k := by unfold clampPos; omega
      rw [this] at hu2
      have e1 : (dropAt l k).take k ++ e' :: (dropAt l k).drop k = l.set k e' := by
        unfold dropAt
        have hk2 : (l.take k).length = k := by rw [List.length_take]; omega
        rw [List.take_append_of_le_length (by omega), List.take_of_length_le (by omega), List.drop_append, hk2, Nat.sub_self, List.drop_of_length_le (by omega), List.nil_append, List.drop_zero, List.set_eq_take_append_cons_drop, if_pos hk]
      rw [e1] at hu2
      exact hu2
set_option maxHeartbeats 1000000 in
/-- Push. -/
theorem f134 (hv : IsFmts l v) (hb : l.length ≤ 90000) (hl : ∀ x ∈ l, FOk x) {e : Fmt} (he : FOk e) : ∃ u e', e'.c = e.c ∧ Ret cx 134 [v, .agg e.row] h u h ∧ IsFmts (pushed e.c l ++ [e']) u := by
  have hv' : IsSl 3 (l.map Fmt.row) v := hv
  obtain ⟨s, es, hs1, hs2, _⟩ := since_spec l
  have hev : Ev cx 134 [v, .agg e.row] h fun r h' => h' = h ∧ ∃ e' : Fmt, e'.c = e.c ∧ IsFmts (pushed e.c l ++ [e']) r := by
    unfold Ev
    rw [t134_eq, t134]
    have r0 := f139 (h := h) hv (by omega)
    rw [es] at r0
    obtain ⟨b1, b2⟩ := cntE_since (e := e.c) es
    simp only [amS, Nat.reduceAdd, Nat.reduceLeDiff, Nat.reduceEqDiff, ↓reduceIte, reduceCtorEq, fillAt, targetOf, Fmt.len_row, Fmt.g0, Fmt.g1, Fmt.g2, Fmt.fold, r0.call]
    refine W_loop_st (fun n : Nat => [.int .i64 (fstE e.c (l.take n)), .int .i64 (cntE e.c (l.take n) : Int), .int .i64 (n : Int)])
      (fun n h1 => s ≤ n ∧ n ≤ l.length ∧ cntE e.c (l.take n) ≤ n ∧ ((cntE e.c (l.take n) = 0 ∧ fstE e.c (l.take n) = -1) ∨ ∃ k : Nat, k < n ∧ fstE e.c (l.take n) = (k : Int)) ∧ h1 = h) (fun n => l.length - n) s (by rw [b1, b2]; rfl) ⟨Nat.le_refl _, hs1, by omega, .inl ⟨b1, b2⟩, rfl⟩ ?_
    rintro n h1 ⟨a1, a2, a3, a4, rfl⟩
    rcases Nat.lt_or_ge n l.length with hlt | hge
    · have i1 : (n : Int) < (l.length : Int) := by omega
      have hnz := hs2 n hlt a1
      have e1 := cntE_take (e := e.c) hlt
      have e2 := fstE_take (e := e.c) hlt
      rw [if_neg hnz] at e1 e2
      have r1 := f84 (h := h1) (hl _ (List.getElem_mem hlt)) he
      simp only [amS, Nat.reduceAdd, Nat.reduceLeDiff, Nat.reduceEqDiff, ↓reduceIte, reduceCtorEq, fillAt, targetOf, hv'.lenM, i1, not_true_eq_false, false_implies, true_implies, not_false_eq_true, hv'.eaddrM hlt, Fmt.len_row, Fmt.take_row, Nat.le_refl, r1.call, pe_inc (show cntE e.c (l.take n) < 9223372036854775807 by omega), pe_inc (show n < 9223372036854775807 by omega)]
      rw [cndW_iff]
      refine ⟨fun h2 => ⟨fun h3 => ?_, fun h3 => ?_⟩, fun h2 => ?_⟩
      · rw [if_pos h2] at e1 e2
        rw [if_neg (by omega)] at e2
        refine LoopPost.next (n + 1) (by rw [e1, e2]) ⟨by omega, hlt, by omega, .inr ⟨n, by omega, e2⟩, rfl⟩ (by omega)
      · rw [if_pos h2] at e1 e2
        rw [if_pos (by omega)] at e2
        refine LoopPost.next (n + 1) (by rw [e1, e2]) ⟨by omega, hlt, by omega, .inr ?_, rfl⟩ (by omega)
        rw [e2]
        rcases a4 with ⟨_, a4⟩ | ⟨k, hk, a4⟩
        · omega
        · exact ⟨k, by omega, a4⟩
      · rw [if_neg (by simp [h2])] at e1
        rw [if_neg (show ¬ alikeC l[n].c e.c = true by simp [h2])] at e2
        have e2' : fstE e.c (l.take (n + 1)) = fstE e.c (l.take n) := by
          rw [e2]; rcases a4 with ⟨_, a4⟩ | ⟨k, hk, a4⟩ <;> rw [a4] <;> simp
        refine LoopPost.next (n + 1) (by rw [e1, e2']; rfl) ⟨by omega, hlt, by omega, ?_, rfl⟩ (by omega)
        rw [e1, e2']
        rcases a4 with a4 | ⟨k, hk, a4⟩
        · exact .inl a4
        · exact .inr ⟨k, by omega, a4⟩
    · have i1 : ¬ (n : Int) < (l.length : Int) := by omega
      rw [List.take_of_length_le hge] at a3 a4 ⊢
      simp only [amS, Nat.reduceAdd, Nat.reduceLeDiff, Nat.reduceEqDiff, ↓reduceIte, reduceCtorEq, fillAt, targetOf, hv'.lenM, i1, not_true_eq_false, false_implies, true_implies, not_false_eq_true]
      refine ⟨fun h2 => ⟨fun h3 => ?_, fun h3 => ?_⟩, fun h2 => ?_⟩
      · rcases a4 with ⟨a4, _⟩ | ⟨k, hk, a4⟩
        · omega
        have hkl : k < l.length := by omega
        obtain ⟨u1, r1, hu1⟩ := f137 (h := h1) hv hb hkl
        have hlen : (dropAt l k).length ≤ l.length := by unfold dropAt; rw [List.length_append, List.length_take, List.length_drop]; omega
        obtain ⟨u2, e', he', r2, hu2⟩ := f135 (h := h1) hu1 (by omega) he ((dropAt l k).length : Int)
        have hcl : clampPos ((dropAt l k).length : Int) (dropAt l k).length = (dropAt l k).length := by unfold clampPos; omega
        rw [hcl, List.take_length, List.drop_length] at hu2
        simp only [amS, Nat.reduceAdd, Nat.reduceLeDiff, Nat.reduceEqDiff, ↓reduceIte, reduceCtorEq, fillAt, targetOf, a4, r1.call, IsSl.lenM hu1, r2.call]
        refine ⟨_, rfl, e', he', ?_⟩
        rw [pushed, if_pos ⟨h2, by omega⟩, a4, Int.toNat_natCast]
        exact hu2
      · obtain ⟨u2, e', he', r2, hu2⟩ := f135 (h := h1) hv hb he (l.length : Int)
        have hcl : clampPos (l.length : Int) l.length = l.length := by unfold clampPos; omega
        rw [hcl, List.take_length, List.drop_length] at hu2
        simp only [amS, Nat.reduceAdd, Nat.reduceLeDiff, Nat.reduceEqDiff, ↓reduceIte, reduceCtorEq, fillAt, targetOf, hv'.lenM, r2.call]
        refine ⟨_, rfl, e', he', ?_⟩
        rw [pushed, if_neg (by omega)]
        exact hu2
      · obtain ⟨u2, e', he', r2, hu2⟩ := f135 (h := h1) hv hb he (l.length : Int)
        have hcl : clampPos (l.length : Int) l.length = l.length := by unfold clampPos; omega
        rw [hcl, List.take_length, List.drop_length] at hu2
        simp only [amS, Nat.reduceAdd, Nat.reduceLeDiff, Nat.reduceEqDiff, ↓reduceIte, reduceCtorEq, fillAt, targetOf, hv'.lenM, r2.call]
        refine ⟨_, rfl, e', he', ?_⟩
        rw [pushed, if_neg (fun h => h2 h.1)]
        exact hu2
  obtain ⟨r, h', hr, rfl, e', he', hu⟩ := hev.ret
  exact ⟨r, e', he', hr, hu⟩
end
end Go.Am
