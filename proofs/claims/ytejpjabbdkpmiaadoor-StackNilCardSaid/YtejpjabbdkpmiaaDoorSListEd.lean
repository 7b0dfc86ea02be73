/-
  The list of active formatting elements: what the changing functions and the specification's return. No law is claimed here.
-/
import Derived.Test.YtejpjabbdkpmiaaDoorSList
namespace Go.Am
open Go
set_option maxRecDepth 100000
set_option linter.unusedSimpArgs false
set_option linter.unusedVariables false

mutual
theorem AVal.beq_self : ∀ a : AVal, AVal.beq a a = true
  | .bool a => by simp [AVal.beq]
  | .int k a => by simp [AVal.beq]
  | .str a => by simp [AVal.beq]
  | .ptr a => by simp [AVal.beq]
  | .rptr a => by simp [AVal.beq, AVal.beqL_self a]
  | .sl n a => by simp [AVal.beq, AVal.beqLL_self a]
  | .slnil => by simp [AVal.beq]
  | .msl a c d e => by simp [AVal.beq]
  | .map a => by simp [AVal.beq]
  | .func f a c => by simp [AVal.beq, AVal.beqL_self a, AVal.beqL_self c]
  | .nilFunc => by simp [AVal.beq]
  | .iface t a => by simp [AVal.beq, AVal.beq_self a]
  | .nilIface => by simp [AVal.beq]
  | .agg a => by simp [AVal.beq, AVal.beqL_self a]
  | .tuple a => by simp [AVal.beq, AVal.beqL_self a]
theorem AVal.beqL_self : ∀ a : List AVal, AVal.beqL a a = true
  | [] => by simp [AVal.beqL]
  | a :: x => by simp [AVal.beqL, AVal.beq_self a, AVal.beqL_self x]
theorem AVal.beqLL_self : ∀ a : List (List AVal), AVal.beqLL a a = true
  | [] => by simp [AVal.beqLL]
  | a :: x => by simp [AVal.beqLL, AVal.beqL_self a, AVal.beqLL_self x]
end
theorem W_same_self {Q : Post} {h : AHeap} {a : AVal} {k : IT} : W cx (.same a a k) Q h ↔ W cx k Q h := by
  refine ⟨fun hw => ?_, W_same (AVal.beq_self a)⟩
  obtain ⟨m, x', vs', h', hr, q⟩ := hw.succ
  simp only [IT.step, AVal.beq_self, if_true] at hr
  exact W_succ ⟨m, x', vs', h', hr, q⟩

def LObj (h : AHeap) (id : Nat) (l : List Fmt) : Prop := ∃ u, h[id]? = some (.cells [u]) ∧ IsFmts l u
theorem IsFmts.cells {l : List Fmt} {v : AVal} (hv : IsFmts l v) : v.cells = [v] := IsSl.cells hv
theorem LObj.lt {h : AHeap} {id : Nat} {l : List Fmt} (hs : LObj h id l) : id < h.length := by obtain ⟨u, hc, hu⟩ := hs; exact (List.getElem?_eq_some_iff.1 hc).1
theorem LObj.of_set {h : AHeap} {id : Nat} {l : List Fmt} {u : AVal} (hlt : id < h.length) (hu : IsFmts l u) : LObj (h.set id (.cells [u])) id l := ⟨u, by simp [hlt], hu⟩
theorem rowF (l : List Fmt) : ∀ r ∈ l.map Fmt.row, r.length = 3 := map_rows (f := Fmt.row) (fun a => Fmt.len_row) l

section
variable {h : AHeap} {v : AVal} {l : List Fmt} {id : Nat}
theorem f164 {l : List Attr} (hv : IsAttrs l v) (hb : l.length ≤ 100000) : ∃ u, Ret cx 164 [v] h u h ∧ IsAttrs l u := by
  have hv : IsSl 3 (l.map Attr.row) v := hv
  rcases hv with rfl | ⟨rfl, hn⟩
  · refine ⟨.sl 3 (l.map Attr.row), ?_, .mk⟩
    have e1 : peval (.nileq false .sl) [.sl 3 (l.map Attr.row), .slnil] = some (.bool false) := rfl
    have e2 : peval (.mksl 3) [] = some (.sl 3 []) := rfl
    have e3 : happM h 3 40 (.sl 3 []) (.sl 3 (l.map Attr.row)) = some (.sl 3 (l.map Attr.row)) := by
      simp only [happM, rowsAt, if_true, Option.bind_some]
      cases l with
      | nil => rfl
      | cons a l =>
        have : (l.length + 1) * 40 ≤ maxBytes := big40 (by simp at hb; omega)
        simp [appendTo, this]
    rw [ret_iff, t164_eq, t164]
    simp only [amS, Nat.reduceAdd, Nat.reduceLeDiff, Nat.reduceEqDiff, ↓reduceIte, reduceCtorEq, fillAt, targetOf, e1, e2, e3]
  · refine ⟨.slnil, ?_, ?_⟩
    · have e1 : peval (.nileq false .sl) [.slnil, .slnil] = some (.bool true) := rfl
      rw [ret_iff, t164_eq, t164]
      simp only [amS, Nat.reduceAdd, Nat.reduceLeDiff, Nat.reduceEqDiff, ↓reduceIte, reduceCtorEq, fillAt, targetOf, e1]
    · exact .inr ⟨rfl, hn⟩
theorem f125 {e : Fmt} (he : FOk e) : ∃ e' : Fmt, e'.c = e.c ∧ Ret cx 125 [.agg e.row] h (.agg e'.row) h := by
  obtain ⟨u, r, hu⟩ := f164 (h := h) e.ok he
  refine ⟨⟨e.c, u, hu⟩, rfl, ?_⟩
  rw [ret_iff, t125_eq, t125]
  simp only [amS, Nat.reduceAdd, Nat.reduceLeDiff, Nat.reduceEqDiff, ↓reduceIte, reduceCtorEq, fillAt, targetOf, Fmt.len_row, Fmt.g0, Fmt.g1, Fmt.g2, r.call, IsSl.cells hu]
  rfl
theorem f167 {e : Fmt} (he : FOk e) : ∃ e' : Fmt, e'.c = e.c ∧ Ret cx 167 [.agg e.row] h (.agg e'.row) h := by
  obtain ⟨u, r, hu⟩ := IsSl.appNil (f := Attr.row) e.ok (b := 40) (big40 (by unfold FOk at he; omega))
  refine ⟨⟨e.c, u, hu⟩, rfl, ?_⟩
  rw [ret_iff, t167_eq, t167]
  simp only [amS, Nat.reduceAdd, Nat.reduceLeDiff, Nat.reduceEqDiff, ↓reduceIte, reduceCtorEq, fillAt, targetOf, Fmt.len_row, Fmt.g0, Fmt.g1, Fmt.g2, r, IsSl.cells hu]
  rfl
theorem f123 (hv : IsFmts l v) {k : Nat} (hk : k < l.length) (hb : l.length ≤ 100000) : ∃ u, Ret cx 123 [v, .int .i64 (k : Int)] h u h ∧ IsFmts (dropAt l k) u := by
  obtain ⟨u1, e1, h1⟩ := IsSl.slcHi hv (k := .i64) (show k ≤ l.length by omega)
  obtain ⟨u2, e2, h2⟩ := IsSl.appNil h1 (b := 48) (big48 (by rw [List.length_take]; omega))
  obtain ⟨u4, e4, h4⟩ := IsSl.slcLo hv (k := .i64) (show k + 1 ≤ l.length by omega)
  obtain ⟨u5, e5, h5⟩ := IsSl.appM h2 h4 (b := 48) (big48 (by rw [List.length_take, List.length_drop]; omega))
  refine ⟨u5, ?_, h5⟩
  rw [ret_iff, t123_eq, t123]
  simp only [amS, Nat.reduceAdd, Nat.reduceLeDiff, Nat.reduceEqDiff, ↓reduceIte, reduceCtorEq, fillAt, targetOf, e1, e2, pe_inc (show k < 9223372036854775807 by omega), e4, e5]
theorem pe_mksl3r {r : List AVal} (h : r.length = 3) : peval (.mksl 3) [.agg r] = some (.sl 3 [r]) := pe_mksl1 (a := .agg r) h (by decide)
theorem f124 (hv : IsFmts l v) (e : Fmt) {k : Nat} (hk : k ≤ l.length) (hb : l.length ≤ 100000) : ∃ u, Ret cx 124 [v, .agg e.row, .int .i64 (k : Int)] h u h ∧ IsFmts (l.take k ++ e :: l.drop k) u := by
  obtain ⟨u1, e1, h1⟩ := IsSl.slcHi hv (k := .i64) hk
  obtain ⟨u2, e2, h2⟩ := IsSl.appNil h1 (b := 48) (big48 (by rw [List.length_take]; omega))
  have e3 := IsSl.app1M (a := e) h2 (b := 48) (big48 (by rw [List.length_take]; omega))
  obtain ⟨u4, e4, h4⟩ := IsSl.slcLo hv (k := .i64) hk
  obtain ⟨u5, e5, h5⟩ := IsSl.appM (f := Fmt.row) (l := l.take k ++ [e]) .mk h4 (b := 48) (big48 (by rw [List.length_append, List.length_take, List.length_drop, List.length_singleton]; omega))
  refine ⟨u5, ?_, by rw [List.append_assoc] at h5; exact h5⟩
  rw [ret_iff, t124_eq, t124]
  simp only [amS, Nat.reduceAdd, Nat.reduceLeDiff, Nat.reduceEqDiff, ↓reduceIte, reduceCtorEq, fillAt, targetOf, Fmt.len_row, Fmt.g0, Fmt.g1, Fmt.g2, Fmt.fold, e1, e2, pe_mksl3r Fmt.len_row, e3, e4, e5]
/-- Clone, of a list that is not empty: a new object. -/
theorem f126 (hv : IsFmts l v) (hne : l ≠ []) (hb : l.length ≤ 100000) : Ret cx 126 [v] h (.msl h.length 0 l.length 3) (h ++ [.cells (l.map Fmt.row).flatten]) := by
  have e1 : peval (.nileq false .sl) [v, .slnil] = some (.bool false) := by
    rcases hv with rfl | ⟨rfl, hv⟩
    · rfl
    · exact absurd (by simpa using hv) hne
  have e2 : peval (.mksl 3) [] = some (.sl 3 []) := rfl
  have e3 := hobjOf_some (h := h) (s := .sl 3 []) (z := 3) (b := 48) (.inr rfl) hv (by simpa using hne) (by rw [List.length_map]; exact big48 (by omega))
  rw [List.length_map] at e3
  rw [ret_iff, t126_eq, t126]
  simp only [amS, Nat.reduceAdd, Nat.reduceLeDiff, Nat.reduceEqDiff, ↓reduceIte, reduceCtorEq, fillAt, targetOf, e1, e2, e3]
theorem entIdx_spec (n : Int) (l : List Fmt) : entIdx n l = -1 ∨ ∃ k : Nat, k < l.length ∧ entIdx n l = (k : Int) := by
  unfold entIdx
  split
  · exact .inl rfl
  · rcases lastIdx_spec (q := nodeIs n) (l := l) with ⟨h1, _⟩ | ⟨k, hk, h1, _⟩
    · exact .inl h1
    · exact .inr ⟨k, hk, h1⟩
/-- Remove. -/
theorem f133 (hs : LObj h id l) (hb : l.length ≤ 100000) (node : Int) : ∃ h', Ret cx 133 [.ptr (some (id, 0)), .int .i64 node] h (.bool (decide (0 ≤ entIdx node l))) h' ∧ h'.length = h.length ∧ LObj h' id (if entIdx node l < 0 then l else dropAt l (entIdx node l).toNat) := by
  obtain ⟨v, hc, hv⟩ := (show LObj h id l from hs)
  rcases entIdx_spec node l with h1 | ⟨k, hk, h1⟩
  · refine ⟨h, ?_, rfl, by rw [h1]; exact hs⟩
    rw [ret_iff, t133_eq, t133]
    simp only [amS, Nat.reduceAdd, Nat.reduceLeDiff, Nat.reduceEqDiff, ↓reduceIte, reduceCtorEq, fillAt, targetOf, (f82 hc hv hb node).call, h1, show (-1 : Int) < 0 by decide, not_true_eq_false, true_implies, false_implies]
    rfl
  · obtain ⟨u, hr, hu⟩ := f123 (h := h) hv hk hb
    refine ⟨h.set id (.cells [u]), ?_, List.length_set, by rw [h1, if_neg (by omega), Int.toNat_natCast]; exact .of_set hs.lt hu⟩
    rw [ret_iff, t133_eq, t133]
    simp only [amS, Nat.reduceAdd, Nat.reduceLeDiff, Nat.reduceEqDiff, ↓reduceIte, reduceCtorEq, fillAt, targetOf, itS, (f82 hc hv hb node).call, h1, show ¬ (k : Int) < 0 by omega, not_false_eq_true, true_implies, false_implies, hload_at hc, Nat.add_zero, hr.call, hstore1 hc (IsFmts.cells hu), show (0 : Int) ≤ (k : Int) by omega, decide_true]
/-- Mark. -/
def markFmt : Fmt := ⟨⟨0, [], []⟩, .slnil, .nil⟩
theorem mark_row : [I 0, S [], AVal.slnil] = markFmt.row := rfl
theorem f94 (hs : LObj h id l) (hb : l.length ≤ 100000) : ∃ h', Ret cx 94 [.ptr (some (id, 0))] h (.tuple []) h' ∧ h'.length = h.length ∧ LObj h' id (l ++ [markFmt]) := by
  obtain ⟨v, hc, hv⟩ := (show LObj h id l from hs)
  obtain ⟨u, hr, hu⟩ := f124 (h := h) hv markFmt (Nat.le_refl l.length) hb
  rw [List.take_length, List.drop_length] at hu
  refine ⟨h.set id (.cells [u]), ?_, List.length_set, .of_set hs.lt hu⟩
  rw [ret_iff, t94_eq, t94]
  simp only [amS, Nat.reduceAdd, Nat.reduceLeDiff, Nat.reduceEqDiff, ↓reduceIte, reduceCtorEq, fillAt, targetOf, itS, bne_self_eq_false, Bool.bne_true, Bool.not_false, hload_at hc, Nat.add_zero, IsSl.lenM hv, mark_row, hr.call, hstore1 hc (IsFmts.cells hu)]
/-- Insert. -/
def clampPos (i : Int) (n : Nat) : Nat := min (max i 0).toNat n
theorem f72 (hs : LObj h id l) (hb : l.length ≤ 100000) {e : Fmt} (he : FOk e) (i : Int) : ∃ h' e', e'.c = e.c ∧ Ret cx 72 [.ptr (some (id, 0)), .agg e.row, .int .i64 i] h (.tuple []) h' ∧ h'.length = h.length ∧ LObj h' id (l.take (clampPos i l.length) ++ e' :: l.drop (clampPos i l.length)) := by
  obtain ⟨v, hc, hv⟩ := (show LObj h id l from hs)
  obtain ⟨e', he', r1⟩ := f125 (h := h) he
  obtain ⟨u, hr, hu⟩ := f124 (h := h) hv e' (k := clampPos i l.length) (by unfold clampPos; omega) hb
  refine ⟨h.set id (.cells [u]), e', he', ?_, List.length_set, .of_set hs.lt hu⟩
  have e1 : (if (l.length : Int) < (if i < 0 then 0 else i) then (l.length : Int) else (if i < 0 then 0 else i)) = ((clampPos i l.length : Nat) : Int) := by
    unfold clampPos; split <;> split <;> omega
  rw [ret_iff, t72_eq, t72]
  simp only [amS, Nat.reduceAdd, Nat.reduceLeDiff, Nat.reduceEqDiff, ↓reduceIte, reduceCtorEq, fillAt, targetOf, itS, Fmt.len_row, Fmt.g0, Fmt.g1, Fmt.g2, Fmt.fold, bne_self_eq_false, Bool.bne_true, Bool.not_false, hload_at hc, Nat.add_zero, pe_max, IsSl.lenM hv, pe_min, e1, r1.call, W_same_self, hr.call, hstore1 hc (IsFmts.cells hu)]
/-- Clear. -/
def clearLen (l : List Fmt) : Nat := (since l - 1).toNat
theorem f95 (hs : LObj h id l) (hb : l.length ≤ 100000) : ∃ h', Ret cx 95 [.ptr (some (id, 0))] h (.int .i64 ((l.length : Int) - ((clearLen l : Nat) : Int))) h' ∧ h'.length = h.length ∧ LObj h' id (l.take (clearLen l)) := by
  obtain ⟨v, hc, hv⟩ := (show LObj h id l from hs)
  obtain ⟨s, es, hs1, _⟩ := since_spec l
  have hcl : clearLen l ≤ l.length := by unfold clearLen; omega
  obtain ⟨u, e1, hu⟩ := IsSl.slcHi hv (k := .i64) hcl
  refine ⟨h.set id (.cells [u]), ?_, List.length_set, .of_set hs.lt hu⟩
  have e2 : (if since l - 1 < 0 then 0 else since l - 1) = ((clearLen l : Nat) : Int) := by unfold clearLen; split <;> omega
  have hln : (l.take (clearLen l)).length = clearLen l := by rw [List.length_take]; omega
  have c2 : (h.set id (.cells [u]))[id]? = some (.cells [u]) := List.getElem?_set_self hs.lt
  rw [ret_iff, t95_eq, t95]
  simp only [amS, Nat.reduceAdd, Nat.reduceLeDiff, Nat.reduceEqDiff, ↓reduceIte, reduceCtorEq, fillAt, targetOf, itS, bne_self_eq_false, Bool.bne_true, Bool.not_false, hload_at hc, Nat.add_zero, IsSl.lenM hv, (f121 hc hv hb).call, W_same_self, pe_subI (show -9223372036854775808 ≤ since l - 1 by omega) (show since l - 1 < 9223372036854775808 by omega), pe_max, e2, e1, hstore1 hc (IsSl.cells hu), hload_at c2, IsSl.lenM hu, hln, pe_subI (show -9223372036854775808 ≤ (l.length : Int) - ((clearLen l : Nat) : Int) by omega) (show (l.length : Int) - ((clearLen l : Nat) : Int) < 9223372036854775808 by omega)]
end
end Go.Am
