/-
  The list of active formatting elements: what the reading functions and the specification's return. No law is claimed here.
-/
import Derived.Test.YtejpjabbdkpmiaaDoorLAdjusts
namespace Go.Am
open Go
set_option maxRecDepth 100000
set_option linter.unusedSimpArgs false
set_option linter.unusedVariables false

/-- What an entry is, without the memory of its attributes. -/
structure FCor where
  node : Int
  name : Bytes
  attrs : List Attr
deriving DecidableEq
structure Fmt where
  c : FCor
  v : AVal
  ok : IsAttrs c.attrs v
def Fmt.row (e : Fmt) : List AVal := [.int .i64 e.c.node, .str e.c.name, e.v]
def IsFmts (l : List Fmt) (v : AVal) : Prop := IsSl 3 (l.map Fmt.row) v
section
variable {e : Fmt} {d : AVal}
theorem Fmt.len_row : e.row.length = 3 := rfl
theorem Fmt.g0 : e.row.getD 0 d = .int .i64 e.c.node := rfl
theorem Fmt.g1 : e.row.getD 1 d = .str e.c.name := rfl
theorem Fmt.g2 : e.row.getD 2 d = e.v := rfl
theorem Fmt.at0 : e.row[0]? = some (.int .i64 e.c.node) := rfl
theorem Fmt.take_row : e.row.take 3 = e.row := rfl
theorem Fmt.drop1 : e.row.drop 1 = [.str e.c.name, e.v] := rfl
theorem Fmt.drop2 : e.row.drop 2 = [e.v] := rfl
theorem Fmt.fold : [AVal.int .i64 e.c.node, .str e.c.name, e.v] = e.row := rfl
theorem Fmt.lenA : peval (.len false) [e.v] = some (.int .i64 (e.c.attrs.length : Int)) := IsSl.lenM e.ok
theorem Fmt.cellsA : e.v.cells = [e.v] := IsSl.cells e.ok
end
theorem Attr.g0 {a : Attr} {d : AVal} : a.row.getD 0 d = .int .i64 a.space := rfl
theorem Attr.g1 {a : Attr} {d : AVal} : a.row.getD 1 d = .str a.name := rfl
theorem Attr.g2 {a : Attr} {d : AVal} : a.row.getD 2 d = .str a.value := rfl
theorem Attr.fold {a : Attr} : [AVal.int .i64 a.space, .str a.name, .str a.value] = a.row := rfl
theorem big48 {n : Nat} (h : n ≤ 200000) : n * 48 ≤ maxBytes := by have : maxBytes = 140737488355328 := rfl; omega

def isMark (e : Fmt) : Bool := decide (e.c.node = 0)
def nodeIs (n : Int) (e : Fmt) : Bool := decide (e.c.node = n)
/-- The index behind the last marker. -/
def since (l : List Fmt) : Int := lastIdx isMark l + 1
theorem since_nil : since [] = 0 := rfl
theorem since_snoc {l : List Fmt} {e : Fmt} : since (l ++ [e]) = if e.c.node = 0 then (l.length : Int) + 1 else since l := by
  unfold since
  rw [lastIdx_snoc]
  by_cases h : e.c.node = 0 <;> simp [isMark, h]
theorem since_take {l : List Fmt} {n : Nat} (hn : n < l.length) : since (l.take (n + 1)) = if l[n].c.node = 0 then (n : Int) + 1 else since (l.take n) := by
  rw [List.take_succ_eq_append_getElem hn, since_snoc, List.length_take, Nat.min_eq_left (Nat.le_of_lt hn)]
theorem since_spec (l : List Fmt) : ∃ s : Nat, since l = (s : Int) ∧ s ≤ l.length ∧ (∀ m (hm : m < l.length), s ≤ m → l[m].c.node ≠ 0) ∧ (∀ t, s = t + 1 → ∃ ht : t < l.length, l[t].c.node = 0) := by
  rcases lastIdx_spec (q := isMark) (l := l) with ⟨h1, h2⟩ | ⟨n, hn, h1, h2, h3⟩
  · refine ⟨0, by unfold since; rw [h1]; rfl, Nat.zero_le _, fun m hm _ => ?_, fun t ht => by omega⟩
    have := h2 _ (List.getElem_mem hm)
    simpa [isMark] using this
  · refine ⟨n + 1, by unfold since; rw [h1]; rfl, hn, fun m hm hle => ?_, fun t ht => ?_⟩
    · have := h3 m hm (by omega)
      simpa [isMark] using this
    · obtain rfl : t = n := by omega
      exact ⟨hn, by simpa [isMark] using h2⟩

section
variable {h : AHeap} {v : AVal} {l : List Fmt} {id : Nat}
/-- The program's from. -/
theorem f121 (hc : h[id]? = some (.cells [v])) (hv : IsFmts l v) (hb : l.length ≤ 100000) : Ret cx 121 [.ptr (some (id, 0))] h (.int .i64 (since l)) h := by
  have hv : IsSl 3 (l.map Fmt.row) v := hv
  rw [ret_iff, t121_eq, t121]
  simp only [amS, Nat.reduceAdd, Nat.reduceLeDiff, Nat.reduceEqDiff, ↓reduceIte, reduceCtorEq, fillAt, targetOf, hload_at hc, Nat.add_zero, hv.lenM]
  refine W_loop_st (fun n : Nat => [.int .i64 (n : Int)]) (fun n h1 => n ≤ l.length ∧ since l = since (l.take n) ∧ h1 = h) (fun n => n) l.length rfl ⟨Nat.le_refl _, by rw [List.take_length], rfl⟩ ?_
  rintro n h1 ⟨hn, ha, rfl⟩
  cases n with
  | zero =>
    simp only [amS, Nat.reduceAdd, Nat.reduceLeDiff, Nat.reduceEqDiff, ↓reduceIte, reduceCtorEq, fillAt, targetOf, show ¬ (0 : Int) < ((0 : Nat) : Int) by omega, not_false_eq_true, true_implies, false_implies, ha, List.take_zero, since_nil]
    rfl
  | succ n =>
    rw [since_take hn] at ha
    simp only [amS, Nat.reduceAdd, Nat.reduceLeDiff, Nat.reduceEqDiff, ↓reduceIte, reduceCtorEq, fillAt, targetOf, show (0 : Int) < ((n + 1 : Nat) : Int) by omega, not_true_eq_false, not_false_eq_true, true_implies, false_implies, hload_at hc, Nat.add_zero, pe_dec (show 0 < n + 1 by omega) (show n + 1 < 9223372036854775807 by omega), Nat.add_sub_cancel, hv.eaddrM (show n < l.length from hn), Fmt.at0, Fmt.len_row]
    refine ⟨fun h0 => LoopPost.next n rfl ⟨by omega, by rw [ha, if_neg h0], rfl⟩ (by omega), fun h0 => ?_⟩
    rw [if_pos (by simpa using h0)] at ha
    rw [ha]
    rfl
/-- The specification's since. -/
theorem f139 (hv : IsFmts l v) (hb : l.length ≤ 100000) : Ret cx 139 [v] h (.int .i64 (since l)) h := by
  have hv : IsSl 3 (l.map Fmt.row) v := hv
  rw [ret_iff, t139_eq, t139]
  refine W_loop_st (fun n : Nat => [.int .i64 (since (l.take n)), .int .i64 (n : Int)]) (fun n h1 => n ≤ l.length ∧ h1 = h) (fun n => l.length - n) 0 rfl ⟨Nat.zero_le _, rfl⟩ ?_
  rintro n h1 ⟨hn, rfl⟩
  rcases Nat.lt_or_ge n l.length with hlt | hge
  · have i1 : (n : Int) < (l.length : Int) := by omega
    have e1 := since_take hlt
    simp only [amS, Nat.reduceAdd, Nat.reduceLeDiff, Nat.reduceEqDiff, ↓reduceIte, reduceCtorEq, fillAt, targetOf, hv.lenM, i1, not_true_eq_false, not_false_eq_true, true_implies, false_implies, hv.eaddrM hlt, Fmt.at0, Fmt.len_row, pe_inc (show n < 9223372036854775807 by omega)]
    refine ⟨fun h0 => ?_, fun h0 => ?_⟩
    · rw [if_pos h0] at e1
      exact LoopPost.next (n + 1) (by rw [e1]; rfl) ⟨hlt, rfl⟩ (by omega)
    · rw [if_neg h0] at e1
      exact LoopPost.next (n + 1) (by rw [e1]) ⟨hlt, rfl⟩ (by omega)
  · have i1 : ¬ (n : Int) < (l.length : Int) := by omega
    simp only [amS, Nat.reduceAdd, Nat.reduceLeDiff, Nat.reduceEqDiff, ↓reduceIte, reduceCtorEq, fillAt, targetOf, hv.lenM, i1, not_false_eq_true, true_implies, false_implies, List.take_of_length_le hge]

/-- The index of the last entry behind the last marker with a name. -/
def findR (name : Bytes) : List Fmt → Int
  | [] => -1
  | e :: t => if e.c.node = 0 then -1 else if e.c.name = name then (t.length : Int) else findR name t
def findE (name : Bytes) (l : List Fmt) : Int := findR name l.reverse
theorem findE_take {name : Bytes} {n : Nat} (hn : n < l.length) : findE name (l.take (n + 1)) = if l[n].c.node = 0 then -1 else if l[n].c.name = name then (n : Int) else findE name (l.take n) := by
  rw [List.take_succ_eq_append_getElem hn, findE, List.reverse_append, List.reverse_singleton, List.singleton_append, findR, List.length_reverse, List.length_take, Nat.min_eq_left (Nat.le_of_lt hn), findE]
theorem findE_nil {name : Bytes} : findE name [] = -1 := rfl
theorem findE_since {name : Bytes} {s : Nat} (hs : since l = (s : Int)) : findE name (l.take s) = -1 := by
  obtain ⟨s', e, h1, h2, h3⟩ := since_spec l
  obtain rfl : s = s' := by omega
  cases s with
  | zero => rfl
  | succ t =>
    obtain ⟨ht, h0⟩ := h3 t rfl
    rw [findE_take ht, if_pos h0]
theorem f80 (hc : h[id]? = some (.cells [v])) (hv : IsFmts l v) (hb : l.length ≤ 100000) (name : Bytes) : Ret cx 80 [.ptr (some (id, 0)), .str name] h (.int .i64 (findE name l)) h := by
  have hv : IsSl 3 (l.map Fmt.row) v := hv
  rw [ret_iff, t80_eq, t80]
  simp only [amS, Nat.reduceAdd, Nat.reduceLeDiff, Nat.reduceEqDiff, ↓reduceIte, reduceCtorEq, fillAt, targetOf, itS, bne_self_eq_false, Bool.bne_true, Bool.not_false, hload_at hc, Nat.add_zero, hv.lenM, pe_subI (show -9223372036854775808 ≤ (l.length : Int) - 1 by omega) (show (l.length : Int) - 1 < 9223372036854775808 by omega)]
  refine W_loop_st (fun n : Nat => [.int .i64 0, .int .i64 ((n : Int) - 1)]) (fun n h1 => n ≤ l.length ∧ findE name l = findE name (l.take n) ∧ h1 = h) (fun n => n) l.length rfl ⟨Nat.le_refl _, by rw [List.take_length], rfl⟩ ?_
  rintro n h1 ⟨hn, ha, rfl⟩
  cases n with
  | zero =>
    have i1 : ¬ (0 : Int) ≤ ((0 : Nat) : Int) - 1 := by omega
    rw [ha]
    simp only [amS, Nat.reduceAdd, Nat.reduceLeDiff, Nat.reduceEqDiff, ↓reduceIte, reduceCtorEq, fillAt, targetOf, i1, not_false_eq_true, true_implies, false_implies, List.take_zero, findE_nil]
  | succ n =>
    have i2 : ((n + 1 : Nat) : Int) - 1 = (n : Int) := by omega
    rw [findE_take hn] at ha
    simp only [amS, Nat.reduceAdd, Nat.reduceLeDiff, Nat.reduceEqDiff, ↓reduceIte, reduceCtorEq, fillAt, targetOf, i2, show (0 : Int) ≤ (n : Int) by omega, not_true_eq_false, not_false_eq_true, true_implies, false_implies, hload_at hc, Nat.add_zero, hv.eaddrM (show n < l.length from hn), Fmt.at0, Fmt.drop1, Fmt.len_row, pe_subI (show -9223372036854775808 ≤ (n : Int) - 1 by omega) (show (n : Int) - 1 < 9223372036854775808 by omega)]
    refine ⟨fun h0 => ⟨fun h1 => ?_, fun h1 => ?_⟩, fun h0 => ?_⟩
    · rw [ha, if_neg h0, if_pos h1]
    · exact LoopPost.next n rfl ⟨by omega, by rw [ha, if_neg h0, if_neg h1], rfl⟩ (by omega)
    · rw [ha, if_pos (by simpa using h0)]
theorem f81 (hv : IsFmts l v) (hb : l.length ≤ 100000) (name : Bytes) : Ret cx 81 [v, .str name] h (.int .i64 (findE name l)) h := by
  have hv' : IsSl 3 (l.map Fmt.row) v := hv
  obtain ⟨s, es, hs1, hs2, hs3⟩ := since_spec l
  have r1 := f139 (h := h) hv hb
  rw [es] at r1
  rw [ret_iff, t81_eq, t81]
  simp only [amS, Nat.reduceAdd, Nat.reduceLeDiff, Nat.reduceEqDiff, ↓reduceIte, reduceCtorEq, fillAt, targetOf, r1.call]
  refine W_loop_st (fun n : Nat => [.int .i64 (findE name (l.take n)), .int .i64 (n : Int)]) (fun n h1 => s ≤ n ∧ n ≤ l.length ∧ h1 = h) (fun n => l.length - n) s (by rw [findE_since es]) ⟨Nat.le_refl _, hs1, rfl⟩ ?_
  rintro n h1 ⟨hsn, hn, rfl⟩
  rcases Nat.lt_or_ge n l.length with hlt | hge
  · have i1 : (n : Int) < (l.length : Int) := by omega
    have e1 := findE_take (name := name) hlt
    rw [if_neg (hs2 n hlt hsn)] at e1
    simp only [amS, Nat.reduceAdd, Nat.reduceLeDiff, Nat.reduceEqDiff, ↓reduceIte, reduceCtorEq, fillAt, targetOf, hv'.lenM, i1, not_true_eq_false, not_false_eq_true, true_implies, false_implies, hv'.eaddrM hlt, Fmt.drop1, Fmt.len_row, pe_inc (show n < 9223372036854775807 by omega)]
    refine ⟨fun h0 => ?_, fun h0 => ?_⟩
    · rw [if_pos h0] at e1
      exact LoopPost.next (n + 1) (by rw [e1]) ⟨by omega, hlt, rfl⟩ (by omega)
    · rw [if_neg h0] at e1
      exact LoopPost.next (n + 1) (by rw [e1]) ⟨by omega, hlt, rfl⟩ (by omega)
  · have i1 : ¬ (n : Int) < (l.length : Int) := by omega
    simp only [amS, Nat.reduceAdd, Nat.reduceLeDiff, Nat.reduceEqDiff, ↓reduceIte, reduceCtorEq, fillAt, targetOf, hv'.lenM, i1, not_false_eq_true, true_implies, false_implies, List.take_of_length_le hge]

/-- The index of the last entry with a node. -/
def entIdx (node : Int) (l : List Fmt) : Int := if node = 0 then -1 else lastIdx (nodeIs node) l
theorem f82 (hc : h[id]? = some (.cells [v])) (hv : IsFmts l v) (hb : l.length ≤ 100000) (node : Int) : Ret cx 82 [.ptr (some (id, 0)), .int .i64 node] h (.int .i64 (entIdx node l)) h := by
  have hv : IsSl 3 (l.map Fmt.row) v := hv
  rw [ret_iff, t82_eq, t82]
  simp only [amS, Nat.reduceAdd, Nat.reduceLeDiff, Nat.reduceEqDiff, ↓reduceIte, reduceCtorEq, fillAt, targetOf, itS, bne_self_eq_false, Bool.bne_true, Bool.not_false, hload_at hc, Nat.add_zero, hv.lenM, pe_subI (show -9223372036854775808 ≤ (l.length : Int) - 1 by omega) (show (l.length : Int) - 1 < 9223372036854775808 by omega)]
  refine ⟨fun h0 => by rw [entIdx, if_pos h0], fun h0 => ?_⟩
  rw [entIdx, if_neg h0]
  refine W_loop_st (fun n : Nat => [.int .i64 0, .int .i64 ((n : Int) - 1)]) (fun n h1 => n ≤ l.length ∧ lastIdx (nodeIs node) l = lastIdx (nodeIs node) (l.take n) ∧ h1 = h) (fun n => n) l.length rfl ⟨Nat.le_refl _, by rw [List.take_length], rfl⟩ ?_
  rintro n h1 ⟨hn, ha, rfl⟩
  cases n with
  | zero =>
    have i1 : ¬ (0 : Int) ≤ ((0 : Nat) : Int) - 1 := by omega
    rw [ha]
    simp only [amS, Nat.reduceAdd, Nat.reduceLeDiff, Nat.reduceEqDiff, ↓reduceIte, reduceCtorEq, fillAt, targetOf, i1, not_false_eq_true, true_implies, false_implies, List.take_zero, lastIdx_nil]
  | succ n =>
    have i2 : ((n + 1 : Nat) : Int) - 1 = (n : Int) := by omega
    rw [lastIdx_take hn] at ha
    simp only [amS, Nat.reduceAdd, Nat.reduceLeDiff, Nat.reduceEqDiff, ↓reduceIte, reduceCtorEq, fillAt, targetOf, i2, show (0 : Int) ≤ (n : Int) by omega, not_true_eq_false, not_false_eq_true, true_implies, false_implies, hload_at hc, Nat.add_zero, hv.eaddrM (show n < l.length from hn), Fmt.at0, Fmt.len_row, pe_subI (show -9223372036854775808 ≤ (n : Int) - 1 by omega) (show (n : Int) - 1 < 9223372036854775808 by omega)]
    refine ⟨fun h1 => ?_, fun h1 => ?_⟩
    · rw [ha, if_pos (by simpa [nodeIs] using h1)]
    · exact LoopPost.next n rfl ⟨by omega, by rw [ha, if_neg (by simpa [nodeIs] using h1)], rfl⟩ (by omega)
theorem f83 (hv : IsFmts l v) (hb : l.length ≤ 100000) (node : Int) : Ret cx 83 [v, .int .i64 node] h (.int .i64 (entIdx node l)) h := by
  have hv' : IsSl 3 (l.map Fmt.row) v := hv
  rw [ret_iff, t83_eq, t83]
  refine W_loop_st (fun n : Nat => [.int .i64 (entIdx node (l.take n)), .int .i64 (n : Int)]) (fun n h1 => n ≤ l.length ∧ h1 = h) (fun n => l.length - n) 0 (by simp [entIdx, lastIdx_nil]) ⟨Nat.zero_le _, rfl⟩ ?_
  rintro n h1 ⟨hn, rfl⟩
  rcases Nat.lt_or_ge n l.length with hlt | hge
  · have i1 : (n : Int) < (l.length : Int) := by omega
    have e1 : entIdx node (l.take (n + 1)) = if node = 0 then -1 else if l[n].c.node = node then (n : Int) else lastIdx (nodeIs node) (l.take n) := by
      unfold entIdx
      rw [lastIdx_take hlt]
      simp [nodeIs]
    simp only [amS, Nat.reduceAdd, Nat.reduceLeDiff, Nat.reduceEqDiff, ↓reduceIte, reduceCtorEq, fillAt, targetOf, hv'.lenM, i1, not_true_eq_false, not_false_eq_true, true_implies, false_implies, hv'.eaddrM hlt, Fmt.at0, Fmt.len_row, pe_inc (show n < 9223372036854775807 by omega)]
    refine ⟨fun h0 => ⟨fun h1 => ?_, fun h1 => ?_⟩, fun h0 => ?_⟩
    · exact LoopPost.next (n + 1) (by rw [e1, if_neg h0, if_pos h1]) ⟨hlt, rfl⟩ (by omega)
    · exact LoopPost.next (n + 1) (by rw [e1, if_neg h0, if_neg h1, entIdx, if_neg h0]) ⟨hlt, rfl⟩ (by omega)
    · have h0 : node = 0 := by simpa using h0
      exact LoopPost.next (n + 1) (by rw [e1, if_pos h0, entIdx, if_pos h0]) ⟨hlt, rfl⟩ (by omega)
  · have i1 : ¬ (n : Int) < (l.length : Int) := by omega
    simp only [amS, Nat.reduceAdd, Nat.reduceLeDiff, Nat.reduceEqDiff, ↓reduceIte, reduceCtorEq, fillAt, targetOf, hv'.lenM, i1, not_false_eq_true, true_implies, false_implies, List.take_of_length_le hge]
end
section
variable {h : AHeap} {v : AVal} {l : List Attr}
theorem f140 (hv : IsAttrs l v) (hb : l.length ≤ 100000) (x : Attr) : Ret cx 140 [v, .agg x.row] h (.bool (decide (x ∈ l))) h := by
  have hv : IsSl 3 (l.map Attr.row) v := hv
  rw [ret_iff, t140_eq, t140]
  simp only [amS, Nat.reduceAdd, Nat.reduceLeDiff, Nat.reduceEqDiff, ↓reduceIte, reduceCtorEq, fillAt, targetOf, Attr.len_row, Attr.g0, Attr.g1, Attr.g2, Attr.fold]
  refine W_loop_st (fun n : Nat => [.bool false, .int .i64 (n : Int)]) (fun n h1 => n ≤ l.length ∧ x ∉ l.take n ∧ h1 = h) (fun n => l.length - n) 0 rfl ⟨Nat.zero_le _, by simp, rfl⟩ ?_
  rintro n h1 ⟨hn, ha, rfl⟩
  rcases Nat.lt_or_ge n l.length with hlt | hge
  · have i1 : (n : Int) < (l.length : Int) := by omega
    simp only [amS, Nat.reduceAdd, Nat.reduceLeDiff, Nat.reduceEqDiff, ↓reduceIte, reduceCtorEq, fillAt, targetOf, hv.lenM, i1, not_true_eq_false, not_false_eq_true, true_implies, false_implies, hv.eaddrM hlt, Attr.len_row, Attr.take_row, Nat.le_refl, attr_neq, Bool.bne_false, pe_inc (show n < 9223372036854775807 by omega)]
    refine ⟨fun h0 => ?_, fun h0 => ?_⟩
    · have : x ∈ l := by rw [← h0]; exact List.getElem_mem hlt
      simp [this]
    · refine LoopPost.next (n + 1) rfl ⟨hlt, ?_, rfl⟩ (by omega)
      rw [List.take_succ_eq_append_getElem hlt, List.mem_append, not_or]
      exact ⟨ha, by simpa using fun e => h0 e.symm⟩
  · have i1 : ¬ (n : Int) < (l.length : Int) := by omega
    rw [List.take_of_length_le hge] at ha
    simp only [amS, Nat.reduceAdd, Nat.reduceLeDiff, Nat.reduceEqDiff, ↓reduceIte, reduceCtorEq, fillAt, targetOf, hv.lenM, i1, not_false_eq_true, true_implies, false_implies, decide_eq_false ha]
theorem f178 (hv : IsAttrs l v) (hb : l.length ≤ 100000) (x : Attr) : Ret cx 178 [v, .agg x.row] h (.int .i64 (idxFrom (fun a => decide (x = a)) 0 l)) h := by
  have hv : IsSl 3 (l.map Attr.row) v := hv
  rw [ret_iff, t178_eq, t178]
  simp only [amS, Nat.reduceAdd, Nat.reduceLeDiff, Nat.reduceEqDiff, ↓reduceIte, reduceCtorEq, fillAt, targetOf, hv.lenM, Attr.len_row, Attr.g0, Attr.g1, Attr.g2, Attr.fold]
  refine W_loop_st (fun n : Nat => [.int .i64 0, .int .i64 (n : Int)]) (fun n h1 => n ≤ l.length ∧ idxFrom (fun a => decide (x = a)) 0 l = idxFrom (fun a => decide (x = a)) n (l.drop n) ∧ h1 = h) (fun n => l.length - n) 0 rfl ⟨Nat.zero_le _, rfl, rfl⟩ ?_
  rintro n h1 ⟨hn, ha, rfl⟩
  rcases Nat.lt_or_ge n l.length with hlt | hge
  · have i1 : (n : Int) < (l.length : Int) := by omega
    rw [List.drop_eq_getElem_cons hlt, idxFrom] at ha
    simp only [amS, Nat.reduceAdd, Nat.reduceLeDiff, Nat.reduceEqDiff, ↓reduceIte, reduceCtorEq, fillAt, targetOf, i1, not_true_eq_false, not_false_eq_true, true_implies, false_implies, hv.eaddrM hlt, Attr.len_row, Attr.take_row, Nat.le_refl, attr_neq, Bool.bne_false, pe_inc (show n < 9223372036854775807 by omega)]
    refine ⟨fun h0 => ?_, fun h0 => ?_⟩
    · rw [ha, if_pos (by simpa using h0)]
    · exact LoopPost.next (n + 1) rfl ⟨hlt, by rw [ha, if_neg (by simpa using h0)], rfl⟩ (by omega)
  · have i1 : ¬ (n : Int) < (l.length : Int) := by omega
    rw [List.drop_of_length_le hge, idxFrom] at ha
    simp only [amS, Nat.reduceAdd, Nat.reduceLeDiff, Nat.reduceEqDiff, ↓reduceIte, reduceCtorEq, fillAt, targetOf, i1, not_false_eq_true, true_implies, false_implies, ha]
theorem f163 (hv : IsAttrs l v) (hb : l.length ≤ 100000) (x : Attr) : Ret cx 163 [v, .agg x.row] h (.bool (decide (x ∈ l))) h := by
  rw [ret_iff, t163_eq, t163]
  simp only [amS, Nat.reduceAdd, Nat.reduceLeDiff, Nat.reduceEqDiff, ↓reduceIte, reduceCtorEq, fillAt, targetOf, Attr.len_row, Attr.g0, Attr.g1, Attr.g2, Attr.fold, (f178 hv hb x).call]
  rcases idxFrom_find (p := fun a => decide (x = a)) (l := l) (k := 0) with ⟨h1, h2⟩ | ⟨n, a, h1, h2, h3⟩
  · rw [h1]
    have : x ∉ l := fun hm => by
      have := List.find?_eq_none.1 h2 x hm
      simp at this
    simp [this]
  · have hm := List.mem_of_getElem? h2
    have he : x = a := by simpa using List.find?_some h3
    have hx : x ∈ l := by rw [he]; exact hm
    rw [h1]
    simp [hx]
/-- What a question about attributes with captured values answers. -/
def AsksR (F : AVal) (h : AHeap) (q : Attr → Bool) : Prop := ∃ f caps, F = .func (.func f) [] caps ∧ ∀ a : Attr, Ret cx f (.agg a.row :: caps) h (.bool (q a)) h
theorem f110c {F : AVal} {q : Attr → Bool} (hv : IsAttrs l v) (hb : l.length ≤ 100000) (hF : AsksR F h q) : Ret cx 110 [v, F] h (.int .i64 (idxFrom q 0 l)) h := by
  have hv : IsSl 3 (l.map Attr.row) v := hv
  obtain ⟨f, caps, rfl, hr⟩ := hF
  rw [ret_iff, t110_eq, t110]
  simp only [amS, Nat.reduceAdd, Nat.reduceLeDiff, Nat.reduceEqDiff, ↓reduceIte, reduceCtorEq, fillAt, targetOf, hv.lenM]
  refine W_loop_st (fun n : Nat => [.int .i64 0, .int .i64 (n : Int)]) (fun n h1 => n ≤ l.length ∧ idxFrom q 0 l = idxFrom q n (l.drop n) ∧ h1 = h) (fun n => l.length - n) 0 rfl ⟨Nat.zero_le _, rfl, rfl⟩ ?_
  rintro n h1 ⟨hn', ha, rfl⟩
  rcases Nat.lt_or_ge n l.length with hlt | hge
  · have i1 : (n : Int) < (l.length : Int) := by omega
    rw [List.drop_eq_getElem_cons hlt, idxFrom] at ha
    simp only [amS, Nat.reduceAdd, Nat.reduceLeDiff, Nat.reduceEqDiff, ↓reduceIte, reduceCtorEq, fillAt, targetOf, i1, not_true_eq_false, true_implies, false_implies, hv.eaddrM hlt, Attr.len_row, Attr.take_row, Nat.le_refl, (hr l[n]).call]
    rw [cndW_iff]
    refine ⟨fun he => ?_, fun he => ?_⟩
    · rw [ha, if_pos he]
    · rw [if_neg (by simp [he])] at ha
      simp only [amS, Nat.reduceAdd, Nat.reduceLeDiff, Nat.reduceEqDiff, ↓reduceIte, reduceCtorEq, fillAt, targetOf, pe_inc (show n < 9223372036854775807 by omega)]
      exact LoopPost.next (n + 1) rfl ⟨hlt, ha, rfl⟩ (by omega)
  · have i1 : ¬ (n : Int) < (l.length : Int) := by omega
    rw [List.drop_of_length_le hge, idxFrom] at ha
    simp only [amS, Nat.reduceAdd, Nat.reduceLeDiff, Nat.reduceEqDiff, ↓reduceIte, reduceCtorEq, fillAt, targetOf, i1, not_false_eq_true, true_implies, false_implies, ha]
theorem f114c {F : AVal} {q : Attr → Bool} (hv : IsAttrs l v) (hb : l.length ≤ 100000) (hF : AsksR F h q) : Ret cx 114 [v, F] h (.bool (l.any q)) h := by
  rw [ret_iff, t114_eq, t114]
  simp only [amS, Nat.reduceAdd, Nat.reduceLeDiff, Nat.reduceEqDiff, ↓reduceIte, reduceCtorEq, fillAt, targetOf, (f110c hv hb hF).call]
  have : l.any q = (l.find? q).isSome := by rw [Bool.eq_iff_iff, List.find?_isSome, List.any_eq_true]
  rw [this]
  rcases idxFrom_find (p := q) (l := l) (k := 0) with ⟨h1, h2⟩ | ⟨n, a, h1, h2, h3⟩
  · rw [h1, h2]; simp
  · rw [h1, h3]; simp
theorem f162 (hv : IsAttrs l v) (hb : l.length ≤ 100000) (x : Attr) : Ret cx 162 [.agg x.row, .rptr [v]] h (.bool (!decide (x ∈ l))) h := by
  rw [ret_iff, t162_eq, t162]
  simp only [amS, Nat.reduceAdd, Nat.reduceLeDiff, Nat.reduceEqDiff, ↓reduceIte, reduceCtorEq, fillAt, targetOf, Attr.len_row, Attr.g0, Attr.g1, Attr.g2, Attr.fold, (f163 hv hb x).call]
theorem f161 {l2 : List Attr} {w : AVal} (hv : IsAttrs l v) (hb : l.length ≤ 100000) (hw : IsAttrs l2 w) (hb2 : l2.length ≤ 100000) : Ret cx 161 [v, w] h (.bool (decide (∀ x ∈ l, x ∈ l2))) h := by
  have hF : AsksR (.func (.func 162) [] [.rptr [w]]) h fun x => !decide (x ∈ l2) := ⟨162, _, rfl, fun a => f162 hw hb2 a⟩
  have e : (!l.any fun x => !decide (x ∈ l2)) = decide (∀ x ∈ l, x ∈ l2) := by
    rw [Bool.eq_iff_iff]; simp
  rw [ret_iff, t161_eq, t161, ← e]
  simp only [amS, Nat.reduceAdd, Nat.reduceLeDiff, Nat.reduceEqDiff, ↓reduceIte, reduceCtorEq, fillAt, targetOf, IsSl.cells hw, (f114c hv hb hF).call]
/-- Whether two entries are alike. -/
def alikeC (a b : FCor) : Bool := decide (a.name = b.name ∧ a.attrs.length = b.attrs.length ∧ (∀ x ∈ a.attrs, x ∈ b.attrs) ∧ ∀ x ∈ b.attrs, x ∈ a.attrs)
def FOk (e : Fmt) : Prop := e.c.attrs.length ≤ 100000
theorem f122 {a b : Fmt} (ha : FOk a) (hb : FOk b) : Ret cx 122 [.agg a.row, .agg b.row] h (.bool (alikeC a.c b.c)) h := by
  have r1 := f161 (h := h) a.ok ha b.ok hb
  have r2 := f161 (h := h) b.ok hb a.ok ha
  rw [ret_iff, t122_eq, t122]
  simp only [amS, Nat.reduceAdd, Nat.reduceLeDiff, Nat.reduceEqDiff, ↓reduceIte, reduceCtorEq, fillAt, targetOf, List.append_nil, Fmt.len_row, Fmt.g0, Fmt.g1, Fmt.g2, Fmt.lenA, r1.call, r2.call]
  refine ⟨fun h1 => ⟨fun h2 => ⟨fun h3 => ?_, fun h3 => ?_⟩, fun h2 => ?_⟩, fun h1 => ?_⟩
  · have h2' : a.c.attrs.length = b.c.attrs.length := by omega
    simp only [alikeC, h1, h2', true_and]
    congr 3
    rw [eq_iff_iff]
    exact ⟨fun h => ⟨h3, h⟩, fun h => h.2⟩
  · simp [alikeC, h3]
  · have h2' : ¬ a.c.attrs.length = b.c.attrs.length := by omega
    simp [alikeC, h2']
  · simp [alikeC, h1]
theorem f84 {a b : Fmt} (ha : FOk a) (hb : FOk b) : Ret cx 84 [.agg a.row, .agg b.row] h (.bool (alikeC a.c b.c)) h := by
  have va : IsSl 3 (a.c.attrs.map Attr.row) a.v := a.ok
  have vb : IsSl 3 (b.c.attrs.map Attr.row) b.v := b.ok
  unfold FOk at ha hb
  rw [ret_iff, t84_eq, t84]
  simp only [amS, Nat.reduceAdd, Nat.reduceLeDiff, Nat.reduceEqDiff, ↓reduceIte, reduceCtorEq, fillAt, targetOf, Fmt.len_row, Fmt.g0, Fmt.g1, Fmt.g2, Fmt.lenA]
  refine ⟨fun h1 => ?_, fun h1 => ⟨fun h2 => ?_, fun h2 => ?_⟩⟩
  · simp [alikeC, h1]
  · have h2' : ¬ a.c.attrs.length = b.c.attrs.length := by omega
    simp [alikeC, h2']
  have h1 : a.c.name = b.c.name := by simpa using h1
  have h2 : a.c.attrs.length = b.c.attrs.length := by omega
  refine W_loop_st (fun n : Nat => [.bool false, .int .i64 (n : Int)]) (fun n h1 => n ≤ a.c.attrs.length ∧ (∀ x ∈ a.c.attrs.take n, x ∈ b.c.attrs) ∧ (∀ x ∈ b.c.attrs.take n, x ∈ a.c.attrs) ∧ h1 = h) (fun n => a.c.attrs.length - n) 0 rfl ⟨Nat.zero_le _, by simp, by simp, rfl⟩ ?_
  rintro n h1 ⟨hn, ha1, ha2, rfl⟩
  rcases Nat.lt_or_ge n a.c.attrs.length with hlt | hge
  · have i1 : (n : Int) < (a.c.attrs.length : Int) := by omega
    have hlt2 : n < b.c.attrs.length := by omega
    have m1 := List.getElem_mem hlt
    have m2 := List.getElem_mem hlt2
    simp only [amS, Nat.reduceAdd, Nat.reduceLeDiff, Nat.reduceEqDiff, ↓reduceIte, reduceCtorEq, fillAt, targetOf, Fmt.lenA, i1, not_true_eq_false, not_false_eq_true, true_implies, false_implies, va.eaddrM hlt, vb.eaddrM hlt2, Attr.len_row, Attr.take_row, Nat.le_refl, (f140 b.ok hb _).call, (f140 a.ok ha _).call, pe_inc (show n < 9223372036854775807 by omega)]
    rw [cndW_iff, cndW_iff]
    refine ⟨fun h3 => ?_, fun h3 => ⟨fun h4 => ?_, fun h4 => ?_⟩⟩
    · have h3 : a.c.attrs[n] ∉ b.c.attrs := by simpa using h3
      have : alikeC a.c b.c = false := by
        simp only [alikeC, decide_eq_false_iff_not]
        exact fun h => h3 (h.2.2.1 _ m1)
      rw [this]
    · have h4 : b.c.attrs[n] ∉ a.c.attrs := by simpa using h4
      have : alikeC a.c b.c = false := by
        simp only [alikeC, decide_eq_false_iff_not]
        exact fun h => h4 (h.2.2.2 _ m2)
      rw [this]
    · have h3 : a.c.attrs[n] ∈ b.c.attrs := by simpa using h3
      have h4 : b.c.attrs[n] ∈ a.c.attrs := by simpa using h4
      refine LoopPost.next (n + 1) rfl ⟨hlt, ?_, ?_, rfl⟩ (by omega)
      · rw [List.take_succ_eq_append_getElem hlt]
        intro x hx
        rcases List.mem_append.1 hx with hx | hx
        · exact ha1 x hx
        · rw [List.mem_singleton.1 hx]; exact h3
      · rw [List.take_succ_eq_append_getElem hlt2]
        intro x hx
        rcases List.mem_append.1 hx with hx | hx
        · exact ha2 x hx
        · rw [List.mem_singleton.1 hx]; exact h4
  · have i1 : ¬ (n : Int) < (a.c.attrs.length : Int) := by omega
    rw [List.take_of_length_le hge] at ha1
    rw [List.take_of_length_le (by omega)] at ha2
    have : alikeC a.c b.c = true := by simp only [alikeC, decide_eq_true_eq]; exact ⟨by assumption, h2, ha1, ha2⟩
    rw [this]
    simp only [amS, Nat.reduceAdd, Nat.reduceLeDiff, Nat.reduceEqDiff, ↓reduceIte, reduceCtorEq, fillAt, targetOf, Fmt.lenA, i1, not_false_eq_true, true_implies, false_implies]
end
end Go.Am
