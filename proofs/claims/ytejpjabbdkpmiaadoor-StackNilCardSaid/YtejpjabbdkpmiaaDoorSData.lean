/-
  The laws' arguments as plain data, and the checks that they are few and short. Written by a program. No law is claimed here.
-/
import Derived.Test.YtejpjabbdkpmiaaDoorAdjusted
import Derived.Test.YtejpjabbdkpmiaaDoorAm30
namespace Go.Am
open Go
set_option maxRecDepth 100000
set_option linter.unusedSimpArgs false
set_option linter.unusedVariables false

structure Attr where
  space : Int
  name : Bytes
  value : Bytes
  deriving DecidableEq
def Attr.row (a : Attr) : List AVal := [.int .i64 a.space, .str a.name, .str a.value]

structure Item where
  node : Int
  space : Int
  name : Bytes
  point : Bool
  deriving DecidableEq
def Item.row (a : Item) : List AVal := [.int .i64 a.node, .int .i64 a.space, .str a.name, .bool a.point]

/-- One call for a stack; its names as the machine holds them. -/
structure SOp where
  kind : Int
  node : Int
  to : Int
  space : Int
  name : Bytes
  point : Bool
  names : AVal
  pos : Int
def SOp.row (a : SOp) : List AVal := [.int .i64 a.kind, .int .i64 a.node, .int .i64 a.to, .int .i64 a.space, .str a.name, .bool a.point, a.names, .int .i64 a.pos]

/-- One call for a list. -/
structure SEdit where
  kind : Int
  node : Int
  to : Int
  name : Bytes
  attrs : AVal
  pos : Int
def SEdit.row (a : SEdit) : List AVal := [.int .i64 a.kind, .int .i64 a.node, .int .i64 a.to, .str a.name, a.attrs, .int .i64 a.pos]

def IsStrs (ns : List Bytes) (v : AVal) : Prop := IsSl 1 (ns.map strRow) v
def IsAttrs (l : List Attr) (v : AVal) : Prop := IsSl 3 (l.map Attr.row) v
def IsItems (l : List Item) (v : AVal) : Prop := IsSl 4 (l.map Item.row) v

abbrev tAttr : Ty := .st [.int .i64, .str, .str]
abbrev tItem : Ty := .st [.int .i64, .int .i64, .str, .bool]
abbrev tSOp : Ty := .st [.int .i64, .int .i64, .int .i64, .int .i64, .str, .bool, .sl .str, .int .i64]
abbrev tSEdit : Ty := .st [.int .i64, .int .i64, .int .i64, .str, .sl tAttr, .int .i64]

theorem rows_map {α : Type} {P : List AVal → Prop} {f : α → List AVal} {Q : α → Prop} (h : ∀ r, P r → ∃ a, r = f a ∧ Q a) : ∀ {rows : List (List AVal)}, (∀ r ∈ rows, P r) → ∃ l : List α, rows = l.map f ∧ ∀ a ∈ l, Q a
  | [], _ => ⟨[], rfl, by simp⟩
  | r :: rows, hr => by
    obtain ⟨a, rfl, hq⟩ := h r (hr r (by simp))
    obtain ⟨l, rfl, hl⟩ := rows_map h (rows := rows) fun r h => hr r (by simp [h])
    exact ⟨a :: l, rfl, by simpa [hq] using hl⟩

theorem has_sl {α : Type} {e : Ty} {f : α → List AVal} {Q : α → Prop} (h : ∀ r, Has e r → ∃ a, r = f a ∧ Q a) {v : AVal} (hv : Has (.sl e) [v]) : ∃ l : List α, IsSl (Ty.size e) (l.map f) v ∧ l.length ≤ maxLen ∧ ∀ a ∈ l, Q a := by
  unfold Has at hv
  rcases hv with e1 | ⟨rows, e1, hl, hr⟩
  · cases e1
    exact ⟨[], .nil, by simp, by simp⟩
  · cases e1
    obtain ⟨l, rfl, hq⟩ := rows_map h hr
    exact ⟨l, .mk, by simpa using hl, hq⟩

theorem has_int {r : List AVal} {k : IntKind} (h : Has (.int k) r) : ∃ n, r = [.int k n] := let ⟨n, e, _⟩ := h; ⟨n, e⟩
theorem has_str {r : List AVal} (h : Has .str r) : ∃ s : Bytes, r = [.str s] := let ⟨n, e, _⟩ := h; ⟨n, e⟩
theorem has_strRow (r : List AVal) (h : Has .str r) : ∃ s : Bytes, r = strRow s ∧ True := let ⟨n, e, _⟩ := h; ⟨n, e, trivial⟩
theorem has_bool {r : List AVal} (h : Has .bool r) : ∃ b, r = [.bool b] := h
theorem hasL_cons {t : Ty} {ts : List Ty} {l : List AVal} (h : HasL (t :: ts) l) : ∃ a b, l = a ++ b ∧ Has t a ∧ HasL ts b := h
theorem hasL_nil {l : List AVal} (h : HasL [] l) : l = [] := h
theorem hasSl_one {e : Ty} {r : List AVal} (h : Has (.sl e) r) : ∃ v, r = [v] ∧ Has (.sl e) [v] := by
  have h' := h
  unfold Has at h'
  rcases h' with rfl | ⟨rows, rfl, _⟩ <;> exact ⟨_, rfl, h⟩

theorem has_attr (r : List AVal) (h : Has tAttr r) : ∃ a : Attr, r = a.row ∧ True := by
  obtain ⟨x1, y1, rfl, h1, h⟩ := hasL_cons h
  obtain ⟨x2, y2, rfl, h2, h⟩ := hasL_cons h
  obtain ⟨x3, y3, rfl, h3, h⟩ := hasL_cons h
  obtain rfl := hasL_nil h
  obtain ⟨n, rfl⟩ := has_int h1
  obtain ⟨s, rfl⟩ := has_str h2
  obtain ⟨t, rfl⟩ := has_str h3
  exact ⟨⟨n, s, t⟩, rfl, trivial⟩
theorem has_item (r : List AVal) (h : Has tItem r) : ∃ a : Item, r = a.row ∧ True := by
  obtain ⟨x1, y1, rfl, h1, h⟩ := hasL_cons h
  obtain ⟨x2, y2, rfl, h2, h⟩ := hasL_cons h
  obtain ⟨x3, y3, rfl, h3, h⟩ := hasL_cons h
  obtain ⟨x4, y4, rfl, h4, h⟩ := hasL_cons h
  obtain rfl := hasL_nil h
  obtain ⟨n, rfl⟩ := has_int h1
  obtain ⟨m, rfl⟩ := has_int h2
  obtain ⟨s, rfl⟩ := has_str h3
  obtain ⟨t, rfl⟩ := has_bool h4
  exact ⟨⟨n, m, s, t⟩, rfl, trivial⟩
theorem has_sop (r : List AVal) (h : Has tSOp r) : ∃ a : SOp, r = a.row ∧ ∃ ns, IsStrs ns a.names := by
  obtain ⟨x1, y1, rfl, h1, h⟩ := hasL_cons h
  obtain ⟨x2, y2, rfl, h2, h⟩ := hasL_cons h
  obtain ⟨x3, y3, rfl, h3, h⟩ := hasL_cons h
  obtain ⟨x4, y4, rfl, h4, h⟩ := hasL_cons h
  obtain ⟨x5, y5, rfl, h5, h⟩ := hasL_cons h
  obtain ⟨x6, y6, rfl, h6, h⟩ := hasL_cons h
  obtain ⟨x7, y7, rfl, h7, h⟩ := hasL_cons h
  obtain ⟨x8, y8, rfl, h8, h⟩ := hasL_cons h
  obtain rfl := hasL_nil h
  obtain ⟨n1, rfl⟩ := has_int h1
  obtain ⟨n2, rfl⟩ := has_int h2
  obtain ⟨n3, rfl⟩ := has_int h3
  obtain ⟨n4, rfl⟩ := has_int h4
  obtain ⟨s, rfl⟩ := has_str h5
  obtain ⟨t, rfl⟩ := has_bool h6
  obtain ⟨v, rfl, h7⟩ := hasSl_one h7
  obtain ⟨ns, h7, _, _⟩ := has_sl has_strRow h7
  obtain ⟨n8, rfl⟩ := has_int h8
  exact ⟨⟨n1, n2, n3, n4, s, t, v, n8⟩, rfl, ns, h7⟩
theorem has_sedit (r : List AVal) (h : Has tSEdit r) : ∃ a : SEdit, r = a.row ∧ ∃ l, IsAttrs l a.attrs := by
  obtain ⟨x1, y1, rfl, h1, h⟩ := hasL_cons h
  obtain ⟨x2, y2, rfl, h2, h⟩ := hasL_cons h
  obtain ⟨x3, y3, rfl, h3, h⟩ := hasL_cons h
  obtain ⟨x5, y5, rfl, h5, h⟩ := hasL_cons h
  obtain ⟨x7, y7, rfl, h7, h⟩ := hasL_cons h
  obtain ⟨x8, y8, rfl, h8, h⟩ := hasL_cons h
  obtain rfl := hasL_nil h
  obtain ⟨n1, rfl⟩ := has_int h1
  obtain ⟨n2, rfl⟩ := has_int h2
  obtain ⟨n3, rfl⟩ := has_int h3
  obtain ⟨s, rfl⟩ := has_str h5
  obtain ⟨v, rfl, h7⟩ := hasSl_one h7
  obtain ⟨l, h7, _, _⟩ := has_sl has_attr h7
  obtain ⟨n8, rfl⟩ := has_int h8
  exact ⟨⟨n1, n2, n3, s, v, n8⟩, rfl, l, h7⟩
theorem has_strs {v : AVal} (h : HasV (.sl .str) v) : ∃ l, IsStrs l v := let ⟨l, h, _⟩ := has_sl has_strRow h; ⟨l, h⟩
theorem has_attrs {v : AVal} (h : HasV (.sl tAttr) v) : ∃ l, IsAttrs l v := let ⟨l, h, _⟩ := has_sl has_attr h; ⟨l, h⟩
theorem has_items {v : AVal} (h : HasV (.sl tItem) v) : ∃ l, IsItems l v := let ⟨l, h, _⟩ := has_sl has_item h; ⟨l, h⟩

/-- 41: few and short. -/
theorem f41 {v : AVal} {l : List Attr} (hv : IsSl 3 (l.map Attr.row) v) (h : AHeap) : Ret cx 41 [v] h (.bool (decide (l.length ≤ 12 ∧ ∀ x ∈ l, x.name.length ≤ 60 ∧ x.value.length ≤ 200))) h := by
  rw [ret_iff, t41_eq, t41]
  refine W_loop_st (fun n : Nat => [.bool false, .int .i64 (n : Int)]) (fun n h1 => n ≤ l.length ∧ n ≤ 13 ∧ (∀ x ∈ l.take n, x.name.length ≤ 60 ∧ x.value.length ≤ 200) ∧ h1 = h) (fun n => l.length - n) 0 rfl ⟨Nat.zero_le _, Nat.zero_le _, by simp, rfl⟩ ?_
  rintro n h1 ⟨hn, hb, ha, rfl⟩
  have hlen : (l.map Attr.row).length = l.length := List.length_map ..
  rcases Nat.lt_or_ge n l.length with hlt | hge
  · have i1 : (n : Int) < ((l.map Attr.row).length : Int) := by rw [hlen]; omega
    have e1 : (l.map Attr.row)[n]'(by rw [hlen]; exact hlt) = Attr.row l[n] := by simp
    simp only [amS, Nat.reduceAdd, Nat.reduceLeDiff, Nat.reduceEqDiff, ↓reduceIte, reduceCtorEq, fillAt, targetOf, hv.len, i1, not_true_eq_false, true_implies, false_implies]
    refine ⟨fun hb2 => ?_, fun hb2 => ?_⟩
    · have hn2 : n ≤ 12 := by omega
      simp only [amS, Nat.reduceAdd, Nat.reduceLeDiff, Nat.reduceEqDiff, ↓reduceIte, reduceCtorEq, fillAt, targetOf, hv.eaddr (show n < (l.map Attr.row).length by rw [hlen]; exact hlt), e1, Attr.row, hb2, not_true_eq_false, true_implies, false_implies, pe_inc (show n < 9223372036854775807 by omega)]
      refine ⟨fun hc => ?_, fun hc0 => ?_⟩
      · have hno : ¬ (l.length ≤ 12 ∧ ∀ x ∈ l, x.name.length ≤ 60 ∧ x.value.length ≤ 200) := fun hh => (by have := hh.2 _ (List.getElem_mem hlt); omega)
        simp only [decide_eq_false hno, and_self]
      refine ⟨fun hc => ?_, fun hc1 => ?_⟩
      · have hno : ¬ (l.length ≤ 12 ∧ ∀ x ∈ l, x.name.length ≤ 60 ∧ x.value.length ≤ 200) := fun hh => (by have := hh.2 _ (List.getElem_mem hlt); omega)
        simp only [decide_eq_false hno, and_self]
      refine LoopPost.next (n + 1) rfl ⟨hlt, by omega, ?_, rfl⟩ (by omega)
      intro x hx
      rw [List.take_succ_eq_append_getElem hlt, List.mem_append, List.mem_singleton] at hx
      rcases hx with hx | rfl
      · exact ha x hx
      · exact ⟨by omega, by omega⟩
    · have hn2 : ¬ n ≤ 12 := by omega
      have hno : ¬ (l.length ≤ 12 ∧ ∀ x ∈ l, x.name.length ≤ 60 ∧ x.value.length ≤ 200) := fun hh => by omega
      have hno2 : ¬ ((l.map Attr.row).length : Int) ≤ 12 := by rw [hlen]; omega
      simp only [amS, Nat.reduceAdd, Nat.reduceLeDiff, Nat.reduceEqDiff, ↓reduceIte, reduceCtorEq, fillAt, targetOf, hv.len, decide_eq_false hno, decide_eq_false hno2, and_self]
  · have i1 : ¬ (n : Int) < ((l.map Attr.row).length : Int) := by rw [hlen]; omega
    rw [List.take_of_length_le hge] at ha
    have e2 : decide (((l.map Attr.row).length : Int) ≤ 12) = decide (l.length ≤ 12 ∧ ∀ x ∈ l, x.name.length ≤ 60 ∧ x.value.length ≤ 200) := by
      rw [decide_eq_decide, hlen]
      exact ⟨fun h => ⟨by omega, ha⟩, fun h => by omega⟩
    simp only [amS, Nat.reduceAdd, Nat.reduceLeDiff, Nat.reduceEqDiff, ↓reduceIte, reduceCtorEq, fillAt, targetOf, hv.len, i1, not_false_eq_true, true_implies, false_implies, e2, and_self]

/-- 22: few and short. -/
theorem f22 {v : AVal} {l : List Bytes} (hv : IsSl 1 (l.map strRow) v) (h : AHeap) : Ret cx 22 [v] h (.bool (decide (l.length ≤ 12 ∧ ∀ x ∈ l, x.length ≤ 60))) h := by
  rw [ret_iff, t22_eq, t22]
  refine W_loop_st (fun n : Nat => [.bool false, .int .i64 (n : Int)]) (fun n h1 => n ≤ l.length ∧ n ≤ 13 ∧ (∀ x ∈ l.take n, x.length ≤ 60) ∧ h1 = h) (fun n => l.length - n) 0 rfl ⟨Nat.zero_le _, Nat.zero_le _, by simp, rfl⟩ ?_
  rintro n h1 ⟨hn, hb, ha, rfl⟩
  have hlen : (l.map strRow).length = l.length := List.length_map ..
  rcases Nat.lt_or_ge n l.length with hlt | hge
  · have i1 : (n : Int) < ((l.map strRow).length : Int) := by rw [hlen]; omega
    have e1 : (l.map strRow)[n]'(by rw [hlen]; exact hlt) = strRow l[n] := by simp
    simp only [amS, Nat.reduceAdd, Nat.reduceLeDiff, Nat.reduceEqDiff, ↓reduceIte, reduceCtorEq, fillAt, targetOf, hv.len, i1, not_true_eq_false, true_implies, false_implies]
    refine ⟨fun hb2 => ?_, fun hb2 => ?_⟩
    · have hn2 : n ≤ 12 := by omega
      simp only [amS, Nat.reduceAdd, Nat.reduceLeDiff, Nat.reduceEqDiff, ↓reduceIte, reduceCtorEq, fillAt, targetOf, hv.eaddr (show n < (l.map strRow).length by rw [hlen]; exact hlt), e1, strRow, hb2, not_true_eq_false, true_implies, false_implies, pe_inc (show n < 9223372036854775807 by omega)]
      refine ⟨fun hc => ?_, fun hc0 => ?_⟩
      · have hno : ¬ (l.length ≤ 12 ∧ ∀ x ∈ l, x.length ≤ 60) := fun hh => (by have := hh.2 _ (List.getElem_mem hlt); omega)
        simp only [decide_eq_false hno, and_self]
      refine LoopPost.next (n + 1) rfl ⟨hlt, by omega, ?_, rfl⟩ (by omega)
      intro x hx
      rw [List.take_succ_eq_append_getElem hlt, List.mem_append, List.mem_singleton] at hx
      rcases hx with hx | rfl
      · exact ha x hx
      · exact (by omega)
    · have hn2 : ¬ n ≤ 12 := by omega
      have hno : ¬ (l.length ≤ 12 ∧ ∀ x ∈ l, x.length ≤ 60) := fun hh => by omega
      have hno2 : ¬ ((l.map strRow).length : Int) ≤ 12 := by rw [hlen]; omega
      simp only [amS, Nat.reduceAdd, Nat.reduceLeDiff, Nat.reduceEqDiff, ↓reduceIte, reduceCtorEq, fillAt, targetOf, hv.len, decide_eq_false hno, decide_eq_false hno2, and_self]
  · have i1 : ¬ (n : Int) < ((l.map strRow).length : Int) := by rw [hlen]; omega
    rw [List.take_of_length_le hge] at ha
    have e2 : decide (((l.map strRow).length : Int) ≤ 12) = decide (l.length ≤ 12 ∧ ∀ x ∈ l, x.length ≤ 60) := by
      rw [decide_eq_decide, hlen]
      exact ⟨fun h => ⟨by omega, ha⟩, fun h => by omega⟩
    simp only [amS, Nat.reduceAdd, Nat.reduceLeDiff, Nat.reduceEqDiff, ↓reduceIte, reduceCtorEq, fillAt, targetOf, hv.len, i1, not_false_eq_true, true_implies, false_implies, e2, and_self]

/-- 21: few and short. -/
theorem f21 {v : AVal} {l : List Item} (hv : IsSl 4 (l.map Item.row) v) (h : AHeap) : Ret cx 21 [v] h (.bool (decide (l.length ≤ 60 ∧ ∀ x ∈ l, x.name.length ≤ 60))) h := by
  rw [ret_iff, t21_eq, t21]
  refine W_loop_st (fun n : Nat => [.bool false, .int .i64 (n : Int)]) (fun n h1 => n ≤ l.length ∧ n ≤ 61 ∧ (∀ x ∈ l.take n, x.name.length ≤ 60) ∧ h1 = h) (fun n => l.length - n) 0 rfl ⟨Nat.zero_le _, Nat.zero_le _, by simp, rfl⟩ ?_
  rintro n h1 ⟨hn, hb, ha, rfl⟩
  have hlen : (l.map Item.row).length = l.length := List.length_map ..
  rcases Nat.lt_or_ge n l.length with hlt | hge
  · have i1 : (n : Int) < ((l.map Item.row).length : Int) := by rw [hlen]; omega
    have e1 : (l.map Item.row)[n]'(by rw [hlen]; exact hlt) = Item.row l[n] := by simp
    simp only [amS, Nat.reduceAdd, Nat.reduceLeDiff, Nat.reduceEqDiff, ↓reduceIte, reduceCtorEq, fillAt, targetOf, hv.len, i1, not_true_eq_false, true_implies, false_implies]
    refine ⟨fun hb2 => ?_, fun hb2 => ?_⟩
    · have hn2 : n ≤ 60 := by omega
      simp only [amS, Nat.reduceAdd, Nat.reduceLeDiff, Nat.reduceEqDiff, ↓reduceIte, reduceCtorEq, fillAt, targetOf, hv.eaddr (show n < (l.map Item.row).length by rw [hlen]; exact hlt), e1, Item.row, hb2, not_true_eq_false, true_implies, false_implies, pe_inc (show n < 9223372036854775807 by omega)]
      refine ⟨fun hc => ?_, fun hc0 => ?_⟩
      · have hno : ¬ (l.length ≤ 60 ∧ ∀ x ∈ l, x.name.length ≤ 60) := fun hh => (by have := hh.2 _ (List.getElem_mem hlt); omega)
        simp only [decide_eq_false hno, and_self]
      refine LoopPost.next (n + 1) rfl ⟨hlt, by omega, ?_, rfl⟩ (by omega)
      intro x hx
      rw [List.take_succ_eq_append_getElem hlt, List.mem_append, List.mem_singleton] at hx
      rcases hx with hx | rfl
      · exact ha x hx
      · exact (by omega)
    · have hn2 : ¬ n ≤ 60 := by omega
      have hno : ¬ (l.length ≤ 60 ∧ ∀ x ∈ l, x.name.length ≤ 60) := fun hh => by omega
      have hno2 : ¬ ((l.map Item.row).length : Int) ≤ 60 := by rw [hlen]; omega
      simp only [amS, Nat.reduceAdd, Nat.reduceLeDiff, Nat.reduceEqDiff, ↓reduceIte, reduceCtorEq, fillAt, targetOf, hv.len, decide_eq_false hno, decide_eq_false hno2, and_self]
  · have i1 : ¬ (n : Int) < ((l.map Item.row).length : Int) := by rw [hlen]; omega
    rw [List.take_of_length_le hge] at ha
    have e2 : decide (((l.map Item.row).length : Int) ≤ 60) = decide (l.length ≤ 60 ∧ ∀ x ∈ l, x.name.length ≤ 60) := by
      rw [decide_eq_decide, hlen]
      exact ⟨fun h => ⟨by omega, ha⟩, fun h => by omega⟩
    simp only [amS, Nat.reduceAdd, Nat.reduceLeDiff, Nat.reduceEqDiff, ↓reduceIte, reduceCtorEq, fillAt, targetOf, hv.len, i1, not_false_eq_true, true_implies, false_implies, e2, and_self]

def attrsOk (l : List Attr) : Prop := l.length ≤ 12 ∧ ∀ x ∈ l, x.name.length ≤ 60 ∧ x.value.length ≤ 200
instance (l : List Attr) : Decidable (attrsOk l) := by unfold attrsOk; infer_instance
def strsOk (l : List Bytes) : Prop := l.length ≤ 12 ∧ ∀ x ∈ l, x.length ≤ 60
instance (l : List Bytes) : Decidable (strsOk l) := by unfold strsOk; infer_instance
def itemsOk (l : List Item) : Prop := l.length ≤ 60 ∧ ∀ x ∈ l, x.name.length ≤ 60
instance (l : List Item) : Decidable (itemsOk l) := by unfold itemsOk; infer_instance
theorem f41' {v : AVal} {l : List Attr} (hv : IsAttrs l v) (h : AHeap) : Ret cx 41 [v] h (.bool (decide (attrsOk l))) h := f41 hv h
theorem f22' {v : AVal} {l : List Bytes} (hv : IsStrs l v) (h : AHeap) : Ret cx 22 [v] h (.bool (decide (strsOk l))) h := f22 hv h
theorem f21' {v : AVal} {l : List Item} (hv : IsItems l v) (h : AHeap) : Ret cx 21 [v] h (.bool (decide (itemsOk l))) h := f21 hv h
end Go.Am
