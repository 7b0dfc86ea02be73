/-
  The Builder laws' arguments as plain data. No law is claimed here.
-/
import Derived.Test.YtpikmmnpebamnaaGreatDoorTrees1
import Derived.Test.YtpikmmnpebamnaaGreatDoorTrees2
import Derived.Test.YtpikmmnpebamnaaGreatDoorTrees3
import Derived.Test.YtpikmmnpebamnaaGreatDoorTrees4
import Derived.Test.YtpikmmnpebamnaaGreatDoorAm30
import Derived.Test.YtpikmmnpebamnaaGreatDoorAm32
namespace Go.Am
open Go
set_option maxRecDepth 100000
set_option linter.unusedSimpArgs false
set_option linter.unusedVariables false

structure Attr where
  space : Int
  name : Bytes
  value : Bytes
  deriving DecidableEq
def Attr.row (a : Attr) : List AVal := [.int .i64 a.space, .str a.name, .str a.value]

/-- One call for a builder. -/
structure BOp where
  kind : Int
  name : Bytes
  attrs : AVal
  space : Int
  node : Int
  flag : Bool
  data : Bytes
  ch : Int
  mode : Int
def BOp.row (a : BOp) : List AVal := [.int .i64 a.kind, .str a.name, a.attrs, .int .i64 a.space, .int .i64 a.node, .bool a.flag, .str a.data, .int .i32 a.ch, .int .i64 a.mode]

def IsAttrs (l : List Attr) (v : AVal) : Prop := IsSl 3 (l.map Attr.row) v
abbrev tAttr : Ty := .st [.int .i64, .str, .str]
abbrev tBOp : Ty := .st [.int .i64, .str, .sl tAttr, .int .i64, .int .i64, .bool, .str, .int .i32, .int .i64]

theorem rows_map {α : Type} {P : List AVal → Prop} {f : α → List AVal} {Q : α → Prop} (h : ∀ r, P r → ∃ a, r = f a ∧ Q a) : ∀ {rows : List (List AVal)}, (∀ r ∈ rows, P r) → ∃ l : List α, rows = l.map f ∧ ∀ a ∈ l, Q a
  | [], _ => ⟨[], rfl, by simp⟩
  | r :: rows, hr => by
    obtain ⟨a, rfl, hq⟩ := h r (hr r (by simp))
    obtain ⟨l, rfl, hl⟩ := rows_map h (rows := rows) fun r h => hr r (by simp [h])
    exact ⟨a :: l, rfl, by simpa [hq] using hl⟩

theorem has_sl {α : Type} {e : Ty} {f : α → List AVal} {Q : α → Prop} (h : ∀ r, Has e r → ∃ a, r = f a ∧ Q a) {v : AVal} (hv : Has (.sl e) [v]) : ∃ l : List α, IsSl (Ty.size e) (l.map f) v ∧ l.length ≤ maxLen ∧ ∀ a ∈ l, Q a := by
  unfold Has at hv
  rcases hv with e1 | ⟨rows, e1, hl, hr⟩
  · cases e1
    exact ⟨[], .nil, by simp, by simp⟩
  · cases e1
    obtain ⟨l, rfl, hq⟩ := rows_map h hr
    exact ⟨l, .mk, by simpa using hl, hq⟩

theorem has_int {r : List AVal} {k : IntKind} (h : Has (.int k) r) : ∃ n, r = [.int k n] := let ⟨n, e, _⟩ := h; ⟨n, e⟩
theorem has_str {r : List AVal} (h : Has .str r) : ∃ s : Bytes, r = [.str s] := let ⟨n, e, _⟩ := h; ⟨n, e⟩
theorem has_bool {r : List AVal} (h : Has .bool r) : ∃ b, r = [.bool b] := h
theorem hasL_cons {t : Ty} {ts : List Ty} {l : List AVal} (h : HasL (t :: ts) l) : ∃ a b, l = a ++ b ∧ Has t a ∧ HasL ts b := h
theorem hasL_nil {l : List AVal} (h : HasL [] l) : l = [] := h
theorem hasSl_one {e : Ty} {r : List AVal} (h : Has (.sl e) r) : ∃ v, r = [v] ∧ Has (.sl e) [v] := by
  have h' := h
  unfold Has at h'
  rcases h' with rfl | ⟨rows, rfl, _⟩ <;> exact ⟨_, rfl, h⟩

theorem has_attr (r : List AVal) (h : Has tAttr r) : ∃ a : Attr, r = a.row ∧ True := by
  obtain ⟨x1, y1, rfl, h1, h⟩ := hasL_cons h
  obtain ⟨x2, y2, rfl, h2, h⟩ := hasL_cons h
  obtain ⟨x3, y3, rfl, h3, h⟩ := hasL_cons h
  obtain rfl := hasL_nil h
  obtain ⟨n, rfl⟩ := has_int h1
  obtain ⟨s, rfl⟩ := has_str h2
  obtain ⟨t, rfl⟩ := has_str h3
  exact ⟨⟨n, s, t⟩, rfl, trivial⟩
theorem has_bop (r : List AVal) (h : Has tBOp r) : ∃ a : BOp, r = a.row ∧ ∃ l, IsAttrs l a.attrs := by
  obtain ⟨x1, y1, rfl, h1, h⟩ := hasL_cons h
  obtain ⟨x2, y2, rfl, h2, h⟩ := hasL_cons h
  obtain ⟨x3, y3, rfl, h3, h⟩ := hasL_cons h
  obtain ⟨x4, y4, rfl, h4, h⟩ := hasL_cons h
  obtain ⟨x5, y5, rfl, h5, h⟩ := hasL_cons h
  obtain ⟨x6, y6, rfl, h6, h⟩ := hasL_cons h
  obtain ⟨x7, y7, rfl, h7, h⟩ := hasL_cons h
  obtain ⟨x8, y8, rfl, h8, h⟩ := hasL_cons h
  obtain ⟨x9, y9, rfl, h9, h⟩ := hasL_cons h
  obtain rfl := hasL_nil h
  obtain ⟨n1, rfl⟩ := has_int h1
  obtain ⟨s2, rfl⟩ := has_str h2
  obtain ⟨v, rfl, h3⟩ := hasSl_one h3
  obtain ⟨l, h3, _, _⟩ := has_sl has_attr h3
  obtain ⟨n4, rfl⟩ := has_int h4
  obtain ⟨n5, rfl⟩ := has_int h5
  obtain ⟨b6, rfl⟩ := has_bool h6
  obtain ⟨s7, rfl⟩ := has_str h7
  obtain ⟨n8, rfl⟩ := has_int h8
  obtain ⟨n9, rfl⟩ := has_int h9
  exact ⟨⟨n1, s2, v, n4, n5, b6, s7, n8, n9⟩, rfl, l, h3⟩
theorem hasV_bop {v : AVal} (h : HasV tBOp v) : ∃ a : BOp, v = .agg a.row ∧ ∃ l, IsAttrs l a.attrs := by
  obtain ⟨r, rfl, hr⟩ := h
  obtain ⟨a, rfl, p⟩ := has_bop r hr
  exact ⟨a, rfl, p⟩

/-- 20: few and short. -/
theorem f20 {v : AVal} {l : List Attr} (hv : IsSl 3 (l.map Attr.row) v) (h : AHeap) : Ret cx 20 [v] h (.bool (decide (l.length ≤ 20 ∧ ∀ x ∈ l, x.name.length ≤ 400 ∧ x.value.length ≤ 400))) h := by
  rw [ret_iff, t20_eq, t20]
  refine W_loop_st (fun n : Nat => [.bool false, .int .i64 (n : Int)]) (fun n h1 => n ≤ l.length ∧ n ≤ 21 ∧ (∀ x ∈ l.take n, x.name.length ≤ 400 ∧ x.value.length ≤ 400) ∧ h1 = h) (fun n => l.length - n) 0 rfl ⟨Nat.zero_le _, Nat.zero_le _, by simp, rfl⟩ ?_
  rintro n h1 ⟨hn, hb, ha, rfl⟩
  have hlen : (l.map Attr.row).length = l.length := List.length_map ..
  rcases Nat.lt_or_ge n l.length with hlt | hge
  · have i1 : (n : Int) < ((l.map Attr.row).length : Int) := by rw [hlen]; omega
    have e1 : (l.map Attr.row)[n]'(by rw [hlen]; exact hlt) = Attr.row l[n] := by simp
    simp only [amS, Nat.reduceAdd, Nat.reduceLeDiff, Nat.reduceEqDiff, ↓reduceIte, reduceCtorEq, fillAt, targetOf, hv.len, i1, not_true_eq_false, true_implies, false_implies]
    refine ⟨fun hb2 => ?_, fun hb2 => ?_⟩
    · have hn2 : n ≤ 20 := by omega
      simp only [amS, Nat.reduceAdd, Nat.reduceLeDiff, Nat.reduceEqDiff, ↓reduceIte, reduceCtorEq, fillAt, targetOf, hv.eaddr (show n < (l.map Attr.row).length by rw [hlen]; exact hlt), e1, Attr.row, hb2, not_true_eq_false, true_implies, false_implies, pe_inc (show n < 9223372036854775807 by omega)]
      refine ⟨fun hc => ?_, fun hc0 => ?_⟩
      · have hno : ¬ (l.length ≤ 20 ∧ ∀ x ∈ l, x.name.length ≤ 400 ∧ x.value.length ≤ 400) := fun hh => (by have := hh.2 _ (List.getElem_mem hlt); omega)
        simp only [decide_eq_false hno, and_self]
      refine ⟨fun hc => ?_, fun hc1 => ?_⟩
      · have hno : ¬ (l.length ≤ 20 ∧ ∀ x ∈ l, x.name.length ≤ 400 ∧ x.value.length ≤ 400) := fun hh => (by have := hh.2 _ (List.getElem_mem hlt); omega)
        simp only [decide_eq_false hno, and_self]
      refine LoopPost.next (n + 1) rfl ⟨hlt, by omega, ?_, rfl⟩ (by omega)
      intro x hx
      rw [List.take_succ_eq_append_getElem hlt, List.mem_append, List.mem_singleton] at hx
      rcases hx with hx | rfl
      · exact ha x hx
      · exact ⟨by omega, by omega⟩
    · have hn2 : ¬ n ≤ 20 := by omega
      have hno : ¬ (l.length ≤ 20 ∧ ∀ x ∈ l, x.name.length ≤ 400 ∧ x.value.length ≤ 400) := fun hh => by omega
      have hno2 : ¬ ((l.map Attr.row).length : Int) ≤ 20 := by rw [hlen]; omega
      simp only [amS, Nat.reduceAdd, Nat.reduceLeDiff, Nat.reduceEqDiff, ↓reduceIte, reduceCtorEq, fillAt, targetOf, hv.len, decide_eq_false hno, decide_eq_false hno2, and_self]
  · have i1 : ¬ (n : Int) < ((l.map Attr.row).length : Int) := by rw [hlen]; omega
    rw [List.take_of_length_le hge] at ha
    have e2 : decide (((l.map Attr.row).length : Int) ≤ 20) = decide (l.length ≤ 20 ∧ ∀ x ∈ l, x.name.length ≤ 400 ∧ x.value.length ≤ 400) := by
      rw [decide_eq_decide, hlen]
      exact ⟨fun h => ⟨by omega, ha⟩, fun h => by omega⟩
    simp only [amS, Nat.reduceAdd, Nat.reduceLeDiff, Nat.reduceEqDiff, ↓reduceIte, reduceCtorEq, fillAt, targetOf, hv.len, i1, not_false_eq_true, true_implies, false_implies, e2, and_self]


def attrsOk (l : List Attr) : Prop := l.length ≤ 20 ∧ ∀ x ∈ l, x.name.length ≤ 400 ∧ x.value.length ≤ 400
instance (l : List Attr) : Decidable (attrsOk l) := by unfold attrsOk; infer_instance
theorem f20' {v : AVal} {l : List Attr} (hv : IsAttrs l v) (h : AHeap) : Ret cx 20 [v] h (.bool (decide (attrsOk l))) h := f20 hv h
end Go.Am
