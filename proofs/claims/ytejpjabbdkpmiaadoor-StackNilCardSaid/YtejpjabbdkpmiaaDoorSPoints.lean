/-
  Integration points and breakout tokens: what the program's functions and the specification's return. No law is claimed here.
-/
import Derived.Test.YtejpjabbdkpmiaaDoorSData
namespace Go.Am
open Go
set_option maxRecDepth 100000
set_option linter.unusedSimpArgs false
set_option linter.unusedVariables false

/-- The index of the first element that fits, or -1. -/
def idxFrom {α : Type} (p : α → Bool) (n : Nat) : List α → Int
  | [] => -1
  | a :: l => if p a then (n : Int) else idxFrom p (n + 1) l

theorem idxFrom_find {α : Type} {p : α → Bool} : ∀ {l : List α} {k : Nat}, (idxFrom p k l = -1 ∧ l.find? p = none) ∨ ∃ (n : Nat) (a : α), idxFrom p k l = ((k + n : Nat) : Int) ∧ l[n]? = some a ∧ l.find? p = some a
  | [], k => .inl ⟨rfl, rfl⟩
  | a :: l, k => by
    unfold idxFrom
    by_cases h : p a = true
    · exact .inr ⟨0, a, by rw [if_pos h]; rfl, rfl, by simp [h]⟩
    · rw [if_neg h]
      rcases idxFrom_find (p := p) (l := l) (k := k + 1) with ⟨h1, h2⟩ | ⟨n, b, h1, h2, h3⟩
      · exact .inl ⟨h1, by simp [h, h2]⟩
      · exact .inr ⟨n + 1, b, by rw [h1]; congr 1; omega, by simpa using h2, by simp [h, h3]⟩

/-- slices.IndexFunc over attributes. -/
theorem f110 {v : AVal} {l : List Attr} (hv : IsAttrs l v) (hn : l.length < 9223372036854775807) (h : AHeap) {f : FuncId} {p : Attr → Bool} (hp : ∀ a ∈ l, Ret cx f [.agg a.row] h (.bool (p a)) h) :
    Ret cx 110 [v, .func (.func f) [] []] h (.int .i64 (idxFrom p 0 l)) h := by
  rw [ret_iff, t110_eq, t110]
  have hlen : (l.map Attr.row).length = l.length := List.length_map ..
  simp only [amS, Nat.reduceAdd, Nat.reduceLeDiff, Nat.reduceEqDiff, ↓reduceIte, reduceCtorEq, fillAt, targetOf, IsSl.len hv]
  refine W_loop_st (fun n : Nat => [.int .i64 0, .int .i64 (n : Int)]) (fun n h1 => n ≤ l.length ∧ idxFrom p 0 l = idxFrom p n (l.drop n) ∧ h1 = h) (fun n => l.length - n) 0 rfl ⟨Nat.zero_le _, rfl, rfl⟩ ?_
  rintro n h1 ⟨hn', ha, rfl⟩
  rcases Nat.lt_or_ge n l.length with hlt | hge
  · have i1 : (n : Int) < ((l.map Attr.row).length : Int) := by rw [hlen]; omega
    have e1 : (l.map Attr.row)[n]'(by rw [hlen]; exact hlt) = Attr.row l[n] := by simp
    have e2 : partOf (Attr.row l[n]) 0 (some 3) = some (.agg (Attr.row l[n])) := by simp [Attr.row]
    rw [List.drop_eq_getElem_cons hlt, idxFrom] at ha
    simp only [amS, Nat.reduceAdd, Nat.reduceLeDiff, Nat.reduceEqDiff, ↓reduceIte, reduceCtorEq, fillAt, targetOf, List.append_nil, i1, not_true_eq_false, true_implies, false_implies, IsSl.eaddr hv (show n < (l.map Attr.row).length by rw [hlen]; exact hlt), e1, e2, (hp _ (List.getElem_mem hlt)).call]
    rw [cndW_iff]
    refine ⟨fun he => ?_, fun he => ?_⟩
    · rw [ha, if_pos he]
    · rw [if_neg (by simp [he])] at ha
      simp only [amS, Nat.reduceAdd, Nat.reduceLeDiff, Nat.reduceEqDiff, ↓reduceIte, reduceCtorEq, fillAt, targetOf, pe_inc (show n < 9223372036854775807 by omega)]
      exact LoopPost.next (n + 1) rfl ⟨hlt, ha, rfl⟩ (by omega)
  · have i1 : ¬ (n : Int) < ((l.map Attr.row).length : Int) := by rw [hlen]; omega
    rw [List.drop_of_length_le hge, idxFrom] at ha
    simp only [amS, Nat.reduceAdd, Nat.reduceLeDiff, Nat.reduceEqDiff, ↓reduceIte, reduceCtorEq, fillAt, targetOf, i1, not_false_eq_true, true_implies, false_implies, ha]

def isEnc (a : Attr) : Bool := decide (a.space = 0 ∧ a.name = [101,110,99,111,100,105,110,103])
theorem f111 (a : Attr) (h : AHeap) : Ret cx 111 [.agg a.row] h (.bool (isEnc a)) h := by
  rw [ret_iff, t111_eq, t111, Attr.row]; simp only [amS, Nat.reduceAdd, Nat.reduceLeDiff, Nat.reduceEqDiff, ↓reduceIte, reduceCtorEq, fillAt, targetOf, isEnc]
  refine ⟨fun h => by simp [h], fun h => by simp [h]⟩
def isFont (a : Attr) : Bool := decide (a.name ∈ rColors)
theorem f115 (a : Attr) (h : AHeap) : Ret cx 115 [.agg a.row] h (.bool (isFont a)) h := by
  rw [ret_iff, t115_eq, t115, Attr.row]; simp only [amS, Nat.reduceAdd, Nat.reduceLeDiff, Nat.reduceEqDiff, ↓reduceIte, reduceCtorEq, fillAt, targetOf, isFont, rColors]
  refine ⟨fun h => by simp [h], fun h1 => ⟨fun h => by simp [h], fun h2 => by simp [h1, h2]⟩⟩
theorem f114 {v : AVal} {l : List Attr} (hv : IsAttrs l v) (hn : l.length < 9223372036854775807) (h : AHeap) {f : FuncId} {p : Attr → Bool} (hp : ∀ a ∈ l, Ret cx f [.agg a.row] h (.bool (p a)) h) :
    Ret cx 114 [v, .func (.func f) [] []] h (.bool (l.any p)) h := by
  rw [ret_iff, t114_eq, t114]; simp only [amS, Nat.reduceAdd, Nat.reduceLeDiff, Nat.reduceEqDiff, ↓reduceIte, reduceCtorEq, fillAt, targetOf, (f110 hv hn h hp).call]
  have : l.any p = (l.find? p).isSome := by rw [Bool.eq_iff_iff, List.find?_isSome, List.any_eq_true]
  rw [this]
  rcases idxFrom_find (p := p) (l := l) (k := 0) with ⟨h1, h2⟩ | ⟨n, a, h1, h2, h3⟩
  · rw [h1, h2]; simp
  · rw [h1, h3]; simp

theorem lower_const {s : Bytes} (h : s.all (fun c => !(65 ≤ c.toNat && c.toNat ≤ 90)) = true) : lower s = s := by
  unfold lower
  conv => rhs; rw [← List.map_id s]
  apply List.map_congr_left
  intro c hc
  have := List.all_eq_true.1 h c hc
  refine lowerByte_no fun h2 => ?_
  simp [h2.1, h2.2] at this
theorem f112 (a b : Bytes) (ha : a.length ≤ maxBytes) (hb : b.length ≤ maxBytes) : PRet cx 112 [.str a, .str b] (.bool (decide (lower a = lower b))) := by
  rw [wout, t112_eq, t112]; simp only [amS, Nat.reduceAdd, Nat.reduceLeDiff, Nat.reduceEqDiff, ↓reduceIte, reduceCtorEq, fillAt, targetOf, (f158 a ha).pcall rfl rfl, (f158 b hb).pcall rfl rfl]

abbrev wEnc : Bytes := [101,110,99,111,100,105,110,103]
abbrev wAnno : Bytes := [97,110,110,111,116,97,116,105,111,110,45,120,109,108]
abbrev wHtml : Bytes := [116,101,120,116,47,104,116,109,108]
abbrev wXhtml : Bytes := [97,112,112,108,105,99,97,116,105,111,110,47,120,104,116,109,108,43,120,109,108]
/-- What HTMLPoint returns. -/
def htmlPoint (n : Int) (s : Bytes) (l : List Attr) : Bool :=
  if n = 2 then isSpecial 2 s else if n ≠ 3 then false else if s ≠ wAnno then false else match l.find? isEnc with
    | none => false
    | some a => decide (lower a.value = wHtml ∨ lower a.value = wXhtml)

theorem f46 {v : AVal} {l : List Attr} (hv : IsAttrs l v) (hl : ∀ a ∈ l, a.value.length ≤ maxBytes) (hn : l.length < 9223372036854775807) (n : Int) (s : Bytes) (h : AHeap) : Ret cx 46 [.int .i64 n, .str s, v] h (.bool (htmlPoint n s l)) h := by
  rw [ret_iff, t46_eq, t46]; simp only [amS, Nat.reduceAdd, Nat.reduceLeDiff, Nat.reduceEqDiff, ↓reduceIte, reduceCtorEq, fillAt, targetOf, f42_iff, (f110 hv hn h (fun a _ => f111 a h)).call, htmlPoint]
  refine ⟨fun h2 => by simp [h2], fun h2 => ⟨fun h3 => by simp [h2, h3], fun h3 => ⟨fun h4 => by simp [h2, h3, h4], fun h4 => ?_⟩⟩⟩
  rw [if_neg h2, if_neg h3, if_neg h4]
  rcases idxFrom_find (p := isEnc) (l := l) (k := 0) with ⟨h5, h6⟩ | ⟨k, a, h5, h6, h7⟩
  · rw [h5, h6]; simp
  · rw [h5, h7, Nat.zero_add]
    obtain ⟨hk, e⟩ := List.getElem?_eq_some_iff.1 h6
    have hk' : k < (l.map Attr.row).length := by simpa using hk
    have e1 : (l.map Attr.row)[k] = Attr.row a := by simp [e]
    have i1 : (0 : Int) ≤ (k : Int) := by omega
    have hval : a.value.length ≤ maxBytes := hl a (e ▸ List.getElem_mem hk)
    have e2 : lower wHtml = wHtml := lower_const (by decide +kernel)
    have e3 : lower wXhtml = wXhtml := lower_const (by decide +kernel)
    simp only [amS, Nat.reduceAdd, Nat.reduceLeDiff, Nat.reduceEqDiff, ↓reduceIte, reduceCtorEq, fillAt, targetOf, i1, not_true_eq_false, true_implies, false_implies, IsSl.eaddr hv hk', e1, Attr.row, (f112 a.value wHtml hval (by decide)).pcall rfl rfl, (f112 a.value wXhtml hval (by decide)).pcall rfl rfl, e2, e3]
    refine ⟨fun h => by simp [h], fun h => by simp [h]⟩

theorem f47 {v : AVal} {l : List Attr} (hv : IsAttrs l v) (hl : ∀ a ∈ l, a.value.length ≤ maxBytes) (hn : l.length < 9223372036854775807) (n : Int) (s : Bytes) (hs : s.length < 9223372036854775807) (h : AHeap) : Ret cx 47 [.int .i64 n, .str s, v] h (.bool (htmlPoint n s l)) h := by
  rw [ret_iff, t47_eq, t47]; simp only [amS, Nat.reduceAdd, Nat.reduceLeDiff, Nat.reduceEqDiff, ↓reduceIte, reduceCtorEq, fillAt, targetOf, r_svgPoints hs, htmlPoint]
  refine ⟨fun h2 => by simp [h2, isSpecial], fun h2 => ⟨fun h3 => by simp [h2, h3], fun h3 => ⟨fun h4 => by simp [h2, h3, h4], fun h4 => ?_⟩⟩⟩
  rw [if_neg h2, if_neg h3, if_neg h4]
  have hlen : (l.map Attr.row).length = l.length := List.length_map ..
  refine W_loop_st (fun n : Nat => [.bool false, .int .i64 (n : Int)]) (fun n h1 => n ≤ l.length ∧ l.find? isEnc = (l.drop n).find? isEnc ∧ h1 = h) (fun n => l.length - n) 0 rfl ⟨Nat.zero_le _, rfl, rfl⟩ ?_
  rintro n h1 ⟨hn', ha, rfl⟩
  rcases Nat.lt_or_ge n l.length with hlt | hge
  · have i1 : (n : Int) < ((l.map Attr.row).length : Int) := by rw [hlen]; omega
    have e1 : (l.map Attr.row)[n]'(by rw [hlen]; exact hlt) = Attr.row l[n] := by simp
    rw [List.drop_eq_getElem_cons hlt, List.find?_cons] at ha
    simp only [amS, Nat.reduceAdd, Nat.reduceLeDiff, Nat.reduceEqDiff, ↓reduceIte, reduceCtorEq, fillAt, targetOf, IsSl.len hv, i1, not_true_eq_false, true_implies, false_implies, IsSl.eaddr hv (show n < (l.map Attr.row).length by rw [hlen]; exact hlt), e1, Attr.row, (f113 _ (hl _ (List.getElem_mem hlt))).pcall rfl rfl, pe_inc (show n < 9223372036854775807 by omega)]
    refine ⟨fun h5 => ⟨fun h6 => ?_, fun h6 => ?_⟩, fun h5 => ?_⟩
    · have he : isEnc l[n] = true := by simp [isEnc, h5, h6]
      rw [he] at ha
      rw [ha]
      exact ⟨fun h7 => by simp [h7], fun h7 => by simp [h7]⟩
    · have he : isEnc l[n] = false := by simp [isEnc, h6]
      rw [he] at ha
      exact LoopPost.next (n + 1) rfl ⟨hlt, ha, rfl⟩ (by omega)
    · have he : isEnc l[n] = false := by simp [isEnc, h5]
      rw [he] at ha
      exact LoopPost.next (n + 1) rfl ⟨hlt, ha, rfl⟩ (by omega)
  · have i1 : ¬ (n : Int) < ((l.map Attr.row).length : Int) := by rw [hlen]; omega
    rw [List.drop_of_length_le hge, List.find?_nil] at ha
    rw [ha]
    simp only [amS, Nat.reduceAdd, Nat.reduceLeDiff, Nat.reduceEqDiff, ↓reduceIte, reduceCtorEq, fillAt, targetOf, IsSl.len hv, i1, not_false_eq_true, true_implies, false_implies]
end Go.Am
