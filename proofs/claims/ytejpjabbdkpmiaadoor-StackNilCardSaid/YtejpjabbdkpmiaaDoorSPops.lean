/-
  The stack of open elements: the calls that remove items, and the specification's. No law is claimed here.
-/
import Derived.Test.YtejpjabbdkpmiaaDoorSRef
namespace Go.Am
open Go
set_option maxRecDepth 100000
set_option linter.unusedSimpArgs false
set_option linter.unusedVariables false

theorem Ev.ret {C : Ctx} {f : FuncId} {args : List AVal} {h : AHeap} {R : AVal → AHeap → Prop} (hw : Ev C f args h R) : ∃ r h', Ret C f args h r h' ∧ R r h' := by
  obtain ⟨n, x, vs, h', e, hx, r, hv, hR⟩ := hw
  exact ⟨r, h', ⟨n, x, vs, h', e, hx, hv, rfl⟩, hR⟩

/-- What the calls that remove items leave (the top first). -/
def popsR (b a : Item → Bool) : List Item → List Item
  | x :: y :: r => if b x then x :: y :: r else if a x then y :: r else popsR b a (y :: r)
  | r => r
def pops (b a : Item → Bool) (l : List Item) : List Item := (popsR b a l.reverse).reverse

theorem popsR_one {b a : Item → Bool} {l : List Item} (h : l.length ≤ 1) : popsR b a l = l := by
  match l with
  | [] => rfl
  | [x] => rfl
  | x :: y :: r => simp at h
theorem pops_one {b a : Item → Bool} {l : List Item} (h : l.length ≤ 1) : pops b a l = l := by
  unfold pops; rw [popsR_one (by simpa using h), List.reverse_reverse]
theorem pops_snoc {b a : Item → Bool} {l : List Item} {x : Item} (h : 1 ≤ l.length) : pops b a (l ++ [x]) = if b x then l ++ [x] else if a x then l else pops b a l := by
  unfold pops
  rw [List.reverse_append, List.reverse_singleton, List.singleton_append]
  cases hr : l.reverse with
  | nil => have : l = [] := by simpa using hr
           subst this; simp at h
  | cons y r =>
    have hl : l = r.reverse ++ [y] := by rw [← List.reverse_reverse l, hr, List.reverse_cons]
    rw [popsR]
    by_cases h1 : b x = true
    · rw [if_pos h1, if_pos h1]; rw [hl]; simp
    · rw [if_neg h1, if_neg h1]
      by_cases h2 : a x = true
      · rw [if_pos h2, if_pos h2]; rw [hl]; simp
      · rw [if_neg h2, if_neg h2]
theorem pops_take {b a : Item → Bool} {l : List Item} {n : Nat} (hn : n + 1 < l.length) : pops b a (l.take (n + 2)) = if b l[n + 1] then l.take (n + 2) else if a l[n + 1] then l.take (n + 1) else pops b a (l.take (n + 1)) := by
  have e : l.take (n + 2) = l.take (n + 1) ++ [l[n + 1]] := List.take_succ_eq_append_getElem hn
  rw [e, pops_snoc (by rw [List.length_take]; omega)]
theorem pops_le {b a : Item → Bool} : ∀ {l : List Item}, (pops b a l).length ≤ l.length := by
  have key : ∀ r : List Item, (popsR b a r).length ≤ r.length := by
    intro r
    induction r with
    | nil => simp [popsR]
    | cons x r ih =>
      cases r with
      | nil => simp [popsR]
      | cons y r =>
        rw [popsR]
        split
        · simp
        · split
          · simp
          · exact Nat.le_trans ih (by simp)
  intro l
  have := key l.reverse
  simpa [pops] using this

/-- A function value that asks something of an item, whatever the heap. -/
def AsksA (F : AVal) (q : Item → Bool) : Prop := ∃ f caps, F = .func (.func f) [] caps ∧ ∀ (a : Item) (h : AHeap), Ret cx f (.agg a.row :: caps) h (.bool (q a)) h

section
variable {h : AHeap} {p v : AVal} {l : List Item}

theorem topOf_take {n : Nat} (hn : n < l.length) : topOf (l.take (n + 1)) = l[n] := by
  have e : ((l.take (n + 1)).length : Int) - 1 = (n : Int) := by rw [List.length_take]; omega
  unfold topOf
  rw [e, itemAt_lt (by rw [List.length_take]; omega)]
  simp
theorem SObj.setSame {id : Nat} (hs : SObj h id l) : ∃ u, h = h.set id (.cells [u]) ∧ IsItems l u := by
  obtain ⟨u, hc, hu⟩ := hs
  refine ⟨u, ?_, hu⟩
  obtain ⟨hlt, e⟩ := List.getElem?_eq_some_iff.1 hc
  rw [← e, List.set_getElem_self]
theorem SObj.lt {id : Nat} (hs : SObj h id l) : id < h.length := by obtain ⟨u, hc, hu⟩ := hs; exact (List.getElem?_eq_some_iff.1 hc).1
theorem SObj.of_set {id : Nat} {u : AVal} (hlt : id < h.length) (hu : IsItems l u) : SObj (h.set id (.cells [u])) id l := ⟨u, by simp [hlt], hu⟩

/-- Pop, of two items or more. -/
theorem f93 {id : Nat} (hs : SObj h id l) (hb : l.length ≤ 100000) (h2 : 2 ≤ l.length) : ∃ u, Ret cx 93 [.ptr (some (id, 0))] h (.agg (topOf l).row) (h.set id (.cells [u])) ∧ IsItems (l.take (l.length - 1)) u := by
  obtain ⟨v, hc, hv⟩ := (show SObj h id l from hs)
  obtain ⟨u, e, hu⟩ := IsSl.slcHi hv (k := .i64) (show l.length - 1 ≤ l.length by omega)
  refine ⟨u, ?_, hu⟩
  have e1 : (l.length : Int) - 1 = ((l.length - 1 : Nat) : Int) := by omega
  rw [ret_iff, t93_eq, t93]
  simp only [amS, Nat.reduceAdd, Nat.reduceLeDiff, Nat.reduceEqDiff, ↓reduceIte, reduceCtorEq, fillAt, targetOf, itS, (f34 hs.at).call, (f33 hs.at hb).call, hload_at hc, Nat.add_zero, IsSl.lenM hv, pe_subI (show -9223372036854775808 ≤ (l.length : Int) - 1 by omega) (show (l.length : Int) - 1 < 9223372036854775808 by omega), e1, e, hstore1 hc (IsSl.cells hu), show ¬ (l.length : Int) < 2 by omega, not_false_eq_true, true_implies, false_implies]
/-- Pop, of one item at most. -/
theorem f93' (hs : SAt h p l) (h2 : l.length < 2) : Ret cx 93 [p] h (.agg Item.zero.row) h := by
  rw [ret_iff, t93_eq, t93]
  simp only [amS, Nat.reduceAdd, Nat.reduceLeDiff, Nat.reduceEqDiff, ↓reduceIte, reduceCtorEq, fillAt, targetOf, itS, (f34 hs).call, pe_mkItem0, show (l.length : Int) < 2 by omega, not_true_eq_false, true_implies, false_implies]
  simp [Item.row, Item.zero]

theorem f101 {id : Nat} (hs : SObj h id l) (hb : l.length ≤ 100000) {B A : AVal} {b a : Item → Bool} (hB : AsksA B b) (hA : AsksA A a) :
    ∃ u, Ret cx 101 [.ptr (some (id, 0)), B, A] h (.int .i64 ((l.length : Int) - ((pops b a l).length : Int))) (h.set id (.cells [u])) ∧ IsItems (pops b a l) u := by
  obtain ⟨fb, cb, rfl, rb⟩ := hB
  obtain ⟨fa, ca, rfl, ra⟩ := hA
  have hlt := hs.lt
  have hev : Ev cx 101 [.ptr (some (id, 0)), .func (.func fb) [] cb, .func (.func fa) [] ca] h fun r h' => r = .int .i64 ((l.length : Int) - ((pops b a l).length : Int)) ∧ ∃ u, h' = h.set id (.cells [u]) ∧ IsItems (pops b a l) u := by
    unfold Ev
    rw [t101_eq, t101]
    refine W_loop_st (fun n : Nat => [.int .i64 ((l.length : Int) - (n : Int))]) (fun n h1 => n ≤ l.length ∧ (∃ u, h1 = h.set id (.cells [u]) ∧ IsItems (l.take n) u) ∧ pops b a l = pops b a (l.take n)) (fun n => n) l.length (by simp) ⟨Nat.le_refl _, by rw [List.take_length]; exact hs.setSame, by rw [List.take_length]⟩ ?_
    rintro n h1 ⟨hn, ⟨u, rfl, hu⟩, ha⟩
    have hs1 : SObj (h.set id (.cells [u])) id (l.take n) := .of_set hlt hu
    have hln : (l.take n).length = n := by rw [List.length_take]; omega
    simp only [amS, Nat.reduceAdd, Nat.reduceLeDiff, Nat.reduceEqDiff, ↓reduceIte, reduceCtorEq, fillAt, targetOf, itS, (f34 hs1.at).call, hln]
    match n, hn, hu, ha, hs1, hln with
    | 0, hn, hu, ha, hs1, hln =>
      rw [pops_one (l := l.take 0) (by simp)] at ha
      simp only [amS, Nat.reduceAdd, Nat.reduceLeDiff, Nat.reduceEqDiff, ↓reduceIte, reduceCtorEq, fillAt, targetOf, itS, show ¬ (1 : Int) < ((0 : Nat) : Int) by omega, not_false_eq_true, true_implies, false_implies]
      exact ⟨_, rfl, by rw [ha]; rfl, u, rfl, by rw [ha]; exact hu⟩
    | 1, hn, hu, ha, hs1, hln =>
      rw [pops_one (l := l.take 1) (by rw [hln]; exact Nat.le_refl _)] at ha
      simp only [amS, Nat.reduceAdd, Nat.reduceLeDiff, Nat.reduceEqDiff, ↓reduceIte, reduceCtorEq, fillAt, targetOf, itS, show ¬ (1 : Int) < ((1 : Nat) : Int) by omega, not_false_eq_true, true_implies, false_implies]
      exact ⟨_, rfl, by rw [ha, hln], u, rfl, by rw [ha]; exact hu⟩
    | m + 2, hn, hu, ha, hs1, hln =>
      have hm : m + 1 < l.length := by omega
      have e1 : ((l.length : Int) - ((m + 2 : Nat) : Int)) + 1 = (l.length : Int) - ((m + 1 : Nat) : Int) := by omega
      obtain ⟨u2, hr, hu2⟩ := f93 hs1 (by omega) (by omega)
      rw [topOf_take hm] at hr
      have e2 : (l.take (m + 2)).take ((l.take (m + 2)).length - 1) = l.take (m + 1) := by rw [hln, List.take_take, Nat.min_eq_left (by omega)]; rfl
      rw [e2] at hu2
      rw [List.set_set] at hr
      have hr33 := f33 hs1.at (by omega)
      rw [topOf_take hm] at hr33
      rw [pops_take hm] at ha
      simp only [amS, Nat.reduceAdd, Nat.reduceLeDiff, Nat.reduceEqDiff, ↓reduceIte, reduceCtorEq, fillAt, targetOf, itS, List.append_nil, show (1 : Int) < ((m + 2 : Nat) : Int) by omega, not_true_eq_false, true_implies, false_implies, hr33.call, (rb _ _).call, hr.call, (ra _ _).call, pe_addI (show -9223372036854775808 ≤ ((l.length : Int) - ((m + 2 : Nat) : Int)) + 1 by omega) (show ((l.length : Int) - ((m + 2 : Nat) : Int)) + 1 < 9223372036854775808 by omega), e1]
      rw [cndW_iff, cndW_iff]
      refine ⟨fun hb1 => ⟨fun ha1 => ?_, fun ha1 => ?_⟩, fun hb1 => ?_⟩
      · have hb1 : b l[m + 1] = false := by simpa using hb1
        rw [if_neg (by simp [hb1]), if_pos ha1] at ha
        exact ⟨_, rfl, by rw [ha, List.length_take, Nat.min_eq_left (by omega)], u2, rfl, by rw [ha]; exact hu2⟩
      · have hb1 : b l[m + 1] = false := by simpa using hb1
        rw [if_neg (by simp [hb1]), if_neg (by simp [ha1])] at ha
        exact LoopPost.next (m + 1) rfl ⟨by omega, ⟨u2, rfl, hu2⟩, ha⟩ (by omega)
      · have hb1 : b l[m + 1] = true := by simpa using hb1
        rw [if_pos hb1] at ha
        exact ⟨_, rfl, by rw [ha, hln], u, rfl, by rw [ha]; exact hu⟩
  obtain ⟨r, h', hr, rfl, u, rfl, hu⟩ := hev.ret
  exact ⟨u, hr, hu⟩

def never (_ : Item) : Bool := false
theorem asks_never : AsksA (.func (.func 103) [] []) never := ⟨_, _, rfl, fun a h => by rw [ret_iff, t103_eq, t103]; simp only [amS, Nat.reduceAdd, Nat.reduceLeDiff, Nat.reduceEqDiff, ↓reduceIte, reduceCtorEq, fillAt, targetOf, itS, never]⟩
theorem asks_clear {w : AVal} {ws : List Bytes} (hw : IsStrs ws w) (hn : ws.length ≤ 100000) : AsksA (.func (.func 102) [] [.rptr [w]]) (isOne ws) := ⟨_, _, rfl, fun a h => by
  rw [ret_iff, t102_eq, t102]; simp only [amS, Nat.reduceAdd, Nat.reduceLeDiff, Nat.reduceEqDiff, ↓reduceIte, reduceCtorEq, fillAt, targetOf, itS, (f98 hw hn a h).call]⟩
theorem asks_until {w : AVal} {ws : List Bytes} (hw : IsStrs ws w) (hn : ws.length ≤ 100000) : AsksA (.func (.func 105) [] [.rptr [w]]) (isOne ws) := ⟨_, _, rfl, fun a h => by
  rw [ret_iff, t105_eq, t105]; simp only [amS, Nat.reduceAdd, Nat.reduceLeDiff, Nat.reduceEqDiff, ↓reduceIte, reduceCtorEq, fillAt, targetOf, itS, (f98 hw hn a h).call]⟩
/-- What stops the removal of implied ends. -/
def unimplied (s : Bytes) (a : Item) : Bool := decide (a.space ≠ 1 ∨ a.name ∉ implieds ∨ a.name = s)
def unthorough (a : Item) : Bool := decide (a.space ≠ 1 ∨ ¬ (a.name ∈ thoroughs ∨ a.name ∈ implieds))
theorem asks_implied (s : Bytes) : AsksA (.func (.func 104) [] [.rptr [.str s]]) (unimplied s) := ⟨_, _, rfl, fun a h => by
  rw [ret_iff, t104_eq, t104]; simp only [amS, Nat.reduceAdd, Nat.reduceLeDiff, Nat.reduceEqDiff, ↓reduceIte, reduceCtorEq, fillAt, targetOf, itS, f36_iff, unimplied]
  refine ⟨fun h1 => by simp [h1], fun h1 => ?_⟩
  rw [cndW_iff]
  refine ⟨fun h2 => ?_, fun h2 => ?_⟩
  · have h2 : a.name ∉ implieds := by simpa using h2
    simp [h2]
  · have h2 : a.name ∈ implieds := by simpa using h2
    have h1 : a.space = 1 := by simpa using h1
    simp [h2, h1]⟩
theorem asks_thorough : AsksA (.func (.func 169) [] []) unthorough := ⟨_, _, rfl, fun a h => by
  rw [ret_iff, t169_eq, t169]; simp only [amS, Nat.reduceAdd, Nat.reduceLeDiff, Nat.reduceEqDiff, ↓reduceIte, reduceCtorEq, fillAt, targetOf, itS, f62_iff, unthorough]
  refine ⟨fun h1 => by simp [h1], fun h1 => ?_⟩
  have h1 : a.space = 1 := by simpa using h1
  simp [h1]⟩
theorem asks_popNode (node : Int) : AsksA (.func (.func 168) [] [.rptr [.int .i64 node]]) (isNode node) := ⟨_, _, rfl, fun a h => by
  rw [ret_iff, t168_eq, t168]; simp only [amS, Nat.reduceAdd, Nat.reduceLeDiff, Nat.reduceEqDiff, ↓reduceIte, reduceCtorEq, fillAt, targetOf, itS, isNode]⟩

theorem f29 {id : Nat} (hs : SObj h id l) (hb : l.length ≤ 100000) {w : AVal} {ws : List Bytes} (hw : IsStrs ws w) (hn : ws.length ≤ 100000) :
    ∃ u, Ret cx 29 [.ptr (some (id, 0)), w] h (.int .i64 ((l.length : Int) - ((pops (isOne ws) never l).length : Int))) (h.set id (.cells [u])) ∧ IsItems (pops (isOne ws) never l) u := by
  obtain ⟨u, hr, hu⟩ := f101 hs hb (asks_clear hw hn) asks_never
  exact ⟨u, by rw [ret_iff, t29_eq, t29]; simp only [amS, Nat.reduceAdd, Nat.reduceLeDiff, Nat.reduceEqDiff, ↓reduceIte, reduceCtorEq, fillAt, targetOf, IsStrs.cells hw, hr.call], hu⟩
theorem f30 {id : Nat} (hs : SObj h id l) (hb : l.length ≤ 100000) (s : Bytes) :
    ∃ u, Ret cx 30 [.ptr (some (id, 0)), .str s] h (.int .i64 ((l.length : Int) - ((pops (unimplied s) never l).length : Int))) (h.set id (.cells [u])) ∧ IsItems (pops (unimplied s) never l) u := by
  obtain ⟨u, hr, hu⟩ := f101 hs hb (asks_implied s) asks_never
  exact ⟨u, by rw [ret_iff, t30_eq, t30]; simp only [amS, Nat.reduceAdd, Nat.reduceLeDiff, Nat.reduceEqDiff, ↓reduceIte, reduceCtorEq, fillAt, targetOf, hr.call], hu⟩
theorem f31 {id : Nat} (hs : SObj h id l) (hb : l.length ≤ 100000) {w : AVal} {ws : List Bytes} (hw : IsStrs ws w) (hn : ws.length ≤ 100000) :
    ∃ u, Ret cx 31 [.ptr (some (id, 0)), w] h (.int .i64 ((l.length : Int) - ((pops never (isOne ws) l).length : Int))) (h.set id (.cells [u])) ∧ IsItems (pops never (isOne ws) l) u := by
  obtain ⟨u, hr, hu⟩ := f101 hs hb asks_never (asks_until hw hn)
  exact ⟨u, by rw [ret_iff, t31_eq, t31]; simp only [amS, Nat.reduceAdd, Nat.reduceLeDiff, Nat.reduceEqDiff, ↓reduceIte, reduceCtorEq, fillAt, targetOf, IsStrs.cells hw, hr.call], hu⟩
theorem f144 {id : Nat} (hs : SObj h id l) (hb : l.length ≤ 100000) :
    ∃ u, Ret cx 144 [.ptr (some (id, 0))] h (.int .i64 ((l.length : Int) - ((pops unthorough never l).length : Int))) (h.set id (.cells [u])) ∧ IsItems (pops unthorough never l) u := by
  obtain ⟨u, hr, hu⟩ := f101 hs hb asks_thorough asks_never
  exact ⟨u, by rw [ret_iff, t144_eq, t144]; simp only [amS, Nat.reduceAdd, Nat.reduceLeDiff, Nat.reduceEqDiff, ↓reduceIte, reduceCtorEq, fillAt, targetOf, hr.call], hu⟩
/-- PopNode. -/
def popNode (node : Int) (l : List Item) : List Item := if lastIdx (isNode node) l < 0 then l else pops never (isNode node) l
theorem f143 {id : Nat} (hs : SObj h id l) (hb : l.length ≤ 100000) (node : Int) :
    ∃ u, Ret cx 143 [.ptr (some (id, 0)), .int .i64 node] h (.int .i64 ((l.length : Int) - ((popNode node l).length : Int))) (h.set id (.cells [u])) ∧ IsItems (popNode node l) u := by
  by_cases hneg : lastIdx (isNode node) l < 0
  · obtain ⟨u, e, hu⟩ := hs.setSame
    refine ⟨u, ?_, by rw [popNode, if_pos hneg]; exact hu⟩
    rw [popNode, if_pos hneg, Int.sub_self, ret_iff, t143_eq, t143]
    simp only [amS, Nat.reduceAdd, Nat.reduceLeDiff, Nat.reduceEqDiff, ↓reduceIte, reduceCtorEq, fillAt, targetOf, (f40 hs.at hb node).call, hneg, not_true_eq_false, true_implies, false_implies]
    exact e
  · obtain ⟨u, hr, hu⟩ := f101 hs hb asks_never (asks_popNode node)
    refine ⟨u, ?_, by rw [popNode, if_neg hneg]; exact hu⟩
    rw [popNode, if_neg hneg, ret_iff, t143_eq, t143]
    simp only [amS, Nat.reduceAdd, Nat.reduceLeDiff, Nat.reduceEqDiff, ↓reduceIte, reduceCtorEq, fillAt, targetOf, (f40 hs.at hb node).call, hneg, not_false_eq_true, true_implies, false_implies, hr.call]

/-! What is left, as cuts. -/
/-- The first items, as many as are left, at least one if there is one. -/
def cutL (l : List Item) (i : Int) : List Item := l.take (max 1 i.toNat)
theorem pops_until {q : Item → Bool} (l : List Item) : pops never q l = cutL l (lastIdx q l) := by
  have key : ∀ r : List Item, pops never q r.reverse = cutL r.reverse (lastIdx q r.reverse) := by
    intro r
    induction r with
    | nil => rfl
    | cons x r ih =>
      rw [List.reverse_cons, lastIdx_snoc]
      rcases Nat.eq_zero_or_pos r.length with h0 | h0
      · have : r = [] := List.length_eq_zero_iff.1 h0
        subst this
        by_cases hq : q x = true <;> simp [hq, cutL, pops, popsR, lastIdx_nil]
      · have h1 : 1 ≤ r.reverse.length := by rw [List.length_reverse]; omega
        rw [pops_snoc h1]
        by_cases hq : q x = true
        · rw [if_neg (by simp [never]), if_pos hq, if_pos hq]
          unfold cutL
          rw [Int.toNat_natCast, Nat.max_eq_right h1, List.take_append_of_le_length (Nat.le_refl _), List.take_length]
        · rw [if_neg (by simp [never]), if_neg hq, if_neg hq, ih]
          unfold cutL
          rw [List.take_append_of_le_length]
          rcases lastIdx_spec (q := q) (l := r.reverse) with ⟨e1, _⟩ | ⟨n, hn, e1, _⟩ <;> rw [e1] <;> omega
  have := key l.reverse
  rwa [List.reverse_reverse] at this
theorem pops_clear {q : Item → Bool} (l : List Item) : pops q never l = cutL l (lastIdx q l + 1) := by
  have key : ∀ r : List Item, pops q never r.reverse = cutL r.reverse (lastIdx q r.reverse + 1) := by
    intro r
    induction r with
    | nil => rfl
    | cons x r ih =>
      rw [List.reverse_cons, lastIdx_snoc]
      rcases Nat.eq_zero_or_pos r.length with h0 | h0
      · have : r = [] := List.length_eq_zero_iff.1 h0
        subst this
        by_cases hq : q x = true <;> simp [hq, cutL, pops, popsR, lastIdx_nil]
      · have h1 : 1 ≤ r.reverse.length := by rw [List.length_reverse]; omega
        rw [pops_snoc h1]
        by_cases hq : q x = true
        · rw [if_pos hq, if_pos hq]
          unfold cutL
          rw [List.take_of_length_le]
          rw [List.length_append, List.length_singleton]; omega
        · rw [if_neg hq, if_neg (by simp [never]), if_neg hq, ih]
          unfold cutL
          rw [List.take_append_of_le_length]
          rcases lastIdx_spec (q := q) (l := r.reverse) with ⟨e1, _⟩ | ⟨n, hn, e1, _⟩ <;> rw [e1] <;> omega
  have := key l.reverse
  rwa [List.reverse_reverse] at this
theorem popNode_cut {node : Int} (l : List Item) : popNode node l = if lastIdx (isNode node) l < 0 then l else cutL l (lastIdx (isNode node) l) := by
  unfold popNode; rw [pops_until]
end
end Go.Am
