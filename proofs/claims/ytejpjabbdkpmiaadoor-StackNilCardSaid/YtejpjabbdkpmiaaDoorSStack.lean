/-
  The stack of open elements: what the reading functions and the specification's return. No law is claimed here.
-/
import Derived.Test.YtejpjabbdkpmiaaDoorSPoints
namespace Go.Am
open Go
set_option maxRecDepth 100000
set_option linter.unusedSimpArgs false
set_option linter.unusedVariables false

section
variable {α : Type} {f : α → List AVal} {l l2 : List α} {v v2 : AVal} {z b : Nat} {k k2 : IntKind}
theorem IsSl.lenM (hv : IsSl z (l.map f) v) : peval (.len false) [v] = some (.int .i64 (l.length : Int)) := by
  have := IsSl.len hv; rwa [List.length_map] at this
theorem IsSl.eaddrM (hv : IsSl z (l.map f) v) {n : Nat} (hn : n < l.length) : peval (.eaddr z) [v, .int k (n : Int)] = some (.rptr (f l[n])) := by
  have := IsSl.eaddr hv (k := k) (n := n) (by simpa using hn); simpa using this
theorem IsSl.slcHi (hv : IsSl z (l.map f) v) {n : Nat} (hn : n ≤ l.length) : ∃ u, peval (.slc z false false true) [v, .int k (n : Int)] = some u ∧ IsSl z ((l.take n).map f) u := by
  rcases hv with rfl | ⟨rfl, h⟩
  · have e1 : bound (n : Int) (l.map f).length = some n := by unfold bound; rw [List.length_map, if_pos (by omega)]; rfl
    refine ⟨.sl z ((l.map f).take n), ?_, .inl (by rw [List.map_take])⟩
    simp only [peval, sliceOf, boundsOf, e1, Option.map_some, and_self, if_true, List.drop_zero]
  · have : l = [] := by simpa using h
    subst this
    have : n = 0 := by simpa using hn
    subst this
    exact ⟨.slnil, rfl, .inr ⟨rfl, rfl⟩⟩
theorem IsSl.slcLo (hv : IsSl z (l.map f) v) {n : Nat} (hn : n ≤ l.length) : ∃ u, peval (.slc z false true false) [v, .int k (n : Int)] = some u ∧ IsSl z ((l.drop n).map f) u := by
  rcases hv with rfl | ⟨rfl, h⟩
  · have e1 : bound (n : Int) (l.map f).length = some n := by unfold bound; rw [List.length_map, if_pos (by omega)]; rfl
    refine ⟨.sl z ((l.map f).drop n), ?_, .inl (by rw [List.map_drop])⟩
    simp only [peval, sliceOf, boundsOf, e1, Option.map_some, and_self, if_true, List.take_length]
  · have : l = [] := by simpa using h
    subst this
    have : n = 0 := by simpa using hn
    subst this
    exact ⟨.slnil, rfl, .inr ⟨rfl, rfl⟩⟩
theorem IsSl.appM (hv : IsSl z (l.map f) v) (hv2 : IsSl z (l2.map f) v2) (hb : (l.length + l2.length) * b ≤ maxBytes) : ∃ u, peval (.append z b) [v, v2] = some u ∧ IsSl z ((l ++ l2).map f) u := by
  obtain ⟨u, e, hu⟩ := IsSl.app hv hv2 (b := b) (by simpa using hb)
  exact ⟨u, e, by rwa [List.map_append]⟩
theorem IsSl.appNil (hv2 : IsSl z (l2.map f) v2) (hb : l2.length * b ≤ maxBytes) : ∃ u, peval (.append z b) [.slnil, v2] = some u ∧ IsSl z (l2.map f) u := by
  obtain ⟨u, e, hu⟩ := IsSl.app (v := .slnil) (r := []) .nil hv2 (b := b) (by simpa using hb)
  exact ⟨u, e, by simpa using hu⟩
theorem IsSl.app1M {a : α} (hv : IsSl z (l.map f) v) (hb : (l.length + 1) * b ≤ maxBytes) : peval (.append z b) [v, .sl z [f a]] = some (.sl z ((l ++ [a]).map f)) := by
  rw [IsSl.app1 hv (by simpa using hb)]; simp
end
theorem pe_subI {a b : Int} (h1 : -9223372036854775808 ≤ a - b) (h2 : a - b < 9223372036854775808) : peval (.int .sub) [.int .i64 a, .int .i64 b] = some (.int .i64 (a - b)) := by
  rw [pe_sub, wrap_i64 h1 h2]
theorem pe_addI {a b : Int} (h1 : -9223372036854775808 ≤ a + b) (h2 : a + b < 9223372036854775808) : peval (.int .add) [.int .i64 a, .int .i64 b] = some (.int .i64 (a + b)) := by
  rw [pe_add, wrap_i64 h1 h2]

def Item.zero : Item := ⟨0, 0, [], false⟩
theorem Item.len_row {a : Item} : a.row.length = 4 := rfl
theorem Item.g0 {a : Item} {d : AVal} : a.row.getD 0 d = .int .i64 a.node := rfl
theorem Item.g1 {a : Item} {d : AVal} : a.row.getD 1 d = .int .i64 a.space := rfl
theorem Item.g2 {a : Item} {d : AVal} : a.row.getD 2 d = .str a.name := rfl
theorem Item.g3 {a : Item} {d : AVal} : a.row.getD 3 d = .bool a.point := rfl
theorem Item.at0 {a : Item} : a.row[0]? = some (.int .i64 a.node) := rfl
theorem Item.take_row {a : Item} : a.row.take 4 = a.row := rfl
theorem Item.drop1 {a : Item} : a.row.drop 1 = [.int .i64 a.space, .str a.name, .bool a.point] := rfl
theorem Item.drop2 {a : Item} : a.row.drop 2 = [.str a.name, .bool a.point] := rfl
theorem Item.drop3 {a : Item} : a.row.drop 3 = [.bool a.point] := rfl
theorem Item.fold {a : Item} : [AVal.int .i64 a.node, .int .i64 a.space, .str a.name, .bool a.point] = a.row := rfl
theorem Item.fill {a : Item} : fillAt [.int .i64 0, .int .i64 0, .str [], .bool false] ([(0, 1), (1, 1), (2, 1), (3, 1)].zip a.row) = some a.row := rfl
/-- The rules about rows of items, in one. -/
theorem itS : type_of% (And.intro @Item.fill (And.intro @Item.len_row (And.intro @Item.g0 (And.intro @Item.g1 (And.intro @Item.g2 (And.intro @Item.g3 (And.intro @Item.at0 (And.intro @Item.take_row (And.intro @Item.drop1 (And.intro @Item.drop2 (And.intro @Item.drop3 (And.intro @Item.fold (And.intro @Nat.zero_lt_one (@List.append_nil.{0})))))))))))))) := And.intro @Item.fill (And.intro @Item.len_row (And.intro @Item.g0 (And.intro @Item.g1 (And.intro @Item.g2 (And.intro @Item.g3 (And.intro @Item.at0 (And.intro @Item.take_row (And.intro @Item.drop1 (And.intro @Item.drop2 (And.intro @Item.drop3 (And.intro @Item.fold (And.intro @Nat.zero_lt_one (@List.append_nil.{0})))))))))))))
theorem Item.zero_row : [I 0, I 0, S [], ff] = Item.zero.row := rfl
def itemAt (l : List Item) (i : Int) : Item := if 0 ≤ i then l.getD i.toNat Item.zero else Item.zero
def topOf (l : List Item) : Item := itemAt l ((l.length : Int) - 1)
/-- The index of the last element that fits, or -1. -/
def lastIdx {α : Type} (q : α → Bool) (l : List α) : Int := match l.reverse.findIdx? q with
  | some k => (l.length : Int) - 1 - k
  | none => -1
theorem lastIdx_nil {α : Type} {q : α → Bool} : lastIdx q [] = -1 := rfl
theorem lastIdx_snoc {α : Type} {q : α → Bool} {l : List α} {a : α} : lastIdx q (l ++ [a]) = if q a then (l.length : Int) else lastIdx q l := by
  unfold lastIdx
  rw [List.reverse_append, List.reverse_singleton, List.singleton_append, List.findIdx?_cons]
  by_cases h : q a = true
  · simp only [h, if_true, List.length_append, List.length_singleton]; omega
  · simp only [h, if_false, Bool.false_eq_true, List.length_append, List.length_singleton]
    cases List.findIdx? q l.reverse with
    | none => rfl
    | some k => simp only [Option.map_some]; omega
theorem lastIdx_take {α : Type} {q : α → Bool} {l : List α} {n : Nat} (hn : n < l.length) : lastIdx q (l.take (n + 1)) = if q l[n] then (n : Int) else lastIdx q (l.take n) := by
  rw [List.take_succ_eq_append_getElem hn, lastIdx_snoc, List.length_take, Nat.min_eq_left (Nat.le_of_lt hn)]
theorem lastIdx_spec {α : Type} {q : α → Bool} {l : List α} : (lastIdx q l = -1 ∧ ∀ a ∈ l, q a = false) ∨ ∃ (n : Nat) (hn : n < l.length), lastIdx q l = (n : Int) ∧ q l[n] = true ∧ ∀ m (hm : m < l.length), n < m → q l[m] = false := by
  have key : ∀ r : List α, (lastIdx q r.reverse = -1 ∧ ∀ a ∈ r.reverse, q a = false) ∨ ∃ (n : Nat) (hn : n < r.reverse.length), lastIdx q r.reverse = (n : Int) ∧ q r.reverse[n] = true ∧ ∀ m (hm : m < r.reverse.length), n < m → q r.reverse[m] = false := by
    intro r
    induction r with
    | nil => exact .inl ⟨rfl, by simp⟩
    | cons a r ih =>
      rw [List.reverse_cons, lastIdx_snoc]
      by_cases h : q a = true
      · refine .inr ⟨r.reverse.length, by simp, by rw [if_pos h], by simp [h], fun m hm hlt => ?_⟩
        simp at hm hlt; omega
      · rw [if_neg h]
        rcases ih with ⟨h1, h2⟩ | ⟨n, hn, h1, h2, h3⟩
        · exact .inl ⟨h1, fun b hb => by
            rcases List.mem_append.1 hb with hb | hb
            · exact h2 b hb
            · simp at hb; subst hb; simpa using h⟩
        · refine .inr ⟨n, by simp at hn ⊢; omega, h1, by rw [List.getElem_append_left hn]; exact h2, fun m hm hlt => ?_⟩
          by_cases hm2 : m < r.reverse.length
          · rw [List.getElem_append_left hm2]; exact h3 m hm2 hlt
          · have : m = r.reverse.length := by simp at hm hm2 ⊢; omega
            subst this
            simpa using h
  have := key l.reverse
  rwa [List.reverse_reverse] at this

/-- A stack's object, or nil for the empty one. -/
def SAt (h : AHeap) (p : AVal) (l : List Item) : Prop := (p = .ptr none ∧ l = []) ∨ ∃ id v, p = .ptr (some (id, 0)) ∧ h[id]? = some (.cells [v]) ∧ IsItems l v
theorem hload_at {h : AHeap} {id off : Nat} {cs : List AVal} (hc : h[id]? = some (.cells cs)) {n : Option Nat} : hload h n (.ptr (some (id, off))) = partOf cs off n := by simp only [hload, hc]

theorem row_getD {a : Item} : ∀ {l : List Item} {n : Nat}, l[n]? = some a → l.getD n Item.zero = a := by
  intro l n h; rw [List.getD_eq_getElem?_getD, h]; rfl
theorem itemAt_lt {l : List Item} {n : Nat} (hn : n < l.length) : itemAt l (n : Int) = l[n] := by
  have : (0 : Int) ≤ (n : Int) := by omega
  simp [itemAt, this, hn]
theorem itemAt_out {l : List Item} {i : Int} (h : i < 0 ∨ (l.length : Int) ≤ i) : itemAt l i = Item.zero := by
  unfold itemAt
  rcases h with h | h
  · rw [if_neg (by omega)]
  · rw [if_pos (by omega), List.getD_eq_getElem?_getD, List.getElem?_eq_none (by omega)]; rfl

section
variable {h : AHeap} {p : AVal} {l : List Item}
theorem f34 (hs : SAt h p l) : Ret cx 34 [p] h (.int .i64 (l.length : Int)) h := by
  rw [ret_iff, t34_eq, t34]
  rcases hs with ⟨rfl, rfl⟩ | ⟨id, v, rfl, hc, hv⟩
  · simp
  · simp only [amS, Nat.reduceAdd, Nat.reduceLeDiff, Nat.reduceEqDiff, ↓reduceIte, reduceCtorEq, fillAt, targetOf, itS, bne_self_eq_false, cndW_false, hload_at hc, Nat.add_zero, hv.lenM]
theorem f48 (hs : SAt h p l) (i : Int) : Ret cx 48 [p, .int .i64 i] h (.agg (itemAt l i).row) h := by
  rw [ret_iff, t48_eq, t48]
  simp only [amS, Nat.reduceAdd, Nat.reduceLeDiff, Nat.reduceEqDiff, ↓reduceIte, reduceCtorEq, fillAt, targetOf, itS, (f34 hs).call]
  refine ⟨fun hi => by rw [itemAt_out (.inl hi)]; simp [Item.row, Item.zero], fun hi => ⟨fun hl => by rw [itemAt_out (.inr hl)]; simp [Item.row, Item.zero], fun hl => ?_⟩⟩
  rcases hs with ⟨rfl, rfl⟩ | ⟨id, v, rfl, hc, hv⟩
  · simp at hl; omega
  · obtain ⟨n, rfl⟩ := Int.eq_ofNat_of_zero_le (show 0 ≤ i by omega)
    have hn : n < l.length := by omega
    simp only [amS, Nat.reduceAdd, Nat.reduceLeDiff, Nat.reduceEqDiff, ↓reduceIte, reduceCtorEq, fillAt, targetOf, itS, hload_at hc, Nat.add_zero, hv.eaddrM hn, itemAt_lt hn]
theorem f33 (hs : SAt h p l) (hn : l.length ≤ 100000) : Ret cx 33 [p] h (.agg (topOf l).row) h := by
  rw [ret_iff, t33_eq, t33]
  simp only [amS, Nat.reduceAdd, Nat.reduceLeDiff, Nat.reduceEqDiff, ↓reduceIte, reduceCtorEq, fillAt, targetOf, itS, (f34 hs).call, pe_subI (show -9223372036854775808 ≤ (l.length : Int) - 1 by omega) (show (l.length : Int) - 1 < 9223372036854775808 by omega), (f48 hs _).call, topOf]

/-- A function value that asks something of an item. -/
def Asks (F : AVal) (h : AHeap) (q : Item → Bool) : Prop := ∃ f caps, F = .func (.func f) [] caps ∧ ∀ a : Item, Ret cx f (.agg a.row :: caps) h (.bool (q a)) h
theorem Asks.callv {F : AVal} {q : Item → Bool} (hF : Asks F h q) (a : Item) {k : AVal → IT} {Q : Post} : W cx (.callv F [.agg a.row] k) Q h ↔ W cx (k (.bool (q a))) Q h := by
  obtain ⟨f, caps, rfl, hr⟩ := hF
  rw [W_callv_iff]
  simp only [targetOf, List.nil_append, List.cons_append, opW_some, (hr a).call]

theorem f106 (hs : SAt h p l) (hn : l.length ≤ 100000) {F : AVal} {q : Item → Bool} (hF : Asks F h q) : Ret cx 106 [p, F] h (.int .i64 (lastIdx q l)) h := by
  obtain ⟨f, caps, rfl, hr⟩ := hF
  rw [ret_iff, t106_eq, t106]
  simp only [amS, Nat.reduceAdd, Nat.reduceLeDiff, Nat.reduceEqDiff, ↓reduceIte, reduceCtorEq, fillAt, targetOf, itS, (f34 hs).call, pe_subI (show -9223372036854775808 ≤ (l.length : Int) - 1 by omega) (show (l.length : Int) - 1 < 9223372036854775808 by omega)]
  refine W_loop_st (fun n : Nat => [.int .i64 0, .int .i64 ((n : Int) - 1)]) (fun n h1 => n ≤ l.length ∧ lastIdx q l = lastIdx q (l.take n) ∧ h1 = h) (fun n => n) l.length rfl ⟨Nat.le_refl _, by rw [List.take_length], rfl⟩ ?_
  rintro n h1 ⟨hn', ha, rfl⟩
  cases n with
  | zero =>
    have i1 : ¬ (0 : Int) ≤ ((0 : Nat) : Int) - 1 := by omega
    rw [ha]
    simp only [amS, Nat.reduceAdd, Nat.reduceLeDiff, Nat.reduceEqDiff, ↓reduceIte, reduceCtorEq, fillAt, targetOf, itS, i1, not_false_eq_true, true_implies, false_implies, List.take_zero, lastIdx_nil]
  | succ n =>
    have i1 : (0 : Int) ≤ ((n + 1 : Nat) : Int) - 1 := by omega
    have i2 : ((n + 1 : Nat) : Int) - 1 = (n : Int) := by omega
    rcases hs with ⟨rfl, rfl⟩ | ⟨id, v, rfl, hc, hv⟩
    · simp at hn'
    · rw [lastIdx_take (by omega)] at ha
      simp only [amS, Nat.reduceAdd, Nat.reduceLeDiff, Nat.reduceEqDiff, ↓reduceIte, reduceCtorEq, fillAt, targetOf, itS, i2, show (0 : Int) ≤ (n : Int) by omega, not_true_eq_false, true_implies, false_implies, hload_at hc, Nat.add_zero, hv.eaddrM (show n < l.length by omega), List.append_nil, (hr l[n]).call, pe_subI (show -9223372036854775808 ≤ (n : Int) - 1 by omega) (show (n : Int) - 1 < 9223372036854775808 by omega)]
      rw [cndW_iff]
      refine ⟨fun he => ?_, fun he => ?_⟩
      · rw [ha, if_pos he]
      · rw [if_neg (by simp [he])] at ha
        exact LoopPost.next n rfl ⟨by omega, ha, rfl⟩ (by omega)

/-- slices.Index and slices.Contains over strings. -/
theorem f174 {v : AVal} {ws : List Bytes} (hv : IsStrs ws v) (hn : ws.length ≤ 100000) (s : Bytes) (h : AHeap) : Ret cx 174 [v, .str s] h (.int .i64 (idxFrom (fun w => decide (s = w)) 0 ws)) h := by
  rw [ret_iff, t174_eq, t174]
  have hv : IsSl 1 (ws.map strRow) v := hv
  simp only [amS, Nat.reduceAdd, Nat.reduceLeDiff, Nat.reduceEqDiff, ↓reduceIte, reduceCtorEq, fillAt, targetOf, itS, hv.lenM]
  refine W_loop_st (fun n : Nat => [.int .i64 0, .int .i64 (n : Int)]) (fun n h1 => n ≤ ws.length ∧ idxFrom (fun w => decide (s = w)) 0 ws = idxFrom (fun w => decide (s = w)) n (ws.drop n) ∧ h1 = h) (fun n => ws.length - n) 0 rfl ⟨Nat.zero_le _, rfl, rfl⟩ ?_
  rintro n h1 ⟨hn', ha, rfl⟩
  rcases Nat.lt_or_ge n ws.length with hlt | hge
  · have i1 : (n : Int) < (ws.length : Int) := by omega
    rw [List.drop_eq_getElem_cons hlt, idxFrom] at ha
    simp only [amS, Nat.reduceAdd, Nat.reduceLeDiff, Nat.reduceEqDiff, ↓reduceIte, reduceCtorEq, fillAt, targetOf, itS, i1, not_true_eq_false, true_implies, false_implies, hv.eaddrM hlt, strRow, pe_inc (show n < 9223372036854775807 by omega)]
    refine ⟨fun he => ?_, fun he => ?_⟩
    · rw [ha, if_pos (by simpa using he)]
    · rw [if_neg (by simpa using he)] at ha
      exact LoopPost.next (n + 1) rfl ⟨hlt, ha, rfl⟩ (by omega)
  · have i1 : ¬ (n : Int) < (ws.length : Int) := by omega
    rw [List.drop_of_length_le hge, idxFrom] at ha
    simp only [amS, Nat.reduceAdd, Nat.reduceLeDiff, Nat.reduceEqDiff, ↓reduceIte, reduceCtorEq, fillAt, targetOf, itS, i1, not_false_eq_true, true_implies, false_implies, ha]
theorem idx_has {s : Bytes} {ws : List Bytes} : decide (0 ≤ idxFrom (fun w => decide (s = w)) 0 ws) = decide (s ∈ ws) := by
  rcases idxFrom_find (p := fun w => decide (s = w)) (l := ws) (k := 0) with ⟨h1, h2⟩ | ⟨n, a, h1, h2, h3⟩
  · rw [h1, decide_eq_decide]
    have := List.find?_eq_none.1 h2
    exact ⟨fun h => by omega, fun h => absurd (show s = s from rfl) (by simpa using this s h)⟩
  · rw [h1, decide_eq_decide]
    have e : s = a := by simpa using List.find?_some h3
    have : a ∈ ws := List.mem_of_getElem? h2
    refine ⟨fun _ => e ▸ this, fun _ => by omega⟩
theorem f155 {v : AVal} {ws : List Bytes} (hv : IsStrs ws v) (hn : ws.length ≤ 100000) (s : Bytes) (h : AHeap) : Ret cx 155 [v, .str s] h (.bool (decide (s ∈ ws))) h := by
  rw [ret_iff, t155_eq, t155]
  simp only [amS, Nat.reduceAdd, Nat.reduceLeDiff, Nat.reduceEqDiff, ↓reduceIte, reduceCtorEq, fillAt, targetOf, itS, (f174 hv hn s h).call, idx_has]

/-- An element with one of these names. -/
def isOne (ws : List Bytes) (a : Item) : Bool := decide (a.space = 1 ∧ a.name ∈ ws)
theorem f98 {v : AVal} {ws : List Bytes} (hv : IsStrs ws v) (hn : ws.length ≤ 100000) (a : Item) (h : AHeap) : Ret cx 98 [.agg a.row, v] h (.bool (isOne ws a)) h := by
  rw [ret_iff, t98_eq, t98]
  simp only [amS, Nat.reduceAdd, Nat.reduceLeDiff, Nat.reduceEqDiff, ↓reduceIte, reduceCtorEq, fillAt, targetOf, itS, (f155 hv hn _ h).call, isOne]
  refine ⟨fun h1 => by simp [h1], fun h1 => by simp [h1]⟩
theorem isStrs_of {ws : List Bytes} : IsStrs ws (.sl 1 (ws.map strRow)) := .mk

/-- The boundaries of a scope. -/
def ends (n : Int) (a : Item) : Bool :=
  if n = 4 then isOne rTables a else if n = 5 then !isOne rSelects a else if a.space = 3 ∨ a.space = 2 then isSpecial a.space a.name
  else isOne rBounds a || (decide (n = 2) && isOne rLists a) || (decide (n = 3) && isOne [[98,117,116,116,111,110]] a)

theorem mk_strs {ws : List Bytes} {args : List AVal} (e : args = ws.map AVal.str) (h : ws.length ≤ 16777216) : peval (.mksl 1) args = some (.sl 1 (ws.map strRow)) := by
  subst e
  have e1 : (ws.map AVal.str).all (fun a => a.cells.length == 1) = true := by simp
  have e2 : (ws.map AVal.str).map (·.cells) = ws.map strRow := by simp [strRow]
  rw [pe_mksl, e1, e2]
  simp [h]
theorem mk_rTables : peval (.mksl 1) [S [104,116,109,108], S [116,97,98,108,101], S [116,101,109,112,108,97,116,101]] = some (.sl 1 (rTables.map strRow)) := mk_strs (ws := rTables) rfl (by decide)
theorem mk_rSelects : peval (.mksl 1) [S [111,112,116,103,114,111,117,112], S [111,112,116,105,111,110]] = some (.sl 1 (rSelects.map strRow)) := mk_strs (ws := rSelects) rfl (by decide)
theorem mk_rLists : peval (.mksl 1) [S [111,108], S [117,108]] = some (.sl 1 (rLists.map strRow)) := mk_strs (ws := rLists) rfl (by decide)
theorem mk_rBounds : peval (.mksl 1) [S [97,112,112,108,101,116], S [99,97,112,116,105,111,110], S [104,116,109,108], S [109,97,114,113,117,101,101], S [111,98,106,101,99,116], S [116,97,98,108,101], S [116,100], S [116,101,109,112,108,97,116,101], S [116,104]] = some (.sl 1 (rBounds.map strRow)) := mk_strs (ws := rBounds) rfl (by decide)
theorem mk_button : peval (.mksl 1) [S [98,117,116,116,111,110]] = some (.sl 1 ([[98,117,116,116,111,110]].map strRow)) := mk_strs (ws := [[98,117,116,116,111,110]]) rfl (by decide)
theorem f171 (a : Item) (h : AHeap) : Ret cx 171 [.agg a.row] h (.bool (isOne rTables a)) h := by
  rw [ret_iff, t171_eq, t171]
  simp only [amS, Nat.reduceAdd, Nat.reduceLeDiff, Nat.reduceEqDiff, ↓reduceIte, reduceCtorEq, fillAt, targetOf, itS, mk_rTables, (f98 (ws := rTables) isStrs_of (by decide) a h).call]
theorem f172 (a : Item) (h : AHeap) : Ret cx 172 [.agg a.row] h (.bool (!isOne rSelects a)) h := by
  rw [ret_iff, t172_eq, t172]
  simp only [amS, Nat.reduceAdd, Nat.reduceLeDiff, Nat.reduceEqDiff, ↓reduceIte, reduceCtorEq, fillAt, targetOf, itS, mk_rSelects, (f98 (ws := rSelects) isStrs_of (by decide) a h).call]
theorem f173 (n : Int) (h4 : n ≠ 4) (h5 : n ≠ 5) (a : Item) (h : AHeap) : Ret cx 173 [.agg a.row, .rptr [.int .i64 n]] h (.bool (ends n a)) h := by
  have b1 := f98 (ws := rBounds) isStrs_of (by decide) a h
  have b2 := f98 (ws := rLists) isStrs_of (by decide) a h
  have b3 := f98 (ws := [[98,117,116,116,111,110]]) isStrs_of (by decide) a h
  rw [ret_iff, t173_eq, t173]
  simp only [amS, Nat.reduceAdd, Nat.reduceLeDiff, Nat.reduceEqDiff, ↓reduceIte, reduceCtorEq, fillAt, targetOf, itS, f42_iff, mk_rBounds, mk_rLists, mk_button, b1.call, b2.call, b3.call, ends, h4, h5]
  refine ⟨fun h1 => by simp [h1], fun h1 => ⟨fun h2 => by simp [h2], fun h2 => ?_⟩⟩
  rw [cndW_iff]
  simp only [h1, h2, or_self, if_false]
  refine ⟨fun h3 => by simp [h3], fun h3 => ⟨fun h6 => ?_, fun h6 => ⟨fun h7 => by simp [h3, h7], fun h7 => by simp [h3, h6, h7]⟩⟩⟩
  rw [cndW_iff]
  exact ⟨fun h7 => by simp [h3, h6, h7], fun h7 => ⟨fun h8 => by omega, fun h8 => by simp [h3, h7, h8]⟩⟩
theorem f153 (n : Int) (h : AHeap) : ∃ F, Ret cx 153 [.int .i64 n] h F h ∧ Asks F h (ends n) ∧ F.cells = [F] := by
  by_cases h4 : n = 4
  · refine ⟨.func (.func 171) [] [], ?_, ⟨_, _, rfl, fun a => ?_⟩, rfl⟩
    · rw [ret_iff, t153_eq, t153]; simp only [amS, Nat.reduceAdd, Nat.reduceLeDiff, Nat.reduceEqDiff, ↓reduceIte, reduceCtorEq, fillAt, targetOf, itS, h4, not_true_eq_false, true_implies, false_implies]
    · have := f171 a h; simpa [ends, h4] using this
  · by_cases h5 : n = 5
    · refine ⟨.func (.func 172) [] [], ?_, ⟨_, _, rfl, fun a => ?_⟩, rfl⟩
      · rw [ret_iff, t153_eq, t153]; simp only [amS, Nat.reduceAdd, Nat.reduceLeDiff, Nat.reduceEqDiff, ↓reduceIte, reduceCtorEq, fillAt, targetOf, itS, h5, not_true_eq_false, true_implies, false_implies]; simp
      · have := f172 a h; simpa [ends, h5] using this
    · refine ⟨.func (.func 173) [] [.rptr [.int .i64 n]], ?_, ⟨_, _, rfl, fun a => f173 n h4 h5 a h⟩, rfl⟩
      rw [ret_iff, t153_eq, t153]; simp only [amS, Nat.reduceAdd, Nat.reduceLeDiff, Nat.reduceEqDiff, ↓reduceIte, reduceCtorEq, fillAt, targetOf, itS, h4, h5, not_false_eq_true, true_implies, false_implies]

/-- In a scope: the topmost item that fits or ends the scope fits. -/
def inSc {α : Type} (q e : α → Bool) : List α → Bool
  | [] => false
  | a :: r => if q a then true else if e a then false else inSc q e r

theorem f154 {F1 F2 : AVal} {q e : Item → Bool} (h1 : Asks F1 h q) (h2 : Asks F2 h e) (a : Item) : Ret cx 154 [.agg a.row, .rptr [F1], .rptr [F2]] h (.bool (q a || e a)) h := by
  have c1 := fun k Q => h1.callv a (k := k) (Q := Q)
  have c2 := fun k Q => h2.callv a (k := k) (Q := Q)
  rw [ret_iff, t154_eq, t154]
  obtain ⟨f, caps, rfl, r1⟩ := h1
  obtain ⟨f', caps', rfl, r2⟩ := h2
  simp only [amS, Nat.reduceAdd, Nat.reduceLeDiff, Nat.reduceEqDiff, ↓reduceIte, reduceCtorEq, fillAt, targetOf, itS, List.append_nil, (r1 a).call, (r2 a).call]
  rw [cndW_iff]
  exact ⟨fun h => by simp [h], fun h => by simp [h]⟩

theorem lastIdx_sc {α : Type} {q e : α → Bool} (l : List α) (b : Bool) : (if h : 0 ≤ lastIdx (fun a => q a || e a) l ∧ (lastIdx (fun a => q a || e a) l).toNat < l.length then q (l[(lastIdx (fun a => q a || e a) l).toNat]'h.2) else false) = inSc q e l.reverse := by
  have key : ∀ r : List α, (if h : 0 ≤ lastIdx (fun a => q a || e a) r.reverse ∧ (lastIdx (fun a => q a || e a) r.reverse).toNat < r.reverse.length then q (r.reverse[(lastIdx (fun a => q a || e a) r.reverse).toNat]'h.2) else false) = inSc q e r := by
    intro r
    induction r with
    | nil => simp [inSc, lastIdx_nil]
    | cons a r ih =>
      simp only [List.reverse_cons, inSc]
      have e0 := lastIdx_snoc (q := fun a => q a || e a) (l := r.reverse) (a := a)
      by_cases hq : q a = true
      · rw [if_pos (by simp [hq])] at e0
        have e1 : (lastIdx (fun a => q a || e a) (r.reverse ++ [a])).toNat = r.reverse.length := by rw [e0]; omega
        simp only [e1]
        rw [dif_pos ⟨by rw [e0]; omega, by simp⟩]
        simp [hq]
      · by_cases he : e a = true
        · rw [if_pos (by simp [he])] at e0
          have e1 : (lastIdx (fun a => q a || e a) (r.reverse ++ [a])).toNat = r.reverse.length := by rw [e0]; omega
          simp only [e1]
          rw [dif_pos ⟨by rw [e0]; omega, by simp⟩]
          simp [hq, he]
        · rw [if_neg (by simp [hq, he])] at e0
          simp only [hq, he, if_false, Bool.false_eq_true, ← ih, e0]
          rcases lastIdx_spec (q := fun a => q a || e a) (l := r.reverse) with ⟨h1, h2⟩ | ⟨n, hn, h1, h2, h3⟩
          · simp [h1]
          · have c1 : (0 : Int) ≤ (n : Int) ∧ (n : Int).toNat < r.reverse.length := ⟨by omega, by simpa using hn⟩
            have c2 : (0 : Int) ≤ (n : Int) ∧ (n : Int).toNat < (r.reverse ++ [a]).length := ⟨by omega, by simp at hn ⊢; omega⟩
            simp only [h1]
            rw [dif_pos c1, dif_pos c2, List.getElem_append_left c1.2]
  have := key l.reverse
  rwa [List.reverse_reverse] at this

theorem f96 (hs : SAt h p l) (hn : l.length ≤ 100000) (n : Int) {F : AVal} {q : Item → Bool} (hF : Asks F h q) : Ret cx 96 [p, .int .i64 n, F] h (.bool (inSc q (ends n) l.reverse)) h := by
  obtain ⟨G, hG, hfits, hcell⟩ := f153 n h
  have hFc : F.cells = [F] := by obtain ⟨f, caps, rfl, _⟩ := hF; rfl
  have hF' := hF
  have hfit : Asks (.func (.func 154) [] [.rptr [F], .rptr [G]]) h (fun a => q a || ends n a) := ⟨154, _, rfl, fun a => f154 hF hfits a⟩
  rw [ret_iff, t96_eq, t96]
  simp only [amS, Nat.reduceAdd, Nat.reduceLeDiff, Nat.reduceEqDiff, ↓reduceIte, reduceCtorEq, fillAt, targetOf, itS, hFc, hG.call, hcell, (f106 hs hn hfit).call]
  rw [← lastIdx_sc l true]
  rcases lastIdx_spec (q := fun a => q a || ends n a) (l := l) with ⟨h1, h2⟩ | ⟨k, hk, h1, h2, h3⟩
  · simp [h1]
  · have c1 : (0 : Int) ≤ (k : Int) ∧ (k : Int).toNat < l.length := ⟨by omega, by simpa using hk⟩
    simp only [h1]
    rw [dif_pos c1]
    rcases hs with ⟨rfl, rfl⟩ | ⟨id, v, rfl, hc, hv⟩
    · simp at hk
    · obtain ⟨f, caps, rfl, hr⟩ := hF'
      simp only [amS, Nat.reduceAdd, Nat.reduceLeDiff, Nat.reduceEqDiff, ↓reduceIte, reduceCtorEq, fillAt, targetOf, itS, c1.1, not_true_eq_false, true_implies, false_implies, hload_at hc, Nat.add_zero, hv.eaddrM hk, List.append_nil, (hr l[k]).call, Int.toNat_natCast]

theorem f97 {v : AVal} {ws : List Bytes} (hv : IsStrs ws v) (hn : ws.length ≤ 100000) (a : Item) (h : AHeap) : Ret cx 97 [.agg a.row, .rptr [v]] h (.bool (isOne ws a)) h := by
  have b := f98 hv hn a h
  rw [ret_iff, t97_eq, t97]
  simp only [amS, Nat.reduceAdd, Nat.reduceLeDiff, Nat.reduceEqDiff, ↓reduceIte, reduceCtorEq, fillAt, targetOf, itS, b.call]
theorem IsStrs.cells {v : AVal} {ws : List Bytes} (hv : IsStrs ws v) : v.cells = [v] := IsSl.cells hv
theorem f25 (hs : SAt h p l) (hn : l.length ≤ 100000) (n : Int) {v : AVal} {ws : List Bytes} (hv : IsStrs ws v) (hw : ws.length ≤ 100000) : Ret cx 25 [p, .int .i64 n, v] h (.bool (inSc (isOne ws) (ends n) l.reverse)) h := by
  have hfit : Asks (.func (.func 97) [] [.rptr [v]]) h (isOne ws) := ⟨97, _, rfl, fun a => f97 hv hw a h⟩
  rw [ret_iff, t25_eq, t25]
  simp only [amS, Nat.reduceAdd, Nat.reduceLeDiff, Nat.reduceEqDiff, ↓reduceIte, reduceCtorEq, fillAt, targetOf, itS, hv.cells, (f96 hs hn n hfit).call]
def isNode (node : Int) (a : Item) : Bool := decide (a.node = node)
theorem f100 (node : Int) (a : Item) (h : AHeap) : Ret cx 100 [.agg a.row, .rptr [.int .i64 node]] h (.bool (isNode node a)) h := by
  rw [ret_iff, t100_eq, t100, Item.row]; simp only [amS, Nat.reduceAdd, Nat.reduceLeDiff, Nat.reduceEqDiff, ↓reduceIte, reduceCtorEq, fillAt, targetOf, itS, isNode]
theorem f27 (hs : SAt h p l) (hn : l.length ≤ 100000) (n node : Int) : Ret cx 27 [p, .int .i64 n, .int .i64 node] h (.bool (inSc (isNode node) (ends n) l.reverse)) h := by
  have hfit : Asks (.func (.func 100) [] [.rptr [.int .i64 node]]) h (isNode node) := ⟨100, _, rfl, fun a => f100 node a h⟩
  rw [ret_iff, t27_eq, t27]
  simp only [amS, Nat.reduceAdd, Nat.reduceLeDiff, Nat.reduceEqDiff, ↓reduceIte, reduceCtorEq, fillAt, targetOf, itS, (f96 hs hn n hfit).call]
theorem f108 (node : Int) (a : Item) (h : AHeap) : Ret cx 108 [.agg a.row, .rptr [.int .i64 node]] h (.bool (isNode node a)) h := by
  rw [ret_iff, t108_eq, t108, Item.row]; simp only [amS, Nat.reduceAdd, Nat.reduceLeDiff, Nat.reduceEqDiff, ↓reduceIte, reduceCtorEq, fillAt, targetOf, itS, isNode]
theorem f40 (hs : SAt h p l) (hn : l.length ≤ 100000) (node : Int) : Ret cx 40 [p, .int .i64 node] h (.int .i64 (lastIdx (isNode node) l)) h := by
  have hfit : Asks (.func (.func 108) [] [.rptr [.int .i64 node]]) h (isNode node) := ⟨108, _, rfl, fun a => f108 node a h⟩
  rw [ret_iff, t40_eq, t40]
  simp only [amS, Nat.reduceAdd, Nat.reduceLeDiff, Nat.reduceEqDiff, ↓reduceIte, reduceCtorEq, fillAt, targetOf, itS, (f106 hs hn hfit).call]
theorem f107 (s : Bytes) (a : Item) (h : AHeap) : Ret cx 107 [.agg a.row, .rptr [.str s]] h (.bool (isOne [s] a)) h := by
  have b := f98 (ws := [s]) isStrs_of (show [s].length ≤ 100000 by simp) a h
  rw [ret_iff, t107_eq, t107]
  simp only [amS, Nat.reduceAdd, Nat.reduceLeDiff, Nat.reduceEqDiff, ↓reduceIte, reduceCtorEq, fillAt, targetOf, itS, mk_strs (ws := [s]) (args := [.str s]) rfl (by simp), b.call]
theorem f39 (hs : SAt h p l) (hn : l.length ≤ 100000) (s : Bytes) : Ret cx 39 [p, .str s] h (.int .i64 (lastIdx (isOne [s]) l)) h := by
  have hfit : Asks (.func (.func 107) [] [.rptr [.str s]]) h (isOne [s]) := ⟨107, _, rfl, fun a => f107 s a h⟩
  rw [ret_iff, t39_eq, t39]
  simp only [amS, Nat.reduceAdd, Nat.reduceLeDiff, Nat.reduceEqDiff, ↓reduceIte, reduceCtorEq, fillAt, targetOf, itS, (f106 hs hn hfit).call]
end
end Go.Am
