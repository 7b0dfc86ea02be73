/-
  The stack of open elements: how it is filled, and what the specification's reading functions return. No law is claimed here.
-/
import Derived.Test.YtejpjabbdkpmiaaDoorSStack
namespace Go.Am
open Go
set_option maxRecDepth 100000
set_option linter.unusedSimpArgs false
set_option linter.unusedVariables false

section
variable {h : AHeap} {p v : AVal} {l : List Item}

theorem pe_mkItem {n s : Int} {t : Bytes} {b : Bool} : peval (.mkagg [I 0, I 0, S [], ff] [(0, 1), (1, 1), (2, 1), (3, 1)]) [.int .i64 n, .int .i64 s, .str t, .bool b] = some (.agg (Item.row ⟨n, s, t, b⟩)) := by
  simp only [amS, Nat.reduceAdd, Nat.reduceLeDiff, Nat.reduceEqDiff, ↓reduceIte, reduceCtorEq, fillAt, targetOf]; rfl
theorem pe_mkItem0 : peval (.mkagg [I 0, I 0, S [], ff] []) [] = some (.agg Item.zero.row) := rfl
theorem pe_mksl4 {a : Item} : peval (.mksl 4) [.agg a.row] = some (.sl 4 [a.row]) := pe_mksl1 rfl (by decide)

theorem f119 (hv : IsItems l v) (a : Item) {n : Nat} (hn : n ≤ l.length) (hb : l.length ≤ 100000) : ∃ u, Ret cx 119 [v, .agg a.row, .int .i64 (n : Int)] h u h ∧ IsItems (l.take n ++ a :: l.drop n) u := by
  have hb' : (l.length + 1) * 40 ≤ maxBytes := by have : maxBytes = 140737488355328 := rfl; omega
  obtain ⟨u1, e1, h1⟩ := IsSl.slcHi hv (k := .i64) hn
  obtain ⟨u2, e2, h2⟩ := IsSl.appNil h1 (b := 40) (by rw [List.length_take]; have : maxBytes = 140737488355328 := rfl; omega)
  have e3 := IsSl.app1M (a := a) h2 (b := 40) (by rw [List.length_take]; have : maxBytes = 140737488355328 := rfl; omega)
  obtain ⟨u4, e4, h4⟩ := IsSl.slcLo hv (k := .i64) hn
  obtain ⟨u5, e5, h5⟩ := IsSl.appM (v := .sl 4 ((l.take n ++ [a]).map Item.row)) .mk h4 (b := 40) (by rw [List.length_append, List.length_take, List.length_drop, List.length_singleton]; have : maxBytes = 140737488355328 := rfl; omega)
  refine ⟨u5, ?_, by rw [List.append_assoc] at h5; exact h5⟩
  rw [ret_iff, t119_eq, t119]
  simp only [amS, Nat.reduceAdd, Nat.reduceLeDiff, Nat.reduceEqDiff, ↓reduceIte, reduceCtorEq, fillAt, targetOf, itS, e1, e2, pe_mksl4, e3, e4, e5]

/-- A stack's object. -/
def SObj (h : AHeap) (id : Nat) (l : List Item) : Prop := ∃ v, h[id]? = some (.cells [v]) ∧ IsItems l v
theorem SObj.at {id : Nat} (hs : SObj h id l) : SAt h (.ptr (some (id, 0))) l := let ⟨v, h1, h2⟩ := hs; .inr ⟨id, v, rfl, h1, h2⟩
theorem SObj.set {id : Nat} {v u : AVal} {l' : List Item} (hc : h[id]? = some (.cells [v])) (hu : IsItems l' u) : SObj (h.set id (.cells [u])) id l' := by
  have hlt : id < h.length := (List.getElem?_eq_some_iff.1 hc).1
  exact ⟨u, by simp [hlt], hu⟩
theorem hstore1 {id : Nat} {v u : AVal} (hc : h[id]? = some (.cells [v])) (hu : u.cells = [u]) : hstore h 1 (.ptr (some (id, 0))) u = some (h.set id (.cells [u])) := by
  simp [hstore, hc, hu]

theorem IsItems.cells (hv : IsItems l v) : v.cells = [v] := IsSl.cells hv
/-- Push. -/
theorem f92 {id : Nat} (hs : SObj h id l) (hb : l.length ≤ 100000) (a : Item) : ∃ u, Ret cx 92 [.ptr (some (id, 0)), .agg a.row] h (.tuple []) (h.set id (.cells [u])) ∧ IsItems (l ++ [a]) u := by
  obtain ⟨v, hc, hv⟩ := hs
  obtain ⟨u, hr, hu⟩ := f119 (h := h) hv a (n := l.length) (Nat.le_refl _) hb
  rw [List.take_length, List.drop_length] at hu
  refine ⟨u, ?_, hu⟩
  rw [ret_iff, t92_eq, t92]
  simp only [amS, Nat.reduceAdd, Nat.reduceLeDiff, Nat.reduceEqDiff, ↓reduceIte, reduceCtorEq, fillAt, targetOf, itS, beq_self_eq_true, bne_self_eq_false, Bool.bne_true, Bool.bne_false, Bool.not_false, hload_at hc, Nat.add_zero, IsSl.lenM hv, hr.call, hstore1 hc hu.cells]

/-- given. -/
theorem f24 (hv : IsItems l v) (hb : l.length ≤ 100000) : Ev cx 24 [v] h fun r h' => ∃ u, r = .ptr (some (h.length, 0)) ∧ h' = h ++ [.cells [u]] ∧ IsItems l u := by
  unfold Ev
  rw [t24_eq, t24]
  simp only [amS, Nat.reduceAdd, Nat.reduceLeDiff, Nat.reduceEqDiff, ↓reduceIte, reduceCtorEq, fillAt, targetOf, itS]
  refine W_loop_st (fun n : Nat => [.int .i64 (n : Int)]) (fun n h1 => n ≤ l.length ∧ ∃ u, h1 = h ++ [.cells [u]] ∧ IsItems (l.take n) u) (fun n => l.length - n) 0 rfl ⟨Nat.zero_le _, .slnil, rfl, .nil⟩ ?_
  rintro n h1 ⟨hn, u, rfl, hu⟩
  rcases Nat.lt_or_ge n l.length with hlt | hge
  · have i1 : (n : Int) < (l.length : Int) := by omega
    have hs : SObj (h ++ [.cells [u]]) h.length (l.take n) := ⟨u, by simp, hu⟩
    obtain ⟨u', hr, hu'⟩ := f92 hs (by rw [List.length_take]; omega) l[n]
    simp only [amS, Nat.reduceAdd, Nat.reduceLeDiff, Nat.reduceEqDiff, ↓reduceIte, reduceCtorEq, fillAt, targetOf, itS, IsSl.lenM hv, i1, not_true_eq_false, true_implies, false_implies, IsSl.eaddrM hv hlt, pe_mkItem, hr.call, pe_inc (show n < 9223372036854775807 by omega)]
    refine LoopPost.next (n + 1) rfl ⟨hlt, u', by simp, ?_⟩ (by omega)
    rw [List.take_succ_eq_append_getElem hlt]; exact hu'
  · have i1 : ¬ (n : Int) < (l.length : Int) := by omega
    rw [List.take_of_length_le hge] at hu
    simp only [amS, Nat.reduceAdd, Nat.reduceLeDiff, Nat.reduceEqDiff, ↓reduceIte, reduceCtorEq, fillAt, targetOf, itS, IsSl.lenM hv, i1, not_false_eq_true, true_implies, false_implies]
    exact ⟨_, rfl, u, rfl, rfl, hu⟩

/-- Furthest. -/
def special (a : Item) : Bool := isSpecial a.space a.name
def furthest (node : Int) (l : List Item) : Int := if lastIdx (isNode node) l < 0 then -1 else match (l.drop ((lastIdx (isNode node) l).toNat + 1)).findIdx? special with
  | some k => lastIdx (isNode node) l + 1 + k
  | none => -1
/-- The first index from n on that fits. -/
def firstFrom {α : Type} (q : α → Bool) (l : List α) (n : Nat) : Int := match (l.drop n).findIdx? q with
  | some k => (n : Int) + k
  | none => -1
theorem firstFrom_end {α : Type} {q : α → Bool} {l : List α} {n : Nat} (h : l.length ≤ n) : firstFrom q l n = -1 := by unfold firstFrom; rw [List.drop_of_length_le h]; rfl
theorem firstFrom_lt {α : Type} {q : α → Bool} {l : List α} {n : Nat} (h : n < l.length) : firstFrom q l n = if q l[n] then (n : Int) else firstFrom q l (n + 1) := by
  unfold firstFrom
  rw [List.drop_eq_getElem_cons h, List.findIdx?_cons]
  by_cases hq : q l[n] = true
  · simp only [hq, if_true]; omega
  · simp only [hq, Bool.false_eq_true, if_false]
    cases List.findIdx? q (l.drop (n + 1)) with
    | none => rfl
    | some k => simp only [Option.map_some]; omega
theorem furthest_eq {node : Int} : furthest node l = if lastIdx (isNode node) l < 0 then -1 else firstFrom special l ((lastIdx (isNode node) l).toNat + 1) := by
  unfold furthest firstFrom
  by_cases h : lastIdx (isNode node) l < 0
  · simp only [h, if_true]
  · simp only [h, if_false]
    cases (l.drop ((lastIdx (isNode node) l).toNat + 1)).findIdx? special with
    | none => rfl
    | some k => simp only; omega

theorem f51 (hs : SAt h p l) (hb : l.length ≤ 100000) (node : Int) : Ret cx 51 [p, .int .i64 node] h (.int .i64 (furthest node l)) h := by
  rw [ret_iff, t51_eq, t51]
  have hbd : -1 ≤ lastIdx (isNode node) l ∧ lastIdx (isNode node) l < l.length + 1 := by
    rcases lastIdx_spec (q := isNode node) (l := l) with ⟨h1, h2⟩ | ⟨n, hn, h1, h2, h3⟩ <;> rw [h1] <;> omega
  simp only [amS, Nat.reduceAdd, Nat.reduceLeDiff, Nat.reduceEqDiff, ↓reduceIte, reduceCtorEq, fillAt, targetOf, itS, (f40 hs hb node).call, pe_addI (show -9223372036854775808 ≤ lastIdx (isNode node) l + 1 by omega) (show lastIdx (isNode node) l + 1 < 9223372036854775808 by omega)]
  rw [furthest_eq]
  by_cases hneg : lastIdx (isNode node) l < 0
  · rw [if_pos hneg]
    refine W_loop_st (fun n : Nat => [.int .i64 0, .int .i64 (lastIdx (isNode node) l + 1)]) (fun n h1 => h1 = h) (fun n => n) 0 rfl rfl ?_
    rintro n h1 rfl
    have i1 : ¬ 0 ≤ lastIdx (isNode node) l := by omega
    simp only [amS, Nat.reduceAdd, Nat.reduceLeDiff, Nat.reduceEqDiff, ↓reduceIte, reduceCtorEq, fillAt, targetOf, itS, i1, not_false_eq_true, true_implies, false_implies]
  · rw [if_neg hneg]
    have i0 : 0 ≤ lastIdx (isNode node) l := by omega
    obtain ⟨m, hm⟩ := Int.eq_ofNat_of_zero_le i0
    refine W_loop_st (fun n : Nat => [.int .i64 0, .int .i64 (n : Int)]) (fun n h1 => firstFrom special l (m + 1) = firstFrom special l n ∧ h1 = h) (fun n => l.length - n) (m + 1) (by rw [hm]; rfl) ⟨rfl, rfl⟩ ?_
    rw [hm, Int.toNat_natCast]
    rintro n h1 ⟨ha, rfl⟩
    simp only [amS, Nat.reduceAdd, Nat.reduceLeDiff, Nat.reduceEqDiff, ↓reduceIte, reduceCtorEq, fillAt, targetOf, itS, show (0 : Int) ≤ (m : Int) by omega, not_true_eq_false, true_implies, false_implies, (f34 hs).call]
    rcases Nat.lt_or_ge n l.length with hlt | hge
    · have i1 : (n : Int) < (l.length : Int) := by omega
      rw [firstFrom_lt hlt] at ha
      rcases hs with ⟨rfl, rfl⟩ | ⟨id, v, rfl, hc, hv⟩
      · simp at hlt
      · simp only [amS, Nat.reduceAdd, Nat.reduceLeDiff, Nat.reduceEqDiff, ↓reduceIte, reduceCtorEq, fillAt, targetOf, itS, i1, not_true_eq_false, true_implies, false_implies, hload_at hc, Nat.add_zero, IsSl.eaddrM hv hlt, f42_iff, pe_inc (show n < 9223372036854775807 by omega)]
        rw [cndW_iff]
        refine ⟨fun he => ?_, fun he => ?_⟩
        · rw [ha, if_pos (by exact he)]
        · rw [if_neg (by simp [special, he])] at ha
          exact LoopPost.next (n + 1) rfl ⟨ha, rfl⟩ (by omega)
    · have i1 : ¬ (n : Int) < (l.length : Int) := by omega
      rw [firstFrom_end hge] at ha
      simp only [amS, Nat.reduceAdd, Nat.reduceLeDiff, Nat.reduceEqDiff, ↓reduceIte, reduceCtorEq, fillAt, targetOf, itS, i1, not_false_eq_true, true_implies, false_implies, ha]

/-! The specification. -/
theorem f37 (hv : IsItems l v) (i : Int) : Ret cx 37 [v, .int .i64 i] h (.agg (itemAt l i).row) h := by
  have hv : IsSl 4 (l.map Item.row) v := hv
  rw [ret_iff, t37_eq, t37]
  simp only [amS, Nat.reduceAdd, Nat.reduceLeDiff, Nat.reduceEqDiff, ↓reduceIte, reduceCtorEq, fillAt, targetOf, hv.lenM]
  refine ⟨fun hi => by rw [itemAt_out (.inl hi)]; simp [Item.row, Item.zero], fun hi => ⟨fun hl => by rw [itemAt_out (.inr hl)]; simp [Item.row, Item.zero], fun hl => ?_⟩⟩
  obtain ⟨n, rfl⟩ := Int.eq_ofNat_of_zero_le (show 0 ≤ i by omega)
  have hn : n < l.length := by omega
  simp only [amS, Nat.reduceAdd, Nat.reduceLeDiff, Nat.reduceEqDiff, ↓reduceIte, reduceCtorEq, fillAt, targetOf, itS, hv.eaddrM hn, itemAt_lt hn]
theorem f91 (hv : IsItems l v) (hb : l.length ≤ 100000) : Ret cx 91 [v] h (.agg (topOf l).row) h := by
  rw [ret_iff, t91_eq, t91]
  simp only [amS, Nat.reduceAdd, Nat.reduceLeDiff, Nat.reduceEqDiff, ↓reduceIte, reduceCtorEq, fillAt, targetOf, itS, IsSl.lenM hv, pe_subI (show -9223372036854775808 ≤ (l.length : Int) - 1 by omega) (show (l.length : Int) - 1 < 9223372036854775808 by omega), (f37 hv _).call, topOf]
theorem f35 (a : Item) {ws : List Bytes} (hv : IsStrs ws v) (hn : ws.length ≤ 100000) : Ret cx 35 [.agg a.row, v] h (.bool (isOne ws a)) h := by
  rw [ret_iff, t35_eq, t35]
  simp only [amS, Nat.reduceAdd, Nat.reduceLeDiff, Nat.reduceEqDiff, ↓reduceIte, reduceCtorEq, fillAt, targetOf, itS]
  refine ⟨fun h1 => by simp [isOne, h1], fun h1 => ?_⟩
  have h1 : a.space = 1 := by simpa using h1
  have hv : IsSl 1 (ws.map strRow) v := hv
  refine W_loop_st (fun n : Nat => [.bool false, .int .i64 (n : Int)]) (fun n h1 => n ≤ ws.length ∧ (a.name ∈ ws ↔ a.name ∈ ws.drop n) ∧ h1 = h) (fun n => ws.length - n) 0 rfl ⟨Nat.zero_le _, Iff.rfl, rfl⟩ ?_
  rintro n h2 ⟨hn', ha, rfl⟩
  rcases Nat.lt_or_ge n ws.length with hlt | hge
  · have i1 : (n : Int) < (ws.length : Int) := by omega
    rw [List.drop_eq_getElem_cons hlt, List.mem_cons] at ha
    simp only [amS, Nat.reduceAdd, Nat.reduceLeDiff, Nat.reduceEqDiff, ↓reduceIte, reduceCtorEq, fillAt, targetOf, itS, hv.lenM, i1, not_true_eq_false, true_implies, false_implies, hv.eaddrM hlt, strRow, pe_inc (show n < 9223372036854775807 by omega)]
    refine ⟨fun he => ?_, fun he => ?_⟩
    · have : a.name ∈ ws := ha.2 (.inl he.symm)
      simp [isOne, h1, this]
    · exact LoopPost.next (n + 1) rfl ⟨hlt, ha.trans ⟨fun h => h.resolve_left (fun h => he h.symm), .inr⟩, rfl⟩ (by omega)
  · have i1 : ¬ (n : Int) < (ws.length : Int) := by omega
    rw [List.drop_of_length_le hge] at ha
    simp only [amS, Nat.reduceAdd, Nat.reduceLeDiff, Nat.reduceEqDiff, ↓reduceIte, reduceCtorEq, fillAt, targetOf, itS, hv.lenM, i1, not_false_eq_true, true_implies, false_implies]
    have : a.name ∉ ws := fun h => by simpa using ha.1 h
    simp [isOne, this]
theorem f156 (n : Int) (a : Item) (hs : a.name.length < 9223372036854775807) : Ret cx 156 [.agg a.row, .int .i64 n] h (.bool (ends n a)) h := by
  rw [ret_iff, t156_eq, t156]
  simp only [amS, Nat.reduceAdd, Nat.reduceLeDiff, Nat.reduceEqDiff, ↓reduceIte, reduceCtorEq, fillAt, targetOf, itS, r_rTables hs, r_rSelects hs, r_rLists hs, r_rBounds hs, f43_iff hs, ends, isOne]
  by_cases h1 : a.space = 1
  · have e1 : ¬ a.space = 3 := by omega
    have e2 : ¬ a.space = 2 := by omega
    simp only [h1, decide_true, cndW_true, cndW_false, true_and, true_implies, false_implies, not_true_eq_false, Bool.not_true, forall_const]
    by_cases h4 : n = 4
    · simp [h4]
    · by_cases h5 : n = 5
      · simp [h5]
      · by_cases h2 : n = 2
        · simp [h2]
          by_cases hl : a.name ∈ rLists <;> simp [hl]
        · by_cases h3 : n = 3
          · simp [h3]
            by_cases hl : a.name = [98,117,116,116,111,110] <;> simp [hl]
          · simp [h4, h5, h2, h3]
  · simp only [h1, decide_false, cndW_true, cndW_false, false_and, true_implies, false_implies, not_false_eq_true, Bool.not_false]
    by_cases h4 : n = 4
    · simp [h4]
    · by_cases h5 : n = 5
      · simp [h5]
      · by_cases h3 : a.space = 3 ∨ a.space = 2
        · simp [h4, h5, h3]
        · have e1 : ¬ a.space = 3 := fun e => h3 (.inl e)
          have e2 : ¬ a.space = 2 := fun e => h3 (.inr e)
          simp [h4, h5, e1, e2, isSpecial, h1]
/-- In a scope, from the bottom. -/
def inScF {α : Type} (q e : α → Bool) : List α → Bool
  | [] => false
  | a :: r => (q a && !(r.any e)) || inScF q e r
theorem inSc_append {α : Type} {q e : α → Bool} {a : α} : ∀ {r : List α}, inSc q e (r ++ [a]) = ((q a && !(r.any e)) || inSc q e r)
  | [] => by by_cases h : q a = true <;> simp [inSc, h]
  | b :: r => by
    simp only [List.cons_append, inSc, inSc_append (r := r)]
    by_cases h1 : q b = true
    · simp [h1]
    · by_cases h2 : e b = true <;> simp [h1, h2]
theorem inScF_eq {α : Type} {q e : α → Bool} : ∀ {l : List α}, inScF q e l = inSc q e l.reverse
  | [] => rfl
  | a :: l => by rw [List.reverse_cons, inSc_append, inScF, inScF_eq]; simp
theorem nodeSc {α : Type} {q e : α → Bool} (l : List α) : (if lastIdx q l < 0 then false else !((l.drop ((lastIdx q l).toNat + 1)).any e)) = inSc q e l.reverse := by
  have key : ∀ r : List α, (if lastIdx q r.reverse < 0 then false else !((r.reverse.drop ((lastIdx q r.reverse).toNat + 1)).any e)) = inSc q e r := by
    intro r
    induction r with
    | nil => rfl
    | cons a r ih =>
      simp only [List.reverse_cons, inSc, lastIdx_snoc]
      by_cases hq : q a = true
      · simp only [hq, if_true]
        rw [if_neg (by omega), Int.toNat_natCast, List.drop_of_length_le (by simp)]
        rfl
      · simp only [hq, if_false, Bool.false_eq_true, ← ih]
        rcases lastIdx_spec (q := q) (l := r.reverse) with ⟨h1, h2⟩ | ⟨n, hn, h1, h2, h3⟩
        · simp [h1]
        · have i0 : ¬ (n : Int) < 0 := by omega
          rw [h1, if_neg i0, if_neg i0, Int.toNat_natCast, List.drop_append_of_le_length (by omega), List.any_append]
          cases he : e a <;> simp only [List.any_cons, List.any_nil, he, Bool.or_false, Bool.or_true, Bool.false_eq_true, if_false, if_true, Bool.not_true]
  have := key l.reverse
  rwa [List.reverse_reverse] at this

theorem f99 (hv : IsItems l v) (hb : l.length ≤ 100000) (hl : ∀ a ∈ l, a.name.length < 9223372036854775807) {i : Nat} (hi : i ≤ l.length) (n : Int) : Ret cx 99 [v, .int .i64 (i : Int), .int .i64 n] h (.bool (!((l.drop (i + 1)).any (ends n)))) h := by
  have hv : IsSl 4 (l.map Item.row) v := hv
  rw [ret_iff, t99_eq, t99]
  simp only [amS, Nat.reduceAdd, Nat.reduceLeDiff, Nat.reduceEqDiff, ↓reduceIte, reduceCtorEq, fillAt, targetOf, itS, pe_inc (show i < 9223372036854775807 by omega)]
  refine W_loop_st (fun m : Nat => [.bool false, .int .i64 (m : Int)]) (fun m h1 => (l.drop (i + 1)).any (ends n) = (l.drop m).any (ends n) ∧ h1 = h) (fun m => l.length - m) (i + 1) rfl ⟨rfl, rfl⟩ ?_
  rintro m h1 ⟨ha, rfl⟩
  rcases Nat.lt_or_ge m l.length with hlt | hge
  · have i1 : (m : Int) < (l.length : Int) := by omega
    rw [List.drop_eq_getElem_cons hlt, List.any_cons] at ha
    simp only [amS, Nat.reduceAdd, Nat.reduceLeDiff, Nat.reduceEqDiff, ↓reduceIte, reduceCtorEq, fillAt, targetOf, itS, hv.lenM, i1, not_true_eq_false, true_implies, false_implies, hv.eaddrM hlt, (f156 n l[m] (hl _ (List.getElem_mem hlt))).call, pe_inc (show m < 9223372036854775807 by omega)]
    rw [cndW_iff]
    refine ⟨fun he => by rw [ha, he]; rfl, fun he => ?_⟩
    rw [he, Bool.false_or] at ha
    exact LoopPost.next (m + 1) rfl ⟨ha, rfl⟩ (by omega)
  · have i1 : ¬ (m : Int) < (l.length : Int) := by omega
    rw [List.drop_of_length_le hge] at ha
    simp only [amS, Nat.reduceAdd, Nat.reduceLeDiff, Nat.reduceEqDiff, ↓reduceIte, reduceCtorEq, fillAt, targetOf, itS, hv.lenM, i1, not_false_eq_true, true_implies, false_implies, ha, List.any_nil, Bool.not_false]

theorem f26 (hv : IsItems l v) (hb : l.length ≤ 100000) (hl : ∀ a ∈ l, a.name.length < 9223372036854775807) (n : Int) {w : AVal} {ws : List Bytes} (hw : IsStrs ws w) (hn : ws.length ≤ 100000) : Ret cx 26 [v, .int .i64 n, w] h (.bool (inSc (isOne ws) (ends n) l.reverse)) h := by
  have hv' : IsSl 4 (l.map Item.row) v := hv
  rw [ret_iff, t26_eq, t26, ← inScF_eq]
  refine W_loop_st (fun m : Nat => [.bool false, .int .i64 (m : Int)]) (fun m h1 => m ≤ l.length ∧ inScF (isOne ws) (ends n) l = inScF (isOne ws) (ends n) (l.drop m) ∧ h1 = h) (fun m => l.length - m) 0 rfl ⟨Nat.zero_le _, rfl, rfl⟩ ?_
  rintro m h1 ⟨hm, ha, rfl⟩
  rcases Nat.lt_or_ge m l.length with hlt | hge
  · have i1 : (m : Int) < (l.length : Int) := by omega
    rw [List.drop_eq_getElem_cons hlt, inScF] at ha
    simp only [amS, Nat.reduceAdd, Nat.reduceLeDiff, Nat.reduceEqDiff, ↓reduceIte, reduceCtorEq, fillAt, targetOf, itS, hv'.lenM, i1, not_true_eq_false, true_implies, false_implies, hv'.eaddrM hlt, (f35 l[m] hw hn).call, (f99 hv hb hl (Nat.le_of_lt hlt) n).call, pe_inc (show m < 9223372036854775807 by omega)]
    rw [cndW_iff, cndW_iff]
    refine ⟨fun h1 => ⟨fun h2 => by rw [ha, h1, h2]; rfl, fun h2 => ?_⟩, fun h1 => ?_⟩
    · rw [h2, Bool.and_false, Bool.false_or] at ha
      exact LoopPost.next (m + 1) rfl ⟨hlt, ha, rfl⟩ (by omega)
    · rw [h1, Bool.false_and, Bool.false_or] at ha
      exact LoopPost.next (m + 1) rfl ⟨hlt, ha, rfl⟩ (by omega)
  · have i1 : ¬ (m : Int) < (l.length : Int) := by omega
    rw [List.drop_of_length_le hge, inScF] at ha
    simp only [amS, Nat.reduceAdd, Nat.reduceLeDiff, Nat.reduceEqDiff, ↓reduceIte, reduceCtorEq, fillAt, targetOf, itS, hv'.lenM, i1, not_false_eq_true, true_implies, false_implies, ha]

theorem f49 (hv : IsItems l v) (hb : l.length ≤ 100000) (node : Int) : Ret cx 49 [v, .int .i64 node] h (.int .i64 (lastIdx (isNode node) l)) h := by
  have hv : IsSl 4 (l.map Item.row) v := hv
  rw [ret_iff, t49_eq, t49]
  refine W_loop_st (fun n : Nat => [.int .i64 (lastIdx (isNode node) (l.take n)), .int .i64 (n : Int)]) (fun n h1 => n ≤ l.length ∧ h1 = h) (fun n => l.length - n) 0 rfl ⟨Nat.zero_le _, rfl⟩ ?_
  rintro n h1 ⟨hn, rfl⟩
  rcases Nat.lt_or_ge n l.length with hlt | hge
  · have i1 : (n : Int) < (l.length : Int) := by omega
    have e := lastIdx_take (q := isNode node) hlt
    simp only [amS, Nat.reduceAdd, Nat.reduceLeDiff, Nat.reduceEqDiff, ↓reduceIte, reduceCtorEq, fillAt, targetOf, itS, hv.lenM, i1, not_true_eq_false, true_implies, false_implies, hv.eaddrM hlt, pe_inc (show n < 9223372036854775807 by omega)]
    refine ⟨fun he => ?_, fun he => ?_⟩
    · rw [if_pos (by simpa [isNode] using he)] at e
      exact LoopPost.next (n + 1) (by rw [e]) ⟨hlt, rfl⟩ (by omega)
    · rw [if_neg (by simpa [isNode] using he)] at e
      exact LoopPost.next (n + 1) (by rw [e]) ⟨hlt, rfl⟩ (by omega)
  · have i1 : ¬ (n : Int) < (l.length : Int) := by omega
    simp only [amS, Nat.reduceAdd, Nat.reduceLeDiff, Nat.reduceEqDiff, ↓reduceIte, reduceCtorEq, fillAt, targetOf, itS, hv.lenM, i1, not_false_eq_true, true_implies, false_implies, List.take_of_length_le hge]
theorem f50 (hv : IsItems l v) (hb : l.length ≤ 100000) (s : Bytes) : Ret cx 50 [v, .str s] h (.int .i64 (lastIdx (isOne [s]) l)) h := by
  have hv : IsSl 4 (l.map Item.row) v := hv
  have b := fun a => f35 (h := h) a (ws := [s]) isStrs_of (show [s].length ≤ 100000 by simp)
  rw [ret_iff, t50_eq, t50]
  refine W_loop_st (fun n : Nat => [.int .i64 (lastIdx (isOne [s]) (l.take n)), .int .i64 (n : Int)]) (fun n h1 => n ≤ l.length ∧ h1 = h) (fun n => l.length - n) 0 rfl ⟨Nat.zero_le _, rfl⟩ ?_
  rintro n h1 ⟨hn, rfl⟩
  rcases Nat.lt_or_ge n l.length with hlt | hge
  · have i1 : (n : Int) < (l.length : Int) := by omega
    have e := lastIdx_take (q := isOne [s]) hlt
    simp only [amS, Nat.reduceAdd, Nat.reduceLeDiff, Nat.reduceEqDiff, ↓reduceIte, reduceCtorEq, fillAt, targetOf, itS, hv.lenM, i1, not_true_eq_false, true_implies, false_implies, hv.eaddrM hlt, pe_inc (show n < 9223372036854775807 by omega), mk_strs (ws := [s]) (args := [.str s]) rfl (by simp), (b l[n]).call]
    rw [cndW_iff]
    refine ⟨fun he => ?_, fun he => ?_⟩
    · rw [if_pos he] at e
      exact LoopPost.next (n + 1) (by rw [e]) ⟨hlt, rfl⟩ (by omega)
    · rw [if_neg (by simpa using he)] at e
      exact LoopPost.next (n + 1) (by rw [e]) ⟨hlt, rfl⟩ (by omega)
  · have i1 : ¬ (n : Int) < (l.length : Int) := by omega
    simp only [amS, Nat.reduceAdd, Nat.reduceLeDiff, Nat.reduceEqDiff, ↓reduceIte, reduceCtorEq, fillAt, targetOf, itS, hv.lenM, i1, not_false_eq_true, true_implies, false_implies, List.take_of_length_le hge]
theorem f28 (hv : IsItems l v) (hb : l.length ≤ 100000) (hl : ∀ a ∈ l, a.name.length < 9223372036854775807) (n node : Int) : Ret cx 28 [v, .int .i64 n, .int .i64 node] h (.bool (inSc (isNode node) (ends n) l.reverse)) h := by
  rw [ret_iff, t28_eq, t28, ← nodeSc]
  simp only [amS, Nat.reduceAdd, Nat.reduceLeDiff, Nat.reduceEqDiff, ↓reduceIte, reduceCtorEq, fillAt, targetOf, itS, (f49 hv hb node).call]
  rcases lastIdx_spec (q := isNode node) (l := l) with ⟨h1, h2⟩ | ⟨k, hk, h1, h2, h3⟩
  · simp [h1]
  · rw [h1]
    simp only [amS, Nat.reduceAdd, Nat.reduceLeDiff, Nat.reduceEqDiff, ↓reduceIte, reduceCtorEq, fillAt, targetOf, itS, show (0 : Int) ≤ (k : Int) by omega, show ¬ (k : Int) < 0 by omega, not_true_eq_false, true_implies, false_implies, (f99 hv hb hl (Nat.le_of_lt hk) n).call, Int.toNat_natCast]
theorem f52 (hv : IsItems l v) (hb : l.length ≤ 100000) (hl : ∀ a ∈ l, a.name.length < 9223372036854775807) (node : Int) : Ret cx 52 [v, .int .i64 node] h (.int .i64 (furthest node l)) h := by
  have hv' : IsSl 4 (l.map Item.row) v := hv
  rw [ret_iff, t52_eq, t52, furthest_eq]
  simp only [amS, Nat.reduceAdd, Nat.reduceLeDiff, Nat.reduceEqDiff, ↓reduceIte, reduceCtorEq, fillAt, targetOf, itS, (f49 hv hb node).call]
  rcases lastIdx_spec (q := isNode node) (l := l) with ⟨h1, h2⟩ | ⟨k, hk, h1, h2, h3⟩
  · simp [h1]
  · rw [h1]
    simp only [amS, Nat.reduceAdd, Nat.reduceLeDiff, Nat.reduceEqDiff, ↓reduceIte, reduceCtorEq, fillAt, targetOf, itS, show ¬ (k : Int) < 0 by omega, not_false_eq_true, true_implies, false_implies, Int.toNat_natCast, pe_inc (show k < 9223372036854775807 by omega)]
    refine W_loop_st (fun n : Nat => [.int .i64 0, .int .i64 (n : Int)]) (fun n h1 => firstFrom special l (k + 1) = firstFrom special l n ∧ h1 = h) (fun n => l.length - n) (k + 1) rfl ⟨rfl, rfl⟩ ?_
    rintro n h1 ⟨ha, rfl⟩
    rcases Nat.lt_or_ge n l.length with hlt | hge
    · have i1 : (n : Int) < (l.length : Int) := by omega
      rw [firstFrom_lt hlt] at ha
      simp only [amS, Nat.reduceAdd, Nat.reduceLeDiff, Nat.reduceEqDiff, ↓reduceIte, reduceCtorEq, fillAt, targetOf, itS, hv'.lenM, i1, not_true_eq_false, true_implies, false_implies, hv'.eaddrM hlt, f43_iff (hl _ (List.getElem_mem hlt)), pe_inc (show n < 9223372036854775807 by omega)]
      rw [cndW_iff]
      refine ⟨fun he => by rw [ha, if_pos (by exact he)], fun he => ?_⟩
      rw [if_neg (by simp [special, he])] at ha
      exact LoopPost.next (n + 1) rfl ⟨ha, rfl⟩ (by omega)
    · have i1 : ¬ (n : Int) < (l.length : Int) := by omega
      rw [firstFrom_end hge] at ha
      simp only [amS, Nat.reduceAdd, Nat.reduceLeDiff, Nat.reduceEqDiff, ↓reduceIte, reduceCtorEq, fillAt, targetOf, itS, hv'.lenM, i1, not_false_eq_true, true_implies, false_implies, ha]
theorem f32 (a : Item) : Ret cx 32 [.agg a.row] h (.agg a.row) h := by
  rw [ret_iff, t32_eq, t32]
  simp only [amS, Nat.reduceAdd, Nat.reduceLeDiff, Nat.reduceEqDiff, ↓reduceIte, reduceCtorEq, fillAt, targetOf, itS]
end
end Go.Am
