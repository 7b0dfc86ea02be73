/-
  BuilderNil as the abstract machine runs it: it returns true. No law is claimed here.
-/
import Derived.Test.YtpikmmnpebamnaaGreatDoorBData
import Derived.Test.YtpikmmnpebamnaaGreatDoorKnown
namespace Go.Am
open Go
set_option maxRecDepth 100000
set_option linter.unusedSimpArgs false
set_option linter.unusedVariables false

section
variable {h : AHeap}
abbrev zB : List AVal := [.ptr none, .int .i64 0, .slnil, .slnil, .int .i64 0, .int .i64 0, .slnil, .int .i64 0, .int .i64 0, .bool false, .int .i64 0, .int .i64 0, .str [], .bool false, .bool false, .bool false, .str [], .bool false, .int .i64 0, .bool false]
abbrev zItem : List AVal := [.int .i64 0, .int .i64 0, .str [], .bool false]
abbrev zSnap : List AVal := [.int .i64 0, .int .i64 0, .slnil, .slnil, .slnil, .int .i64 0, .int .i64 0, .bool false, .bool false, .str [], .bool false, .int .i64 0, .bool false]

/-- No builder, or one that nobody has set up. -/
def Gone (h : AHeap) (p : AVal) : Prop := p = .ptr none ∨ ∃ id, p = .ptr (some (id, 0)) ∧ h[id]? = some (.cells zB)

theorem Gone.cells {p : AVal} (g : Gone h p) : p.cells = [p] := by rcases g with rfl | ⟨id, rfl, _⟩ <;> rfl

theorem hload_at' {id off : Nat} {cs : List AVal} (hc : h[id]? = some (.cells cs)) {n : Option Nat} : hload h n (.ptr (some (id, off))) = partOf cs off n := by simp only [hload, hc]

theorem g51 {p : AVal} (g : Gone h p) : Ret cx 51 [p] h (.bool false) h := by
  rw [ret_iff, t51_eq, t51]
  rcases g with rfl | ⟨id, rfl, hc⟩
  · simp only [amS, Nat.reduceAdd, Nat.reduceLeDiff, Nat.reduceEqDiff, ↓reduceIte, reduceCtorEq, fillAt, targetOf, bne_self_eq_false, beq_self_eq_true, Bool.bne_true, Bool.bne_false, Bool.not_true, Bool.not_false, not_true_eq_false, not_false_eq_true, true_implies, false_implies]
  · have hl : hload h none (.ptr (some (id, 0))) = some (.ptr none) := by rw [hload_at' hc]; rfl
    simp only [amS, Nat.reduceAdd, Nat.reduceLeDiff, Nat.reduceEqDiff, ↓reduceIte, reduceCtorEq, fillAt, targetOf, bne_self_eq_false, beq_self_eq_true, Bool.bne_true, Bool.bne_false, Bool.not_true, Bool.not_false, not_true_eq_false, not_false_eq_true, true_implies, false_implies, hl]

theorem gfrz {p : AVal} (g : Gone h p) : hfrzAt h 3 p = some h := by
  rcases g with rfl | ⟨id, rfl, hc⟩
  · rfl
  · have hid : id < h.length := (List.getElem?_eq_some_iff.1 hc).1
    have e : h.set id (.cells zB) = h := by
      have := (List.getElem?_eq_some_iff.1 hc).2
      rw [← this]; exact List.set_getElem_self hid
    simp only [hfrzAt, hc]
    show (Option.bind (hfrz h .slnil) _) = _
    simp only [hfrz, Option.bind_some, hc]
    exact congrArg some e

theorem g28 {p : AVal} (g : Gone h p) : Ret cx 28 [p] h (.agg zItem) h := by
  rw [ret_iff, t28_eq, t28]
  simp only [amS, Nat.reduceAdd, Nat.reduceLeDiff, Nat.reduceEqDiff, ↓reduceIte, reduceCtorEq, fillAt, targetOf, bne_self_eq_false, beq_self_eq_true, Bool.bne_true, Bool.bne_false, Bool.not_true, Bool.not_false, not_true_eq_false, not_false_eq_true, true_implies, false_implies, (g51 g).call]
theorem g29 {p : AVal} (g : Gone h p) : Ret cx 29 [p] h (.agg zItem) h := by
  rw [ret_iff, t29_eq, t29]
  simp only [amS, Nat.reduceAdd, Nat.reduceLeDiff, Nat.reduceEqDiff, ↓reduceIte, reduceCtorEq, fillAt, targetOf, bne_self_eq_false, beq_self_eq_true, Bool.bne_true, Bool.bne_false, Bool.not_true, Bool.not_false, not_true_eq_false, not_false_eq_true, true_implies, false_implies, (g51 g).call, (g28 g).call]
theorem g27 {p : AVal} (g : Gone h p) (n : Int) : Ret cx 27 [p, .int .i64 n] h (.tuple [.int .i64 0, .int .i64 0]) h := by
  rw [ret_iff, t27_eq, t27]
  simp only [amS, Nat.reduceAdd, Nat.reduceLeDiff, Nat.reduceEqDiff, ↓reduceIte, reduceCtorEq, fillAt, targetOf, bne_self_eq_false, beq_self_eq_true, Bool.bne_true, Bool.bne_false, Bool.not_true, Bool.not_false, not_true_eq_false, not_false_eq_true, true_implies, false_implies, (g51 g).call]
theorem g17 {p : AVal} (g : Gone h p) : Ret cx 17 [p] h (.agg zSnap) h := by
  rw [ret_iff, t17_eq, t17]
  simp only [amS, Nat.reduceAdd, Nat.reduceLeDiff, Nat.reduceEqDiff, ↓reduceIte, reduceCtorEq, fillAt, targetOf, bne_self_eq_false, beq_self_eq_true, Bool.bne_true, Bool.bne_false, Bool.not_true, Bool.not_false, not_true_eq_false, not_false_eq_true, true_implies, false_implies, (g51 g).call]
theorem g55 {p : AVal} (g : Gone h p) {v : AVal} (hv : v.cells.length = 12) (n : AVal) : Ret cx 55 [p, v, n] h (.int .i64 0) h := by
  rw [ret_iff, t55_eq, t55]
  simp only [amS, Nat.reduceAdd, Nat.reduceLeDiff, Nat.reduceEqDiff, ↓reduceIte, reduceCtorEq, fillAt, targetOf, bne_self_eq_false, beq_self_eq_true, Bool.bne_true, Bool.bne_false, Bool.not_true, Bool.not_false, not_true_eq_false, not_false_eq_true, true_implies, false_implies, hv, (g51 g).call]
theorem g21 {p : AVal} (g : Gone h p) (l : List AVal) (hv : l.length = 12) : Ret cx 21 [p, .agg l] h (.int .i64 0) h := by
  rw [ret_iff, t21_eq, t21]
  have hc : (AVal.agg l).cells.length = 12 := hv
  simp only [amS, Nat.reduceAdd, Nat.reduceLeDiff, Nat.reduceEqDiff, ↓reduceIte, reduceCtorEq, fillAt, targetOf, bne_self_eq_false, beq_self_eq_true, Bool.bne_true, Bool.bne_false, Bool.not_true, Bool.not_false, not_true_eq_false, not_false_eq_true, true_implies, false_implies, hv]
  rw [(g55 g rfl _).call]
  simp only [amS, Nat.reduceAdd, Nat.reduceLeDiff, Nat.reduceEqDiff, ↓reduceIte, reduceCtorEq, fillAt, targetOf, bne_self_eq_false, beq_self_eq_true, Bool.bne_true, Bool.bne_false, Bool.not_true, Bool.not_false, not_true_eq_false, not_false_eq_true, true_implies, false_implies]
theorem g31 {p : AVal} (g : Gone h p) (l : List AVal) (hv : l.length = 12) : Ret cx 31 [p, .agg l] h (.int .i64 0) h := by
  rw [ret_iff, t31_eq, t31]
  simp only [amS, Nat.reduceAdd, Nat.reduceLeDiff, Nat.reduceEqDiff, ↓reduceIte, reduceCtorEq, fillAt, targetOf, bne_self_eq_false, beq_self_eq_true, Bool.bne_true, Bool.bne_false, Bool.not_true, Bool.not_false, not_true_eq_false, not_false_eq_true, true_implies, false_implies, hv]
  rw [(g21 g _ rfl).call]
  simp only [amS, Nat.reduceAdd, Nat.reduceLeDiff, Nat.reduceEqDiff, ↓reduceIte, reduceCtorEq, fillAt, targetOf, bne_self_eq_false, beq_self_eq_true, Bool.bne_true, Bool.bne_false, Bool.not_true, Bool.not_false, not_true_eq_false, not_false_eq_true, true_implies, false_implies, ne_eq, eq_self]
theorem g32 {p : AVal} (g : Gone h p) (n : AVal) : Ret cx 32 [p, n] h (.tuple []) h := by
  rw [ret_iff, t32_eq, t32]
  simp only [amS, Nat.reduceAdd, Nat.reduceLeDiff, Nat.reduceEqDiff, ↓reduceIte, reduceCtorEq, fillAt, targetOf, bne_self_eq_false, beq_self_eq_true, Bool.bne_true, Bool.bne_false, Bool.not_true, Bool.not_false, not_true_eq_false, not_false_eq_true, true_implies, false_implies, (g51 g).call]
theorem g66 {p : AVal} (g : Gone h p) (n m : AVal) : Ret cx 66 [p, n, m] h (.tuple []) h := by
  rw [ret_iff, t66_eq, t66]
  simp only [amS, Nat.reduceAdd, Nat.reduceLeDiff, Nat.reduceEqDiff, ↓reduceIte, reduceCtorEq, fillAt, targetOf, bne_self_eq_false, beq_self_eq_true, Bool.bne_true, Bool.bne_false, Bool.not_true, Bool.not_false, not_true_eq_false, not_false_eq_true, true_implies, false_implies, (g51 g).call]
theorem g67 {p : AVal} (g : Gone h p) (l : List AVal) (hv : l.length = 12) (n : AVal) : Ret cx 67 [p, .agg l, n] h (.tuple []) h := by
  rw [ret_iff, t67_eq, t67]
  simp only [amS, Nat.reduceAdd, Nat.reduceLeDiff, Nat.reduceEqDiff, ↓reduceIte, reduceCtorEq, fillAt, targetOf, bne_self_eq_false, beq_self_eq_true, Bool.bne_true, Bool.bne_false, Bool.not_true, Bool.not_false, not_true_eq_false, not_false_eq_true, true_implies, false_implies, hv, (g51 g).call]
theorem g68 {p : AVal} (g : Gone h p) : Ret cx 68 [p] h (.tuple []) h := by
  rw [ret_iff, t68_eq, t68]
  simp only [amS, Nat.reduceAdd, Nat.reduceLeDiff, Nat.reduceEqDiff, ↓reduceIte, reduceCtorEq, fillAt, targetOf, bne_self_eq_false, beq_self_eq_true, Bool.bne_true, Bool.bne_false, Bool.not_true, Bool.not_false, not_true_eq_false, not_false_eq_true, true_implies, false_implies, (g51 g).call]
theorem g69 {p : AVal} (g : Gone h p) : Ret cx 69 [p] h (.tuple []) h := by
  rw [ret_iff, t69_eq, t69]
  simp only [amS, Nat.reduceAdd, Nat.reduceLeDiff, Nat.reduceEqDiff, ↓reduceIte, reduceCtorEq, fillAt, targetOf, bne_self_eq_false, beq_self_eq_true, Bool.bne_true, Bool.bne_false, Bool.not_true, Bool.not_false, not_true_eq_false, not_false_eq_true, true_implies, false_implies, (g51 g).call, gfrz g]
theorem g70 {p : AVal} (g : Gone h p) (n : AVal) : Ret cx 70 [p, n] h (.tuple []) h := by
  rw [ret_iff, t70_eq, t70]
  simp only [amS, Nat.reduceAdd, Nat.reduceLeDiff, Nat.reduceEqDiff, ↓reduceIte, reduceCtorEq, fillAt, targetOf, bne_self_eq_false, beq_self_eq_true, Bool.bne_true, Bool.bne_false, Bool.not_true, Bool.not_false, not_true_eq_false, not_false_eq_true, true_implies, false_implies, (g51 g).call]
theorem g33 {p : AVal} (g : Gone h p) (n : AVal) : Ret cx 33 [p, n] h (.tuple []) h := by
  rw [ret_iff, t33_eq, t33]
  simp only [amS, Nat.reduceAdd, Nat.reduceLeDiff, Nat.reduceEqDiff, ↓reduceIte, reduceCtorEq, fillAt, targetOf, bne_self_eq_false, beq_self_eq_true, Bool.bne_true, Bool.bne_false, Bool.not_true, Bool.not_false, not_true_eq_false, not_false_eq_true, true_implies, false_implies, (g51 g).call, gfrz g]
theorem g50 {p : AVal} (g : Gone h p) : Ret cx 50 [p] h (.tuple []) h := by
  rw [ret_iff, t50_eq, t50]
  simp only [amS, Nat.reduceAdd, Nat.reduceLeDiff, Nat.reduceEqDiff, ↓reduceIte, reduceCtorEq, fillAt, targetOf, bne_self_eq_false, beq_self_eq_true, Bool.bne_true, Bool.bne_false, Bool.not_true, Bool.not_false, not_true_eq_false, not_false_eq_true, true_implies, false_implies, (g51 g).call]
theorem g23 {p : AVal} (g : Gone h p) (l : List AVal) (hv : l.length = 12) (n : AVal) : Ret cx 23 [p, .agg l, n] h (.tuple []) h := by
  rw [ret_iff, t23_eq, t23]
  simp only [amS, Nat.reduceAdd, Nat.reduceLeDiff, Nat.reduceEqDiff, ↓reduceIte, reduceCtorEq, fillAt, targetOf, bne_self_eq_false, beq_self_eq_true, Bool.bne_true, Bool.bne_false, Bool.not_true, Bool.not_false, not_true_eq_false, not_false_eq_true, true_implies, false_implies, hv, (g51 g).call]
theorem g71 {p : AVal} (g : Gone h p) : Ret cx 71 [p] h (.tuple []) h := by
  rw [ret_iff, t71_eq, t71]
  simp only [amS, Nat.reduceAdd, Nat.reduceLeDiff, Nat.reduceEqDiff, ↓reduceIte, reduceCtorEq, fillAt, targetOf, bne_self_eq_false, beq_self_eq_true, Bool.bne_true, Bool.bne_false, Bool.not_true, Bool.not_false, not_true_eq_false, not_false_eq_true, true_implies, false_implies, (g51 g).call]
theorem g72 {p : AVal} (g : Gone h p) : Ret cx 72 [p] h (.tuple []) h := by
  rw [ret_iff, t72_eq, t72]
  simp only [amS, Nat.reduceAdd, Nat.reduceLeDiff, Nat.reduceEqDiff, ↓reduceIte, reduceCtorEq, fillAt, targetOf, bne_self_eq_false, beq_self_eq_true, Bool.bne_true, Bool.bne_false, Bool.not_true, Bool.not_false, not_true_eq_false, not_false_eq_true, true_implies, false_implies, (g51 g).call]
theorem g45 {p : AVal} (g : Gone h p) (l : List AVal) (hv : l.length = 12) (n m : AVal) : Ret cx 45 [p, .agg l, n, m] h (.agg zItem) h := by
  rw [ret_iff, t45_eq, t45]
  simp only [amS, Nat.reduceAdd, Nat.reduceLeDiff, Nat.reduceEqDiff, ↓reduceIte, reduceCtorEq, fillAt, targetOf, bne_self_eq_false, beq_self_eq_true, Bool.bne_true, Bool.bne_false, Bool.not_true, Bool.not_false, not_true_eq_false, not_false_eq_true, true_implies, false_implies, hv, (g51 g).call]

theorem pe_len0 : peval (.len false) [.slnil] = some (.int .i64 0) := rfl
theorem s35 : Ret cx 35 [.slnil, .slnil] h (.bool true) h := by
  rw [ret_iff, t35_eq, t35]
  simp only [amS, Nat.reduceAdd, Nat.reduceLeDiff, Nat.reduceEqDiff, ↓reduceIte, reduceCtorEq, fillAt, targetOf, bne_self_eq_false, beq_self_eq_true, Bool.bne_true, Bool.bne_false, Bool.not_true, Bool.not_false, not_true_eq_false, not_false_eq_true, true_implies, false_implies, pe_len0, ne_eq, eq_self]
  refine W_loop_st (fun _ : Unit => [.bool false, .int .i64 0]) (fun _ h1 => h1 = h) (fun _ => 0) () rfl rfl ?_
  rintro _ h1 rfl
  simp only [amS, Nat.reduceAdd, Nat.reduceLeDiff, Nat.reduceEqDiff, ↓reduceIte, reduceCtorEq, fillAt, targetOf, bne_self_eq_false, beq_self_eq_true, Bool.bne_true, Bool.bne_false, Bool.not_true, Bool.not_false, not_true_eq_false, not_false_eq_true, true_implies, false_implies, pe_len0, show ¬ (0 : Int) < 0 by decide]
theorem s54 : Ret cx 54 [.slnil, .slnil] h (.bool true) h := by
  rw [ret_iff, t54_eq, t54]
  simp only [amS, Nat.reduceAdd, Nat.reduceLeDiff, Nat.reduceEqDiff, ↓reduceIte, reduceCtorEq, fillAt, targetOf, bne_self_eq_false, beq_self_eq_true, Bool.bne_true, Bool.bne_false, Bool.not_true, Bool.not_false, not_true_eq_false, not_false_eq_true, true_implies, false_implies, pe_len0, ne_eq, eq_self]
  refine W_loop_st (fun _ : Unit => [.bool false, .int .i64 0]) (fun _ h1 => h1 = h) (fun _ => 0) () rfl rfl ?_
  rintro _ h1 rfl
  simp only [amS, Nat.reduceAdd, Nat.reduceLeDiff, Nat.reduceEqDiff, ↓reduceIte, reduceCtorEq, fillAt, targetOf, bne_self_eq_false, beq_self_eq_true, Bool.bne_true, Bool.bne_false, Bool.not_true, Bool.not_false, not_true_eq_false, not_false_eq_true, true_implies, false_implies, pe_len0, show ¬ (0 : Int) < 0 by decide]
theorem s18 : Ret cx 18 [.agg zSnap, .agg zSnap] h (.bool true) h := by
  rw [ret_iff, t18_eq, t18]
  simp only [amS, Nat.reduceAdd, Nat.reduceLeDiff, Nat.reduceEqDiff, ↓reduceIte, reduceCtorEq, fillAt, targetOf, bne_self_eq_false, beq_self_eq_true, Bool.bne_true, Bool.bne_false, Bool.not_true, Bool.not_false, not_true_eq_false, not_false_eq_true, true_implies, false_implies, pe_len0, ne_eq, eq_self, s35.call, s54.call]
  refine W_loop_st (fun _ : Unit => [.bool false, .int .i64 0]) (fun _ h1 => h1 = h) (fun _ => 0) () rfl rfl ?_
  rintro _ h1 rfl
  simp only [amS, Nat.reduceAdd, Nat.reduceLeDiff, Nat.reduceEqDiff, ↓reduceIte, reduceCtorEq, fillAt, targetOf, bne_self_eq_false, beq_self_eq_true, Bool.bne_true, Bool.bne_false, Bool.not_true, Bool.not_false, not_true_eq_false, not_false_eq_true, true_implies, false_implies, pe_len0, show ¬ (0 : Int) < 0 by decide, decide_true]

/-- 65: a token. -/
def tokRow (x : BOp) (u : AVal) : List AVal := [.int .i64 2, .str x.name, .bool false, .str [], .bool false, .str [], .bool false, .bool false, u, .bool false, .str [], .int .i32 0]
theorem f65 (x : BOp) {l : List Attr} (hx : IsAttrs l x.attrs) (hl : l.length ≤ 20) : ∃ u, Ret cx 65 [.agg x.row] h (.agg (tokRow x u)) h := by
  obtain ⟨u, e, hu⟩ := IsSl.app (z := 3) (b := 40) IsSl.nil hx (by rw [List.length_map]; show (0 + l.length) * 40 ≤ maxBytes; have : maxBytes = 140737488355328 := rfl; omega)
  refine ⟨u, ?_⟩
  rw [ret_iff, t65_eq, t65]
  have hc : u.cells = [u] := hu.cells
  simp only [amS, Nat.reduceAdd, Nat.reduceLeDiff, Nat.reduceEqDiff, ↓reduceIte, reduceCtorEq, fillAt, targetOf, bne_self_eq_false, beq_self_eq_true, Bool.bne_true, Bool.bne_false, Bool.not_true, Bool.not_false, not_true_eq_false, not_false_eq_true, true_implies, false_implies, BOp.row, e, hc, Nat.zero_lt_one, tokRow, Option.map_some]

/-- 26: few and short. -/
theorem f26 (x : BOp) {l : List Attr} (hx : IsAttrs l x.attrs) : ∃ b : Bool, (b = true → l.length ≤ 20) ∧ Ret cx 26 [.sl 9 [x.row], .int .i64 1] h (.bool b) h := by
  refine ⟨decide (x.name.length ≤ 60 ∧ x.data.length ≤ 200 ∧ attrsOk l), fun e => (of_decide_eq_true e).2.2.1, ?_⟩
  rw [ret_iff, t26_eq, t26]
  have hv : IsSl 9 [x.row] (.sl 9 [x.row]) := .mk
  refine W_loop_st (fun n : Nat => [.bool false, .int .i64 (n : Int)]) (fun n h1 => n ≤ 1 ∧ (n = 1 → x.name.length ≤ 60 ∧ x.data.length ≤ 200 ∧ attrsOk l) ∧ h1 = h) (fun n => 1 - n) 0 rfl ⟨Nat.zero_le _, fun e => by omega, rfl⟩ ?_
  rintro n h1 ⟨hn, hok, rfl⟩
  rcases Nat.lt_or_ge n 1 with hlt | hge
  · obtain rfl : n = 0 := by omega
    have e1 : ([x.row] : List (List AVal))[0] = x.row := rfl
    have i0 : ((0 : Nat) : Int) < ((1 : Nat) : Int) := by decide
    have i1 : ((0 : Nat) : Int) ≤ 1 := by decide
    simp only [amS, Nat.reduceAdd, Nat.reduceLeDiff, Nat.reduceEqDiff, ↓reduceIte, reduceCtorEq, fillAt, targetOf, bne_self_eq_false, beq_self_eq_true, Bool.bne_true, Bool.bne_false, Bool.not_true, Bool.not_false, not_true_eq_false, not_false_eq_true, true_implies, false_implies, hv.len, List.length_cons, List.length_nil, i0, i1, hv.eaddr (show 0 < [x.row].length from Nat.zero_lt_one), e1]
    simp only [amS, Nat.reduceAdd, Nat.reduceLeDiff, Nat.reduceEqDiff, ↓reduceIte, reduceCtorEq, fillAt, targetOf, bne_self_eq_false, beq_self_eq_true, Bool.bne_true, Bool.bne_false, Bool.not_true, Bool.not_false, not_true_eq_false, not_false_eq_true, true_implies, false_implies, BOp.row, (f20' hx _).call, pe_inc (show 0 < 9223372036854775807 by omega)]
    refine ⟨fun h1 => ?_, fun h1 => ⟨fun h2 => ?_, fun h2 => ?_⟩⟩
    · rw [decide_eq_false (fun hh => by omega)]
    · rw [decide_eq_false (fun hh => by omega)]
    · by_cases ha : attrsOk l
      · rw [decide_eq_true ha]
        simp only [amS, Nat.reduceAdd, Nat.reduceLeDiff, Nat.reduceEqDiff, ↓reduceIte, reduceCtorEq, fillAt, targetOf, bne_self_eq_false, beq_self_eq_true, Bool.bne_true, Bool.bne_false, Bool.not_true, Bool.not_false, not_true_eq_false, not_false_eq_true, true_implies, false_implies]
        exact LoopPost.next 1 rfl ⟨Nat.le_refl _, fun _ => ⟨by omega, by omega, ha⟩, rfl⟩ (by omega)
      · rw [decide_eq_false ha, decide_eq_false (fun hh => ha hh.2.2)]
        simp only [amS, Nat.reduceAdd, Nat.reduceLeDiff, Nat.reduceEqDiff, ↓reduceIte, reduceCtorEq, fillAt, targetOf, bne_self_eq_false, beq_self_eq_true, Bool.bne_true, Bool.bne_false, Bool.not_true, Bool.not_false, not_true_eq_false, not_false_eq_true, true_implies, false_implies]
  · obtain rfl : n = 1 := by omega
    have ok := hok rfl
    have j1 : ¬ ((1 : Nat) : Int) < ((1 : Nat) : Int) := by decide
    have j2 : ((1 : Nat) : Int) ≤ 1 := by decide
    simp only [amS, Nat.reduceAdd, Nat.reduceLeDiff, Nat.reduceEqDiff, ↓reduceIte, reduceCtorEq, fillAt, targetOf, bne_self_eq_false, beq_self_eq_true, Bool.bne_true, Bool.bne_false, Bool.not_true, Bool.not_false, not_true_eq_false, not_false_eq_true, true_implies, false_implies, hv.len, List.length_cons, List.length_nil, j1, j2, decide_eq_true ok, decide_true]

theorem g11 : Ret cx 11 [.agg zItem] h (.agg zItem) h := by
  rw [ret_iff, t11_eq, t11]
  simp only [amS, Nat.reduceAdd, Nat.reduceLeDiff, Nat.reduceEqDiff, ↓reduceIte, reduceCtorEq, fillAt, targetOf, bne_self_eq_false, beq_self_eq_true, Bool.bne_true, Bool.bne_false, Bool.not_true, Bool.not_false, not_true_eq_false, not_false_eq_true, true_implies, false_implies, Nat.zero_lt_one, Option.map_some]
theorem pe_zz : peval (.geq true [.i, .i, .s, .b]) [.agg zItem, .agg zItem] = some (.bool false) := rfl
theorem known_iff {Q : Post} {h : AHeap} {k : AVal → IT} : W cx (.pcall 7 [] k) Q h ↔ W cx (k (.bool true)) Q h := PRet.pcall run_known rfl rfl
theorem g30 {p : AVal} (gp : Gone h p) (x : BOp) {l : List Attr} (hx : IsAttrs l x.attrs) (hl : l.length ≤ 20) (hk : x.kind < 15 ∨ 23 < x.kind) : Ret cx 30 [p, .agg x.row] h (.agg zItem) h := by
  obtain ⟨u, hu⟩ := f65 (h := h) x hx hl
  have q21 := g21 gp (tokRow x u) rfl
  have q55 := fun n => g55 gp (v := .agg (tokRow x u)) rfl n
  have q31 := g31 gp (tokRow x u) rfl
  have q67 := fun n => g67 gp (tokRow x u) rfl n
  have q23 := fun n => g23 gp (tokRow x u) rfl n
  have q45 := fun n m => g45 gp (tokRow x u) rfl n m
  simp only [tokRow, BOp.row] at hu q21 q55 q31 q67 q23 q45
  have k15 := eq_false (show ¬ x.kind = 15 by omega)
  have k16 := eq_false (show ¬ x.kind = 16 by omega)
  have k17 := eq_false (show ¬ x.kind = 17 by omega)
  have k18 := eq_false (show ¬ x.kind = 18 by omega)
  have k19 := eq_false (show ¬ x.kind = 19 by omega)
  have k20 := eq_false (show ¬ x.kind = 20 by omega)
  have k21 := eq_false (show ¬ x.kind = 21 by omega)
  have k22 := eq_false (show ¬ x.kind = 22 by omega)
  have k23 := eq_false (show ¬ x.kind = 23 by omega)
  rw [ret_iff, t30_eq, t30]
  simp only [amS, Nat.reduceAdd, Nat.reduceLeDiff, Nat.reduceEqDiff, ↓reduceIte, reduceCtorEq, fillAt, targetOf, bne_self_eq_false, beq_self_eq_true, Bool.bne_true, Bool.bne_false, Bool.not_true, Bool.not_false, not_true_eq_false, not_false_eq_true, true_implies, false_implies, BOp.row, hu.call, q21.call, (q55 _).call, q31.call, (q67 _).call, (q23 _).call, (q45 _ _).call, (g32 gp _).call, (g66 gp _ _).call, (g68 gp).call, (g69 gp).call, (g70 gp _).call, (g33 gp _).call, (g50 gp).call, (g71 gp).call, (g72 gp).call, g11.call, k15, k16, k17, k18, k19, k20, k21, k22, k23, Nat.zero_lt_one, Option.map_some]
  simp only [implies_true, and_self]
end

theorem ev_nilB (x : BOp) {l : List Attr} (hx : IsAttrs l x.attrs) (n : Int) : Ev cx 5 [.agg x.row, .int .i64 n] [] fun r _ => r = .bool true := by
  obtain ⟨b, hb, h26⟩ := f26 (h := []) x hx
  have hm : peval (.mksl 9) [.agg x.row] = some (.sl 9 [x.row]) := rfl
  simp only [BOp.row] at h26 hm
  unfold Ev
  rw [t5_eq, t5]
  simp only [amS, Nat.reduceAdd, Nat.reduceLeDiff, Nat.reduceEqDiff, ↓reduceIte, reduceCtorEq, fillAt, targetOf, bne_self_eq_false, beq_self_eq_true, Bool.bne_true, Bool.bne_false, Bool.not_true, Bool.not_false, not_true_eq_false, not_false_eq_true, true_implies, false_implies, BOp.row, hm, h26.call, known_iff]
  cases b
  · simp only [amS, Nat.reduceAdd, Nat.reduceLeDiff, Nat.reduceEqDiff, ↓reduceIte, reduceCtorEq, fillAt, targetOf, bne_self_eq_false, beq_self_eq_true, Bool.bne_true, Bool.bne_false, Bool.not_true, Bool.not_false, not_true_eq_false, not_false_eq_true, true_implies, false_implies]
    exact ⟨_, rfl, rfl⟩
  · have hl := hb rfl
    have z : Gone [] (.ptr none) := .inl rfl
    have z' : Gone [.cells zB] (.ptr (some (0, 0))) := .inr ⟨0, rfl, rfl⟩
    have q30 := fun hk => g30 z x hx hl hk
    have q30' := fun hk => g30 z' x hx hl hk
    simp only [BOp.row] at q30 q30'
    have ha : halloc [] 20 (.agg zB) = some ([.cells zB], .ptr (some (0, 0))) := rfl
    by_cases k1 : x.kind < 15
    · have k2 : ¬ 23 < x.kind := by omega
      simp only [amS, Nat.reduceAdd, Nat.reduceLeDiff, Nat.reduceEqDiff, ↓reduceIte, reduceCtorEq, fillAt, targetOf, bne_self_eq_false, beq_self_eq_true, Bool.bne_true, Bool.bne_false, Bool.not_true, Bool.not_false, not_true_eq_false, not_false_eq_true, true_implies, false_implies, k1, k2, ha, (g27 z n).call, (g28 z).call, (g29 z).call, (g17 z).call, s18.call, pe_zz, (q30 (.inl k1)).call, (g27 z' n).call, (g28 z').call, (g29 z').call, (g17 z').call, (q30' (.inl k1)).call, known_iff, ne_eq, eq_self]
      exact ⟨_, rfl, rfl⟩
    · by_cases k2 : 23 < x.kind
      · simp only [amS, Nat.reduceAdd, Nat.reduceLeDiff, Nat.reduceEqDiff, ↓reduceIte, reduceCtorEq, fillAt, targetOf, bne_self_eq_false, beq_self_eq_true, Bool.bne_true, Bool.bne_false, Bool.not_true, Bool.not_false, not_true_eq_false, not_false_eq_true, true_implies, false_implies, k1, k2, ha, (g27 z n).call, (g28 z).call, (g29 z).call, (g17 z).call, s18.call, pe_zz, (q30 (.inr k2)).call, (g27 z' n).call, (g28 z').call, (g29 z').call, (g17 z').call, (q30' (.inr k2)).call, known_iff, ne_eq, eq_self]
        exact ⟨_, rfl, rfl⟩
      · simp only [amS, Nat.reduceAdd, Nat.reduceLeDiff, Nat.reduceEqDiff, ↓reduceIte, reduceCtorEq, fillAt, targetOf, bne_self_eq_false, beq_self_eq_true, Bool.bne_true, Bool.bne_false, Bool.not_true, Bool.not_false, not_true_eq_false, not_false_eq_true, true_implies, false_implies, k1, k2, ha, (g27 z n).call, (g28 z).call, (g29 z).call, (g17 z).call, s18.call, pe_zz, (g27 z' n).call, (g28 z').call, (g29 z').call, (g17 z').call, known_iff, ne_eq, eq_self]
        exact ⟨_, rfl, rfl⟩

theorem all_nilB : ∀ l, HasArgs [tBOp, .int .i64] l → Ev cx 5 l [] fun r _ => r = .bool true := by
  rintro _ ⟨a, _, rfl, ha, b, _, rfl, hb, rfl⟩
  obtain ⟨x, rfl, l, hx⟩ := hasV_bop ha
  obtain ⟨n, hn, _⟩ := hb
  cases hn
  exact ev_nilB x hx n
end Go.Am
