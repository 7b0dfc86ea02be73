/-
  StackNil as the abstract machine runs it: it returns true. No law is claimed here.
-/
import Derived.Test.YtejpjabbdkpmiaaDoorLLists
import Derived.Test.YtejpjabbdkpmiaaDoorLFirst
namespace Go.Am
open Go
set_option maxRecDepth 100000
set_option linter.unusedSimpArgs false
set_option linter.unusedVariables false

section
variable {h : AHeap}
theorem cast0 : ((0 : Nat) : Int) = 0 := rfl
theorem satNil : SAt h (.ptr none) [] := .inl ⟨rfl, rfl⟩
theorem n101 {B A : AVal} : Ret cx 101 [.ptr none, B, A] h (.int .i64 0) h := by
  rw [ret_iff, t101_eq, t101]
  refine W_loop_st (fun _ : Unit => [.int .i64 0]) (fun _ h1 => h1 = h) (fun _ => 0) () rfl rfl ?_
  rintro _ h1 rfl
  simp only [amS, Nat.reduceAdd, Nat.reduceLeDiff, Nat.reduceEqDiff, ↓reduceIte, reduceCtorEq, fillAt, targetOf, itS, (f34 (satNil (h := h1))).call, cast0, show ¬ (1 : Int) < 0 by decide, not_true_eq_false, not_false_eq_true, true_implies, false_implies]
theorem n92 (a : Item) : Ret cx 92 [.ptr none, .agg a.row] h (.tuple []) h := by
  rw [ret_iff, t92_eq, t92]
  simp only [amS, Nat.reduceAdd, Nat.reduceLeDiff, Nat.reduceEqDiff, ↓reduceIte, reduceCtorEq, fillAt, targetOf, itS, bne_self_eq_false, beq_self_eq_true, Bool.bne_true, Bool.not_true, Bool.not_false]
theorem n69 (a : Item) (i : Int) : Ret cx 69 [.ptr none, .agg a.row, .int .i64 i] h (.tuple []) h := by
  rw [ret_iff, t69_eq, t69]
  simp only [amS, Nat.reduceAdd, Nat.reduceLeDiff, Nat.reduceEqDiff, ↓reduceIte, reduceCtorEq, fillAt, targetOf, itS, bne_self_eq_false, beq_self_eq_true, Bool.bne_true, Bool.not_true, Bool.not_false]
theorem n70 (node : Int) : Ret cx 70 [.ptr none, .int .i64 node] h (.bool false) h := by
  rw [ret_iff, t70_eq, t70]
  simp only [amS, Nat.reduceAdd, Nat.reduceLeDiff, Nat.reduceEqDiff, ↓reduceIte, reduceCtorEq, fillAt, targetOf, itS, (f40 (satNil (h := h)) (by simp) node).call, lastIdx_nil, show (-1 : Int) < 1 by decide, not_true_eq_false, not_false_eq_true, true_implies, false_implies]
theorem n66 (node : Int) (a : Item) : Ret cx 66 [.ptr none, .int .i64 node, .agg a.row] h (.bool false) h := by
  have e : hfrzAt h 0 (.ptr none) = some h := rfl
  rw [ret_iff, t66_eq, t66]
  simp only [amS, Nat.reduceAdd, Nat.reduceLeDiff, Nat.reduceEqDiff, ↓reduceIte, reduceCtorEq, fillAt, targetOf, itS, (f40 (satNil (h := h)) (by simp) node).call, lastIdx_nil, show (-1 : Int) < 1 by decide, not_true_eq_false, not_false_eq_true, true_implies, false_implies, e]
theorem n29 {v : AVal} (hv : v.cells = [v]) : Ret cx 29 [.ptr none, v] h (.int .i64 0) h := by
  rw [ret_iff, t29_eq, t29]
  simp only [amS, Nat.reduceAdd, Nat.reduceLeDiff, Nat.reduceEqDiff, ↓reduceIte, reduceCtorEq, fillAt, targetOf, itS, hv, (n101 (h := h)).call]
theorem n30 {v : AVal} (hv : v.cells = [v]) : Ret cx 30 [.ptr none, v] h (.int .i64 0) h := by
  rw [ret_iff, t30_eq, t30]
  simp only [amS, Nat.reduceAdd, Nat.reduceLeDiff, Nat.reduceEqDiff, ↓reduceIte, reduceCtorEq, fillAt, targetOf, itS, hv, (n101 (h := h)).call]
theorem n31 {v : AVal} (hv : v.cells = [v]) : Ret cx 31 [.ptr none, v] h (.int .i64 0) h := by
  rw [ret_iff, t31_eq, t31]
  simp only [amS, Nat.reduceAdd, Nat.reduceLeDiff, Nat.reduceEqDiff, ↓reduceIte, reduceCtorEq, fillAt, targetOf, itS, hv, (n101 (h := h)).call]
theorem n143 (n : Int) : Ret cx 143 [.ptr none, .int .i64 n] h (.int .i64 0) h := by
  rw [ret_iff, t143_eq, t143]
  simp only [amS, Nat.reduceAdd, Nat.reduceLeDiff, Nat.reduceEqDiff, ↓reduceIte, reduceCtorEq, fillAt, targetOf, itS, (f40 (satNil (h := h)) (by simp) n).call, lastIdx_nil, show (-1 : Int) < 0 by decide, not_true_eq_false, not_false_eq_true, true_implies, false_implies]
theorem n144 : Ret cx 144 [.ptr none] h (.int .i64 0) h := by
  rw [ret_iff, t144_eq, t144]
  simp only [amS, Nat.reduceAdd, Nat.reduceLeDiff, Nat.reduceEqDiff, ↓reduceIte, reduceCtorEq, fillAt, targetOf, itS, (n101 (h := h)).call]
theorem n89 (x : SOp) (hx : x.ok) : Ret cx 89 [.ptr none, .agg x.row] h (.tuple [.agg Item.zero.row, .int .i64 0]) h := by
  have hc : x.names.cells = [x.names] := IsSl.cells hx
  have o0 : oneOf false = 0 := rfl
  rw [ret_iff, t89_eq, t89]
  simp only [amS, Nat.reduceAdd, Nat.reduceLeDiff, Nat.reduceEqDiff, ↓reduceIte, reduceCtorEq, fillAt, targetOf, itS, soS, pe_mkItem0, (f142 x _).call, (n92 _).call, (f93' (satNil (h := h)) (by simp)).call, (f32 _).call, (n31 hc).call, (n143 _).call, (n30 (show (AVal.str x.name).cells = [.str x.name] from rfl)).call, n144.call, (n29 hc).call, (n70 _).call, (n66 _ _).call, (n69 _ _).call, f132_iff, o0]
  simp only [implies_true, and_self]
theorem n82 (node : Int) : Ret cx 82 [.ptr none, .int .i64 node] h (.int .i64 (-1)) h := by
  rw [ret_iff, t82_eq, t82]
  simp only [amS, Nat.reduceAdd, Nat.reduceLeDiff, Nat.reduceEqDiff, ↓reduceIte, reduceCtorEq, fillAt, targetOf, itS, bne_self_eq_false, beq_self_eq_true, Bool.bne_false, Bool.bne_true, Bool.not_true, Bool.not_false]
theorem n80 (s : Bytes) : Ret cx 80 [.ptr none, .str s] h (.int .i64 (-1)) h := by
  rw [ret_iff, t80_eq, t80]
  simp only [amS, Nat.reduceAdd, Nat.reduceLeDiff, Nat.reduceEqDiff, ↓reduceIte, reduceCtorEq, fillAt, targetOf, itS, bne_self_eq_false, beq_self_eq_true, Bool.bne_false, Bool.bne_true, Bool.not_true, Bool.not_false]
theorem n71 (e : Fmt) : Ret cx 71 [.ptr none, .agg e.row] h (.tuple []) h := by
  rw [ret_iff, t71_eq, t71]
  simp only [amS, Nat.reduceAdd, Nat.reduceLeDiff, Nat.reduceEqDiff, ↓reduceIte, reduceCtorEq, fillAt, targetOf, itS, Fmt.len_row, bne_self_eq_false, beq_self_eq_true, Bool.bne_false, Bool.bne_true, Bool.not_true, Bool.not_false]
theorem n72 (e : Fmt) (i : Int) : Ret cx 72 [.ptr none, .agg e.row, .int .i64 i] h (.tuple []) h := by
  rw [ret_iff, t72_eq, t72]
  simp only [amS, Nat.reduceAdd, Nat.reduceLeDiff, Nat.reduceEqDiff, ↓reduceIte, reduceCtorEq, fillAt, targetOf, itS, Fmt.len_row, bne_self_eq_false, beq_self_eq_true, Bool.bne_false, Bool.bne_true, Bool.not_true, Bool.not_false]
theorem n94 : Ret cx 94 [.ptr none] h (.tuple []) h := by
  rw [ret_iff, t94_eq, t94]
  simp only [amS, Nat.reduceAdd, Nat.reduceLeDiff, Nat.reduceEqDiff, ↓reduceIte, reduceCtorEq, fillAt, targetOf, itS, bne_self_eq_false, beq_self_eq_true, Bool.bne_false, Bool.bne_true, Bool.not_true, Bool.not_false]
theorem n95 : Ret cx 95 [.ptr none] h (.int .i64 0) h := by
  rw [ret_iff, t95_eq, t95]
  simp only [amS, Nat.reduceAdd, Nat.reduceLeDiff, Nat.reduceEqDiff, ↓reduceIte, reduceCtorEq, fillAt, targetOf, itS, bne_self_eq_false, beq_self_eq_true, Bool.bne_false, Bool.bne_true, Bool.not_true, Bool.not_false]
theorem n133 (node : Int) : Ret cx 133 [.ptr none, .int .i64 node] h (.bool false) h := by
  rw [ret_iff, t133_eq, t133]
  simp only [amS, Nat.reduceAdd, Nat.reduceLeDiff, Nat.reduceEqDiff, ↓reduceIte, reduceCtorEq, fillAt, targetOf, itS, (n82 node).call, show (-1 : Int) < 0 by decide, not_true_eq_false, not_false_eq_true, true_implies, false_implies]
theorem n73 (node : Int) (e : Fmt) : Ret cx 73 [.ptr none, .int .i64 node, .agg e.row] h (.bool false) h := by
  have e1 : hfrzAt h 0 (.ptr none) = some h := rfl
  rw [ret_iff, t73_eq, t73]
  simp only [amS, Nat.reduceAdd, Nat.reduceLeDiff, Nat.reduceEqDiff, ↓reduceIte, reduceCtorEq, fillAt, targetOf, itS, Fmt.len_row, (n82 node).call, show (-1 : Int) < 0 by decide, not_true_eq_false, not_false_eq_true, true_implies, false_implies, e1]
theorem n78 (a : FEd) (ha : a.l.length ≤ 100000) : Ret cx 78 [.ptr none, .agg a.row] h (.int .i64 0) h := by
  obtain ⟨e1, he1, r1⟩ := f131 a ha a.x.node h
  obtain ⟨e2, he2, r2⟩ := f131 a ha a.x.to h
  have o0 : oneOf false = 0 := rfl
  rw [ret_iff, t78_eq, t78]
  simp only [amS, Nat.reduceAdd, Nat.reduceLeDiff, Nat.reduceEqDiff, ↓reduceIte, reduceCtorEq, fillAt, targetOf, itS, FEd.len_row, FEd.g0, FEd.g1, FEd.g2, FEd.g3, FEd.g4, FEd.g5, FEd.fold, r1.call, r2.call, (n71 _).call, n94.call, n95.call, (n133 _).call, (n73 _ _).call, (n72 _ _).call, f132_iff, o0]
  simp only [implies_true, and_self]
end
theorem hasV_fed {v : AVal} (h : HasV tSEdit v) : ∃ a : FEd, v = .agg a.row := by
  obtain ⟨r, rfl, hr⟩ := h
  obtain ⟨a, rfl, _⟩ := has_fed r hr
  exact ⟨a, rfl⟩
theorem hasV_sop {v : AVal} (h : HasV tSOp v) : ∃ a : SOp, v = .agg a.row ∧ a.ok := by
  obtain ⟨r, rfl, hr⟩ := h
  obtain ⟨a, rfl, ns, hns⟩ := has_sop r hr
  have := strsOf_eq hns
  refine ⟨a, rfl, ?_⟩
  unfold SOp.ok SOp.ns
  rw [this]; exact hns
theorem ev_nil (x : SOp) (hx : x.ok) (y : FEd) : Ev cx 20 [.agg x.row, .agg y.row] [] fun r _ => r = .bool true := by
  have hx' : IsStrs x.ns x.names := hx
  unfold Ev
  rw [t20_eq, t20]
  simp only [amS, Nat.reduceAdd, Nat.reduceLeDiff, Nat.reduceEqDiff, ↓reduceIte, reduceCtorEq, fillAt, targetOf, itS, soS, FEd.len_row, FEd.g0, FEd.g1, FEd.g2, FEd.g3, FEd.g4, FEd.g5, FEd.fold, (f22' hx' []).call, (f41' y.ok []).call, known_iff]
  refine ⟨fun _ => ⟨_, rfl, rfl⟩, fun h1 => ?_⟩
  rw [cndW_iff]
  refine ⟨fun _ => ⟨_, rfl, rfl⟩, fun h2 => ?_⟩
  have h2 : strsOk x.ns := by simpa using h2
  rw [cndW_iff]
  refine ⟨fun _ => ⟨_, rfl, rfl⟩, fun h3 => ?_⟩
  have h3 : attrsOk y.l := by simpa using h3
  have ha : y.l.length ≤ 100000 := by have := h3.1; omega
  have hw : x.ns.length ≤ 100000 := by have := h2.1; omega
  have tz : topOf [] = Item.zero := rfl
  have iz : itemAt [] x.pos = Item.zero := by unfold itemAt; split <;> rfl
  have s0 := satNil (h := [])
  have l0 : ([] : List Item).length ≤ 100000 := by simp
  have fz : furthest x.node [] = -1 := rfl
  have b1 : inSc (isOne x.ns) (ends x.pos) ([] : List Item).reverse = false := rfl
  have b2 : inSc (isNode x.node) (ends x.pos) ([] : List Item).reverse = false := rfl
  simp only [amS, Nat.reduceAdd, Nat.reduceLeDiff, Nat.reduceEqDiff, ↓reduceIte, reduceCtorEq, fillAt, targetOf, itS, soS, cast0, tz, iz, fz, b1, b2, lastIdx_nil, (n89 x hx).call, pe_mkItem0, (f48 s0 _).call, (f40 s0 l0 _).call, (f39 s0 l0 _).call, (f51 s0 l0 _).call, (f25 s0 l0 _ hx' hw).call, (f27 s0 l0 _ _).call, (n80 _).call, (n82 _).call, known_iff, item_neq, decide_true, bne_self_eq_false, ne_eq, not_true_eq_false, true_implies, false_implies, not_false_eq_true, (n78 y ha).call, (f34 (satNil (h := []))).call, (f33 (satNil (h := [])) (by simp)).call]
  exact ⟨_, rfl, rfl⟩
theorem all_nil : ∀ l, HasArgs [tSOp, tSEdit] l → Ev cx 20 l [] fun r _ => r = .bool true := by
  rintro _ ⟨a, _, rfl, ha, b, _, rfl, hb, rfl⟩
  obtain ⟨x, rfl, hx⟩ := hasV_sop ha
  obtain ⟨y, rfl⟩ := hasV_fed hb
  exact ev_nil x hx y
end Go.Am
