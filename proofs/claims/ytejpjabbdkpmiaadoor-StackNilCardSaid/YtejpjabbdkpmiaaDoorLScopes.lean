/-
  StackScopes and StackReads as the abstract machine runs them: they return true. No law is claimed here.
-/
import Derived.Test.YtejpjabbdkpmiaaDoorSRef
namespace Go.Am
open Go
set_option maxRecDepth 100000
set_option linter.unusedSimpArgs false
set_option linter.unusedVariables false

theorem itemsOk.few {l : List Item} (h : itemsOk l) : l.length ≤ 100000 := by have := h.1; omega
theorem itemsOk.short {l : List Item} (h : itemsOk l) : ∀ a ∈ l, a.name.length < 9223372036854775807 := fun a ha => by have := h.2 a ha; omega
theorem strsOk.few {l : List Bytes} (h : strsOk l) : l.length ≤ 100000 := by have := h.1; omega
theorem item_neq {a b : Item} {neg : Bool} : peval (.geq neg [.i, .i, .s, .b]) [.agg a.row, .agg b.row] = some (.bool (decide (a = b) != neg)) := by
  rw [pe_geq_agg]
  have : flatEqs [.i, .i, .s, .b] a.row b.row = some (decide (a = b)) := by
    simp only [flatEqs, flatEq, Item.row, if_true, Option.some.injEq]
    cases a; cases b
    simp only [Item.mk.injEq]
    rw [Bool.eq_iff_iff]
    simp
  rw [this]; rfl

theorem hasV_int {v : AVal} {k : IntKind} (h : HasV (.int k) v) : ∃ n, v = .int k n := by obtain ⟨n, e, _⟩ := h; cases e; exact ⟨n, rfl⟩
theorem hasV_str {v : AVal} (h : HasV .str v) : ∃ s : Bytes, v = .str s := by obtain ⟨n, e, _⟩ := h; cases e; exact ⟨n, rfl⟩
theorem ev_scopes {v w : AVal} {l : List Item} {ws : List Bytes} (hv : IsItems l v) (hw : IsStrs ws w) (n node : Int) : Ev cx 3 [v, .int .i64 n, w, .int .i64 node] [] fun r _ => r = .bool true := by
  unfold Ev
  rw [t3_eq, t3]
  simp only [amS, Nat.reduceAdd, Nat.reduceLeDiff, Nat.reduceEqDiff, ↓reduceIte, reduceCtorEq, fillAt, targetOf, (f21' hv []).call, (f22' hw []).call, known_iff]
  rw [cndW_iff, cndW_iff]
  refine ⟨fun _ => ⟨_, rfl, rfl⟩, fun h1 => ⟨fun _ => ⟨_, rfl, rfl⟩, fun h2 => ?_⟩⟩
  have h1 : itemsOk l := by simpa using h1
  have h2 : strsOk ws := by simpa using h2
  refine W_call (Ev.mono (f24 hv h1.few) ?_)
  rintro _ _ ⟨u, rfl, rfl, hu⟩
  have hs : SAt [AObj.cells [u]] (.ptr (some (0, 0))) l := SObj.at ⟨u, rfl, hu⟩
  simp only [amS, Nat.reduceAdd, Nat.reduceLeDiff, Nat.reduceEqDiff, ↓reduceIte, reduceCtorEq, fillAt, targetOf, itS, (f25 hs h1.few n hw h2.few).call, (f26 hv h1.few h1.short n hw h2.few).call, (f27 hs h1.few n node).call, (f28 hv h1.few h1.short n node).call, known_iff, beq_self_eq_true, Bool.bne_false]
  exact ⟨_, rfl, rfl⟩
theorem all_scopes : ∀ l, HasArgs [.sl tItem, .int .i64, .sl .str, .int .i64] l → Ev cx 3 l [] fun r _ => r = .bool true := by
  rintro _ ⟨a, _, rfl, ha, b, _, rfl, hb, c, _, rfl, hc, d, _, rfl, hd, rfl⟩
  obtain ⟨l, hv⟩ := has_items ha
  obtain ⟨n, rfl⟩ := hasV_int hb
  obtain ⟨m, rfl⟩ := hasV_int hd
  obtain ⟨ws, hw⟩ := has_strs hc
  exact ev_scopes hv hw _ _

theorem ev_reads {v : AVal} {l : List Item} (hv : IsItems l v) (i node : Int) (s : Bytes) : Ev cx 7 [v, .int .i64 i, .int .i64 node, .str s] [] fun r _ => r = .bool true := by
  unfold Ev
  rw [t7_eq, t7]
  simp only [amS, Nat.reduceAdd, Nat.reduceLeDiff, Nat.reduceEqDiff, ↓reduceIte, reduceCtorEq, fillAt, targetOf, (f21' hv []).call, known_iff]
  rw [cndW_iff]
  refine ⟨fun _ => ⟨_, rfl, rfl⟩, fun h1 => ⟨fun _ => ⟨_, rfl, rfl⟩, fun h2 => ?_⟩⟩
  have h1 : itemsOk l := by simpa using h1
  refine W_call (Ev.mono (f24 hv h1.few) ?_)
  rintro _ _ ⟨u, rfl, rfl, hu⟩
  have hs : SAt [AObj.cells [u]] (.ptr (some (0, 0))) l := SObj.at ⟨u, rfl, hu⟩
  simp only [amS, Nat.reduceAdd, Nat.reduceLeDiff, Nat.reduceEqDiff, ↓reduceIte, reduceCtorEq, fillAt, targetOf, itS, (f48 hs i).call, (f32 _).call, (f37 hv i).call, item_neq, (f40 hs h1.few node).call, (f49 hv h1.few node).call, (f39 hs h1.few s).call, (f50 hv h1.few s).call, (f51 hs h1.few node).call, (f52 hv h1.few h1.short node).call, (f34 hs).call, IsSl.lenM hv, known_iff, decide_true, bne_self_eq_false, cndW_false, ne_eq, not_true_eq_false, not_false_eq_true, false_implies, true_implies]
  exact ⟨_, rfl, rfl⟩
theorem all_reads : ∀ l, HasArgs [.sl tItem, .int .i64, .int .i64, .str] l → Ev cx 7 l [] fun r _ => r = .bool true := by
  rintro _ ⟨a, _, rfl, ha, b, _, rfl, hb, c, _, rfl, hc, d, _, rfl, hd, rfl⟩
  obtain ⟨l, hv⟩ := has_items ha
  obtain ⟨n, rfl⟩ := hasV_int hb
  obtain ⟨m, rfl⟩ := hasV_int hc
  obtain ⟨s, rfl⟩ := hasV_str hd
  exact ev_reads hv _ _ _
end Go.Am
