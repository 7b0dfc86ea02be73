/-
  StackPlays as the abstract machine runs it: it returns true. No law is claimed here.
-/
import Derived.Test.YtejpjabbdkpmiaaDoorSPlay
namespace Go.Am
open Go
set_option maxRecDepth 100000
set_option linter.unusedSimpArgs false
set_option linter.unusedVariables false

def strsOf : AVal → List Bytes
  | .sl _ rows => rows.map fun r => match r with | [.str s] => s | _ => []
  | _ => []
theorem strsOf_eq {ns : List Bytes} {v : AVal} (h : IsStrs ns v) : strsOf v = ns := by
  rcases h with rfl | ⟨rfl, h⟩
  · simp only [strsOf, List.map_map]
    conv => rhs; rw [← List.map_id ns]
    rfl
  · have : ns = [] := by simpa using h
    subst this; rfl
def SOp.ns (x : SOp) : List Bytes := strsOf x.names
def SOp.ok (x : SOp) : Prop := IsStrs x.ns x.names
theorem has_sops {v : AVal} (h : HasV (.sl tSOp) v) : ∃ l : List SOp, IsSl 8 (l.map SOp.row) v ∧ ∀ x ∈ l, x.ok := by
  obtain ⟨l, h1, _, h2⟩ := has_sl has_sop h
  refine ⟨l, h1, fun x hx => ?_⟩
  obtain ⟨ns, hn⟩ := h2 x hx
  have := strsOf_eq hn
  unfold SOp.ok SOp.ns
  rw [this]; exact hn

def opsOk (l : List SOp) : Prop := l.length ≤ 80 ∧ ∀ x ∈ l, x.name.length ≤ 60 ∧ strsOk x.ns
instance (l : List SOp) : Decidable (opsOk l) := by unfold opsOk; infer_instance

theorem SOp.len_row {a : SOp} : a.row.length = 8 := rfl
theorem SOp.take_row {a : SOp} : a.row.take 8 = a.row := rfl
theorem SOp.g0 {a : SOp} {d : AVal} : a.row.getD 0 d = .int .i64 a.kind := rfl
theorem SOp.g1 {a : SOp} {d : AVal} : a.row.getD 1 d = .int .i64 a.node := rfl
theorem SOp.g2 {a : SOp} {d : AVal} : a.row.getD 2 d = .int .i64 a.to := rfl
theorem SOp.g3 {a : SOp} {d : AVal} : a.row.getD 3 d = .int .i64 a.space := rfl
theorem SOp.g4 {a : SOp} {d : AVal} : a.row.getD 4 d = .str a.name := rfl
theorem SOp.g5 {a : SOp} {d : AVal} : a.row.getD 5 d = .bool a.point := rfl
theorem SOp.g6 {a : SOp} {d : AVal} : a.row.getD 6 d = a.names := rfl
theorem SOp.g7 {a : SOp} {d : AVal} : a.row.getD 7 d = .int .i64 a.pos := rfl
theorem SOp.at0 {a : SOp} : a.row[0]? = some (.int .i64 a.kind) := rfl
theorem SOp.drop4 {a : SOp} : a.row.drop 4 = [.str a.name, .bool a.point, a.names, .int .i64 a.pos] := rfl
theorem SOp.drop6 {a : SOp} : a.row.drop 6 = [a.names, .int .i64 a.pos] := rfl
theorem SOp.fold {a : SOp} : [AVal.int .i64 a.kind, .int .i64 a.node, .int .i64 a.to, .int .i64 a.space, .str a.name, .bool a.point, a.names, .int .i64 a.pos] = a.row := rfl

/-- small. -/
theorem f88 {v : AVal} {l : List SOp} (hv : IsSl 8 (l.map SOp.row) v) (hok : ∀ x ∈ l, x.ok) (h : AHeap) : Ret cx 88 [v] h (.bool (decide (opsOk l))) h := by
  rw [ret_iff, t88_eq, t88]
  refine W_loop_st (fun n : Nat => [.bool false, .int .i64 (n : Int)]) (fun n h1 => n ≤ l.length ∧ n ≤ 81 ∧ (∀ x ∈ l.take n, x.name.length ≤ 60 ∧ strsOk x.ns) ∧ h1 = h) (fun n => l.length - n) 0 rfl ⟨Nat.zero_le _, Nat.zero_le _, by simp, rfl⟩ ?_
  rintro n h1 ⟨hn, hb, ha, rfl⟩
  rcases Nat.lt_or_ge n l.length with hlt | hge
  · have i1 : (n : Int) < (l.length : Int) := by omega
    simp only [amS, Nat.reduceAdd, Nat.reduceLeDiff, Nat.reduceEqDiff, ↓reduceIte, reduceCtorEq, fillAt, targetOf, hv.lenM, i1, not_true_eq_false, true_implies, false_implies]
    refine ⟨fun hb2 => ?_, fun hb2 => ?_⟩
    · have hn2 : n ≤ 80 := by omega
      have hx := hok _ (List.getElem_mem hlt)
      simp only [amS, Nat.reduceAdd, Nat.reduceLeDiff, Nat.reduceEqDiff, ↓reduceIte, reduceCtorEq, fillAt, targetOf, SOp.drop4, SOp.drop6, hv.eaddrM hlt, hb2, not_true_eq_false, true_implies, false_implies, (f22' hx h1).call, pe_inc (show n < 9223372036854775807 by omega)]
      refine ⟨fun hc => ?_, fun hc0 => ?_⟩
      · have hno : ¬ opsOk l := fun hh => (by have := (hh.2 _ (List.getElem_mem hlt)).1; omega)
        simp only [decide_eq_false hno, and_self]
      rw [cndW_iff]
      refine ⟨fun hc => ?_, fun hc1 => ?_⟩
      · have hno : ¬ opsOk l := fun hh => (by have := (hh.2 _ (List.getElem_mem hlt)).2; simp [this] at hc)
        simp only [decide_eq_false hno, and_self]
      refine LoopPost.next (n + 1) rfl ⟨hlt, by omega, ?_, rfl⟩ (by omega)
      intro x hx
      rw [List.take_succ_eq_append_getElem hlt, List.mem_append, List.mem_singleton] at hx
      rcases hx with hx | rfl
      · exact ha x hx
      · exact ⟨by omega, by simpa using hc1⟩
    · have hn2 : ¬ n ≤ 80 := by omega
      have hno : ¬ opsOk l := fun hh => by have := hh.1; omega
      have hno2 : ¬ (l.length : Int) ≤ 80 := by omega
      simp only [amS, Nat.reduceAdd, Nat.reduceLeDiff, Nat.reduceEqDiff, ↓reduceIte, reduceCtorEq, fillAt, targetOf, hv.lenM, decide_eq_false hno, decide_eq_false hno2, and_self]
  · have i1 : ¬ (n : Int) < (l.length : Int) := by omega
    rw [List.take_of_length_le hge] at ha
    have e2 : decide ((l.length : Int) ≤ 80) = decide (opsOk l) := by
      rw [decide_eq_decide]
      exact ⟨fun h => ⟨by omega, ha⟩, fun h => by have := h.1; omega⟩
    simp only [amS, Nat.reduceAdd, Nat.reduceLeDiff, Nat.reduceEqDiff, ↓reduceIte, reduceCtorEq, fillAt, targetOf, hv.lenM, i1, not_false_eq_true, true_implies, false_implies, e2, and_self]

/-- The item of an operation. -/
def SOp.item (x : SOp) (node : Int) : Item := ⟨node, x.space, x.name, x.point⟩
def oneOf (b : Bool) : Int := if b then 1 else 0
theorem Item.fill0 {a : Item} : fillAt Item.zero.row ([(0, 1), (1, 1), (2, 1), (3, 1)].zip a.row) = some a.row := rfl
theorem SOp.fold_item {x : SOp} {n : Int} : [AVal.int .i64 n, .int .i64 x.space, .str x.name, .bool x.point] = (x.item n).row := rfl
theorem SOp.item_node {x : SOp} {n : Int} : (x.item n).node = n := rfl
theorem SOp.item_space {x : SOp} {n : Int} : (x.item n).space = x.space := rfl
theorem SOp.item_name {x : SOp} {n : Int} : (x.item n).name = x.name := rfl
theorem SOp.item_point {x : SOp} {n : Int} : (x.item n).point = x.point := rfl
/-- The rules about rows of operations, in one. -/
theorem soS : type_of% (And.intro @SOp.len_row (And.intro @SOp.g0 (And.intro @SOp.g1 (And.intro @SOp.g2 (And.intro @SOp.g3 (And.intro @SOp.g4 (And.intro @SOp.g5 (And.intro @SOp.g6 (And.intro @SOp.g7 (And.intro @SOp.fold (And.intro @SOp.fold_item (And.intro @SOp.item_node (And.intro @SOp.item_space (And.intro @SOp.item_name (And.intro @SOp.item_point (And.intro @Item.zero_row (@Item.fill0))))))))))))))))) := And.intro @SOp.len_row (And.intro @SOp.g0 (And.intro @SOp.g1 (And.intro @SOp.g2 (And.intro @SOp.g3 (And.intro @SOp.g4 (And.intro @SOp.g5 (And.intro @SOp.g6 (And.intro @SOp.g7 (And.intro @SOp.fold (And.intro @SOp.fold_item (And.intro @SOp.item_node (And.intro @SOp.item_space (And.intro @SOp.item_name (And.intro @SOp.item_point (And.intro @Item.zero_row (@Item.fill0))))))))))))))))
/-- What one operation does: its results, and the items that it leaves. -/
def doS (x : SOp) (l : List Item) : Item × Int × List Item :=
  let n (l' : List Item) : Int := (l.length : Int) - (l'.length : Int)
  if x.kind = 1 then (Item.zero, 0, l ++ [x.item x.node])
  else if x.kind = 2 then (if l.length < 2 then (Item.zero, 0, l) else (topOf l, 0, l.take (l.length - 1)))
  else if x.kind = 3 then (Item.zero, n (pops never (isOne x.ns) l), pops never (isOne x.ns) l)
  else if x.kind = 4 then (Item.zero, n (popNode x.node l), popNode x.node l)
  else if x.kind = 5 then (Item.zero, n (pops (unimplied x.name) never l), pops (unimplied x.name) never l)
  else if x.kind = 6 then (Item.zero, n (pops unthorough never l), pops unthorough never l)
  else if x.kind = 7 then (Item.zero, n (pops (isOne x.ns) never l), pops (isOne x.ns) never l)
  else if x.kind = 8 then (Item.zero, oneOf (decide (1 ≤ lastIdx (isNode x.node) l)), removed x.node l)
  else if x.kind = 9 then (Item.zero, oneOf (decide (1 ≤ lastIdx (isNode x.node) l)), replaced x.node (x.item x.to) l)
  else if x.kind = 10 then (Item.zero, 0, l.take (insertPos x.pos l.length) ++ x.item x.node :: l.drop (insertPos x.pos l.length))
  else (Item.zero, 0, l)

section
variable {h : AHeap} {v : AVal} {l : List Item} {x : SOp}
theorem f142 (x : SOp) (n : Int) : Ret cx 142 [.agg x.row, .int .i64 n] h (.agg (x.item n).row) h := by
  rw [ret_iff, t142_eq, t142]
  simp only [amS, Nat.reduceAdd, Nat.reduceLeDiff, Nat.reduceEqDiff, ↓reduceIte, reduceCtorEq, fillAt, targetOf, itS, soS]
theorem f132_iff {b : Bool} {k : AVal → IT} {Q : Post} : W cx (.pcall 132 [.bool b] k) Q h ↔ W cx (k (.int .i64 (oneOf b))) Q h :=
  PRet.pcall (by rw [wout, t132_eq, t132]; cases b <;> simp [oneOf]) rfl rfl

/-- Do. -/
theorem f89 {id : Nat} (hs : SObj h id l) (hb : l.length ≤ 1000) (hx : x.ok) (hn : x.ns.length ≤ 100000) : ∃ h', Ret cx 89 [.ptr (some (id, 0)), .agg x.row] h (.tuple [.agg (doS x l).1.row, .int .i64 (doS x l).2.1]) h' ∧ SObj h' id (doS x l).2.2 := by
  have hlt := hs.lt
  have hb' : l.length ≤ 100000 := by omega
  obtain ⟨u1, r1, h1⟩ := f92 hs hb' (x.item x.node)
  obtain ⟨u3, r3, h3⟩ := f31 hs hb' hx hn
  obtain ⟨u4, r4, h4⟩ := f143 hs hb' x.node
  obtain ⟨u5, r5, h5⟩ := f30 hs hb' x.name
  obtain ⟨u6, r6, h6⟩ := f144 hs hb'
  obtain ⟨u7, r7, h7⟩ := f29 hs hb' hx hn
  obtain ⟨u8, r8, h8⟩ := f70 hs hb' x.node
  obtain ⟨h9, r9, u9, t9, e9, i9⟩ := f66 hs hb' x.node (x.item x.to)
  obtain ⟨u10, r10, h10⟩ := f69 hs hb' (x.item x.node) x.pos
  have hev : Ev cx 89 [.ptr (some (id, 0)), .agg x.row] h fun r h' => r = .tuple [.agg (doS x l).1.row, .int .i64 (doS x l).2.1] ∧ SObj h' id (doS x l).2.2 := by
    unfold Ev
    rw [t89_eq, t89]
    simp only [amS, Nat.reduceAdd, Nat.reduceLeDiff, Nat.reduceEqDiff, ↓reduceIte, reduceCtorEq, fillAt, targetOf, itS, soS, (f142 x _).call, r1.call, r3.call, r4.call, r5.call, r6.call, r7.call, r8.call, r9.call, r10.call, f132_iff]
    refine ⟨fun k1 => ?_, fun k1 => ⟨fun k2 => ?_, fun k2 => ⟨fun k3 => ?_, fun k3 => ⟨fun k4 => ?_, fun k4 => ⟨fun k5 => ?_, fun k5 => ⟨fun k6 => ?_, fun k6 => ⟨fun k7 => ?_, fun k7 => ⟨fun k8 => ?_, fun k8 => ⟨fun k9 => ?_, fun k9 => ⟨fun k10 => ?_, fun k10 => ?_⟩⟩⟩⟩⟩⟩⟩⟩⟩⟩
    · exact ⟨_, rfl, by simp [doS, k1], .of_set hlt (by simpa [doS, k1] using h1)⟩
    · by_cases hl2 : l.length < 2
      · simp only [amS, Nat.reduceAdd, Nat.reduceLeDiff, Nat.reduceEqDiff, ↓reduceIte, reduceCtorEq, fillAt, targetOf, itS, (f93' hs.at hl2).call, (f32 _).call]
        exact ⟨_, rfl, by simp [doS, k2, hl2], by simpa [doS, k2, hl2] using hs⟩
      · obtain ⟨u2, r2, h2⟩ := f93 hs hb' (by omega)
        simp only [amS, Nat.reduceAdd, Nat.reduceLeDiff, Nat.reduceEqDiff, ↓reduceIte, reduceCtorEq, fillAt, targetOf, itS, r2.call, (f32 _).call]
        exact ⟨_, rfl, by simp [doS, k2, hl2], .of_set hlt (by simpa [doS, k2, hl2] using h2)⟩
    · exact ⟨_, rfl, by simp [doS, k3], .of_set hlt (by simpa [doS, k3] using h3)⟩
    · exact ⟨_, rfl, by simp [doS, k4], .of_set hlt (by simpa [doS, k4] using h4)⟩
    · exact ⟨_, rfl, by simp [doS, k5], .of_set hlt (by simpa [doS, k5] using h5)⟩
    · exact ⟨_, rfl, by simp [doS, k6], .of_set hlt (by simpa [doS, k6] using h6)⟩
    · exact ⟨_, rfl, by simp [doS, k7], .of_set hlt (by simpa [doS, k7] using h7)⟩
    · exact ⟨_, rfl, by simp [doS, k8], .of_set hlt (by simpa [doS, k8] using h8)⟩
    · exact ⟨_, rfl, by simp [doS, k9], by rw [e9]; exact (SObj.of_set hlt (by simpa [doS, k9] using i9)).app t9⟩
    · exact ⟨_, rfl, by simp [doS, k10], .of_set hlt (by simpa [doS, k10] using h10)⟩
    · exact ⟨_, rfl, by simp [doS, k1, k2, k3, k4, k5, k6, k7, k8, k9, k10], by simpa [doS, k1, k2, k3, k4, k5, k6, k7, k8, k9, k10] using hs⟩
  obtain ⟨r, h', hr, rfl, hu⟩ := hev.ret
  exact ⟨h', hr, hu⟩

theorem stops_false {s : Bytes} : stopsAt s false = unimplied s := rfl
theorem stops_true {s : Bytes} : stopsAt s true = unthorough := rfl
/-- Model. -/
theorem f90 (hv : IsItems l v) (hb : l.length ≤ 1000) (hl : ∀ a ∈ l, a.name.length < 9223372036854775807) (hx : x.ok) (hn : x.ns.length ≤ 100000) : ∃ u t, Ret cx 90 [v, .agg x.row] h (.tuple [u, .agg (doS x l).1.row, .int .i64 (doS x l).2.1]) (h ++ t) ∧ IsItems (doS x l).2.2 u := by
  have hb' : l.length ≤ 100000 := by omega
  have hv' : IsSl 4 (l.map Item.row) v := hv
  obtain ⟨ua, ea, ha⟩ := IsSl.appNil hv' (b := 40) (big40 (by omega))
  have eb := IsSl.app1M (a := x.item x.node) ha (b := 40) (big40 (by omega))
  obtain ⟨u2, t2, r2, h2⟩ := f145 (h := h) hv hb'
  obtain ⟨u3, t3, r3, h3⟩ := f146 (h := h) hv hb' hx hn
  obtain ⟨u4, t4, r4, h4⟩ := f147 (h := h) hv hb' x.node
  obtain ⟨u5, t5, r5, h5⟩ := f148 (h := h) hv hb' hl x.name false
  obtain ⟨u6, t6, r6, h6⟩ := f148 (h := h) hv hb' hl [] true
  obtain ⟨u7, t7, r7, h7⟩ := f149 (h := h) hv hb' hx hn
  obtain ⟨u8, t8, r8, h8⟩ := f150 (h := h) hv hb' x.node
  obtain ⟨u9, t9, r9, h9⟩ := f151 (h := h) hv hb' x.node (x.item x.to)
  obtain ⟨u10, r10, h10⟩ := f152 (h := h) hv hb' (x.item x.node) x.pos
  rw [← pops_until] at h3
  rw [← pops_clear] at h7
  rw [stops_false] at h5
  rw [stops_true] at h6
  have l3 := pops_le (b := never) (a := isOne x.ns) (l := l)
  have l5 := pops_le (b := unimplied x.name) (a := never) (l := l)
  have l6 := pops_le (b := unthorough) (a := never) (l := l)
  have l7 := pops_le (b := isOne x.ns) (a := never) (l := l)
  have l4 : (popNode x.node l).length ≤ l.length := by unfold popNode; split; exact Nat.le_refl _; exact pops_le
  have sub : ∀ l' : List Item, l'.length ≤ l.length → peval (.int .sub) [.int .i64 (l.length : Int), .int .i64 (l'.length : Int)] = some (.int .i64 ((l.length : Int) - (l'.length : Int))) := fun l' hl' => pe_subI (by omega) (by omega)
  have hev : Ev cx 90 [v, .agg x.row] h fun r h' => ∃ u t, r = .tuple [u, .agg (doS x l).1.row, .int .i64 (doS x l).2.1] ∧ h' = h ++ t ∧ IsItems (doS x l).2.2 u := by
    unfold Ev
    rw [t90_eq, t90]
    simp only [amS, Nat.reduceAdd, Nat.reduceLeDiff, Nat.reduceEqDiff, ↓reduceIte, reduceCtorEq, fillAt, targetOf, itS, soS, hv'.lenM, ea, pe_mksl4, eb, r2.call, IsSl.lenM h2, r3.call, IsSl.lenM h3, sub _ l3, r4.call, IsSl.lenM h4, sub _ l4, r5.call, IsSl.lenM h5, sub _ l5, r6.call, IsSl.lenM h6, sub _ l6, r7.call, IsSl.lenM h7, sub _ l7, r8.call, r9.call, r10.call, f132_iff, sub _ (Nat.le_refl l.length), (f91 hv hb').call]
    refine ⟨fun k1 => ?_, fun k1 => ⟨fun k2 => ?_, fun k2 => ⟨fun k3 => ?_, fun k3 => ⟨fun k4 => ?_, fun k4 => ⟨fun k5 => ?_, fun k5 => ⟨fun k6 => ?_, fun k6 => ⟨fun k7 => ?_, fun k7 => ⟨fun k8 => ?_, fun k8 => ⟨fun k9 => ?_, fun k9 => ⟨fun k10 => ?_, fun k10 => ?_⟩⟩⟩⟩⟩⟩⟩⟩⟩⟩
    · exact ⟨_, rfl, .sl 4 ((l ++ [x.item x.node]).map Item.row), [], by simp [doS, k1], by simp, by simp only [doS, k1, if_true]; exact .mk⟩
    · have hc : cutL l ((l.length : Int) - 1) = if l.length < 2 then l else l.take (l.length - 1) := by
        unfold cutL
        split
        · rw [List.take_of_length_le (by omega)]
        · congr 1; omega
      rw [hc] at h2 ⊢
      have h91 : ∀ t, Ret cx 91 [v] (h ++ t) (.agg (topOf l).row) (h ++ t) := fun t => f91 hv hb'
      by_cases hl2 : l.length < 2
      · rw [if_pos hl2] at h2 ⊢
        refine ⟨fun _ => ⟨_, rfl, u2, t2, by simp [doS, k2, hl2], rfl, by simpa [doS, k2, hl2] using h2⟩, fun h => absurd rfl h⟩
      · rw [if_neg hl2] at h2 ⊢
        rw [List.length_take]
        refine ⟨fun h => by omega, fun _ => ?_⟩
        exact ⟨_, rfl, u2, t2, by simp [doS, k2, hl2], rfl, by simpa [doS, k2, hl2] using h2⟩
    · exact ⟨_, rfl, u3, t3, by simp [doS, k3], rfl, by simpa [doS, k3] using h3⟩
    · exact ⟨_, rfl, u4, t4, by simp [doS, k4], rfl, by simpa [doS, k4] using h4⟩
    · exact ⟨_, rfl, u5, t5, by simp [doS, k5], rfl, by simpa [doS, k5] using h5⟩
    · exact ⟨_, rfl, u6, t6, by simp [doS, k6], rfl, by simpa [doS, k6] using h6⟩
    · exact ⟨_, rfl, u7, t7, by simp [doS, k7], rfl, by simpa [doS, k7] using h7⟩
    · exact ⟨_, rfl, u8, t8, by simp [doS, k8], rfl, by simpa [doS, k8] using h8⟩
    · exact ⟨_, rfl, u9, t9, by simp [doS, k9], rfl, by simpa [doS, k9] using h9⟩
    · exact ⟨_, rfl, u10, [], by simp [doS, k10], by simp, by simpa [doS, k10] using h10⟩
    · exact ⟨_, rfl, v, [], by simp [doS, k1, k2, k3, k4, k5, k6, k7, k8, k9, k10], by simp, by simpa [doS, k1, k2, k3, k4, k5, k6, k7, k8, k9, k10] using hv⟩
  obtain ⟨r, h', hr, u, t, rfl, rfl, hu⟩ := hev.ret
  exact ⟨u, t, hr, hu⟩
end

theorem pops_pre {b a : Item → Bool} {l : List Item} : ∃ n, 1 ≤ n ∧ pops b a l = l.take n := by
  have key : ∀ r : List Item, ∃ n, 1 ≤ n ∧ n ≤ r.length + 1 ∧ pops b a r.reverse = r.reverse.take n := by
    intro r
    induction r with
    | nil => exact ⟨1, Nat.le_refl _, by simp, rfl⟩
    | cons x r ih =>
      rw [List.reverse_cons]
      rcases Nat.eq_zero_or_pos r.length with h0 | h0
      · have : r = [] := List.length_eq_zero_iff.1 h0
        subst this
        exact ⟨1, Nat.le_refl _, by simp, rfl⟩
      · have h1 : 1 ≤ r.reverse.length := by rw [List.length_reverse]; omega
        rw [pops_snoc h1]
        obtain ⟨n, q0, q1, q2⟩ := ih
        by_cases hb : b x = true
        · exact ⟨r.length + 1, by omega, by simp, by rw [if_pos hb, List.take_of_length_le (by simp)]⟩
        · rw [if_neg hb]
          by_cases ha : a x = true
          · exact ⟨r.length, by omega, by simp; omega, by rw [if_pos ha, List.take_append_of_le_length (by simp), List.take_of_length_le (by simp)]⟩
          · rw [if_neg ha, q2]
            rcases (show n ≤ r.length ∨ r.length < n by omega) with h2 | h2
            · exact ⟨n, q0, by simp; omega, by rw [List.take_append_of_le_length (by simpa using h2)]⟩
            · exact ⟨r.length, by omega, by simp; omega, by rw [List.take_append_of_le_length (by simp), List.take_of_length_le (by simp; omega), List.take_of_length_le (by simp)]⟩
  obtain ⟨n, h0, _, h⟩ := key l.reverse
  rw [List.reverse_reverse] at h
  exact ⟨n, h0, h⟩
/-- What an operation leaves: some first items, or the items with one less, or more, or another one, but the first. -/
theorem doS_cases (x : SOp) (l : List Item) : (∃ n, 1 ≤ n ∧ (doS x l).2.2 = l.take n ∧ ¬ (x.kind = 1 ∨ x.kind = 10)) ∨ ((x.kind = 1 ∨ x.kind = 10) ∧ ∃ k a, (1 ≤ k ∨ l = []) ∧ k ≤ l.length ∧ a.name = x.name ∧ (doS x l).2.2 = l.take k ++ a :: l.drop k) ∨
    (∃ k, 1 ≤ k ∧ k < l.length ∧ (doS x l).2.2 = dropAt l k ∧ ¬ (x.kind = 1 ∨ x.kind = 10)) ∨ (∃ k a, 1 ≤ k ∧ k < l.length ∧ a.name = x.name ∧ (doS x l).2.2 = l.set k a ∧ ¬ (x.kind = 1 ∨ x.kind = 10)) := by
  have all : ∀ (e : (doS x l).2.2 = l) (hk : ¬ (x.kind = 1 ∨ x.kind = 10)), ∃ n, 1 ≤ n ∧ (doS x l).2.2 = l.take n ∧ ¬ (x.kind = 1 ∨ x.kind = 10) := fun e hk => ⟨l.length + 1, by omega, by rw [e, List.take_of_length_le (by omega)], hk⟩
  by_cases k1 : x.kind = 1
  · refine .inr (.inl ⟨.inl k1, l.length, x.item x.node, ?_, Nat.le_refl _, rfl, by simp [doS, k1]⟩)
    cases l <;> simp
  by_cases k2 : x.kind = 2
  · by_cases hl2 : l.length < 2
    · exact .inl (all (by simp [doS, k2, hl2]) (by omega))
    · exact .inl ⟨l.length - 1, by omega, by simp [doS, k2, hl2], by omega⟩
  by_cases k3 : x.kind = 3
  · obtain ⟨n, h0, h⟩ := pops_pre (b := never) (a := isOne x.ns) (l := l)
    exact .inl ⟨n, h0, by simp [doS, k3, h], by omega⟩
  by_cases k4 : x.kind = 4
  · by_cases hneg : lastIdx (isNode x.node) l < 0
    · exact .inl (all (by simp [doS, k4, popNode, hneg]) (by omega))
    · obtain ⟨n, h0, h⟩ := pops_pre (b := never) (a := isNode x.node) (l := l)
      exact .inl ⟨n, h0, by simp [doS, k4, popNode, hneg, h], by omega⟩
  by_cases k5 : x.kind = 5
  · obtain ⟨n, h0, h⟩ := pops_pre (b := unimplied x.name) (a := never) (l := l)
    exact .inl ⟨n, h0, by simp [doS, k5, h], by omega⟩
  by_cases k6 : x.kind = 6
  · obtain ⟨n, h0, h⟩ := pops_pre (b := unthorough) (a := never) (l := l)
    exact .inl ⟨n, h0, by simp [doS, k6, h], by omega⟩
  by_cases k7 : x.kind = 7
  · obtain ⟨n, h0, h⟩ := pops_pre (b := isOne x.ns) (a := never) (l := l)
    exact .inl ⟨n, h0, by simp [doS, k7, h], by omega⟩
  by_cases k8 : x.kind = 8
  · by_cases hneg : lastIdx (isNode x.node) l < 1
    · exact .inl (all (by simp [doS, k8, removed, hneg]) (by omega))
    · rcases lastIdx_spec (q := isNode x.node) (l := l) with ⟨h1, _⟩ | ⟨k, hk, h1, _⟩
      · omega
      · exact .inr (.inr (.inl ⟨k, by omega, hk, by simp [doS, k8, removed, h1]; intro h; omega, by omega⟩))
  by_cases k9 : x.kind = 9
  · by_cases hneg : lastIdx (isNode x.node) l < 1
    · exact .inl (all (by simp [doS, k9, replaced, hneg]) (by omega))
    · rcases lastIdx_spec (q := isNode x.node) (l := l) with ⟨h1, _⟩ | ⟨k, hk, h1, _⟩
      · omega
      · exact .inr (.inr (.inr ⟨k, x.item x.to, by omega, hk, rfl, by simp [doS, k9, replaced, h1]; intro h; omega, by omega⟩))
  by_cases k10 : x.kind = 10
  · refine .inr (.inl ⟨.inr k10, insertPos x.pos l.length, x.item x.node, ?_, by unfold insertPos; omega, rfl, by simp [doS, k10]⟩)
    cases l with
    | nil => exact .inr rfl
    | cons a l => refine .inl ?_; unfold insertPos; simp only [List.length_cons]; omega
  · exact .inl (all (by simp [doS, k1, k2, k3, k4, k5, k6, k7, k8, k9, k10]) (by omega))
theorem doS_len (x : SOp) (l : List Item) : (doS x l).2.2.length ≤ l.length + 1 := by
  rcases doS_cases x l with ⟨n, _, e, _⟩ | ⟨_, k, a, _, hk, _, e⟩ | ⟨k, _, hk, e, _⟩ | ⟨k, a, _, hk, _, e, _⟩ <;> rw [e]
  · rw [List.length_take]; omega
  · rw [List.length_append, List.length_take, List.length_cons, List.length_drop]; omega
  · rw [dropAt, List.length_append, List.length_take, List.length_drop]; omega
  · rw [List.length_set]; omega
theorem doS_mem (x : SOp) (l : List Item) : ∀ a ∈ (doS x l).2.2, a ∈ l ∨ a.name = x.name := by
  intro b hb
  rcases doS_cases x l with ⟨n, _, e, _⟩ | ⟨_, k, a, _, hk, hn, e⟩ | ⟨k, _, hk, e, _⟩ | ⟨k, a, _, hk, hn, e, _⟩ <;> rw [e] at hb
  · exact .inl (List.mem_of_mem_take hb)
  · rcases List.mem_append.1 hb with hb | hb
    · exact .inl (List.mem_of_mem_take hb)
    · rcases List.mem_cons.1 hb with rfl | hb
      · exact .inr hn
      · exact .inl (List.mem_of_mem_drop hb)
  · rcases List.mem_append.1 hb with hb | hb
    · exact .inl (List.mem_of_mem_take hb)
    · exact .inl (List.mem_of_mem_drop hb)
  · rcases List.mem_or_eq_of_mem_set hb with hb | rfl
    · exact .inl hb
    · exact .inr hn

theorem ev_plays {v : AVal} {l : List SOp} (hv : IsSl 8 (l.map SOp.row) v) (hok : ∀ x ∈ l, x.ok) : Ev cx 18 [v] [] fun r _ => r = .bool true := by
  unfold Ev
  rw [t18_eq, t18]
  simp only [amS, Nat.reduceAdd, Nat.reduceLeDiff, Nat.reduceEqDiff, ↓reduceIte, reduceCtorEq, fillAt, targetOf, (f88 hv hok []).call, known_iff]
  rw [cndW_iff]
  refine ⟨fun _ => ⟨_, rfl, rfl⟩, fun h0 => ?_⟩
  have h0 : opsOk l := by simpa using h0
  have hlen := h0.1
  refine W_loop_st (fun p : Nat × AVal => [.bool false, p.2, .int .i64 (p.1 : Int)]) (fun p h1 => p.1 ≤ l.length ∧ ∃ w : List Item, IsItems w p.2 ∧ SObj h1 0 w ∧ w.length ≤ p.1 ∧ ∀ a ∈ w, a.name.length ≤ 60) (fun p => l.length - p.1) (0, .slnil) rfl ⟨Nat.zero_le _, [], .nil, ⟨.slnil, rfl, .nil⟩, by simp, by simp⟩ ?_
  rintro ⟨n, u⟩ h1 ⟨hn, w, hu, hs, hw, hwn⟩
  simp only at hn hu hw
  rcases Nat.lt_or_ge n l.length with hlt | hge
  · have i1 : (n : Int) < (l.length : Int) := by omega
    have hx := hok _ (List.getElem_mem hlt)
    have hb := h0.2 _ (List.getElem_mem hlt)
    have hns : (l[n]).ns.length ≤ 100000 := hb.2.few
    obtain ⟨h2, r1, hs2⟩ := f89 hs (by omega) hx hns
    obtain ⟨u2, t2, r2, hu2⟩ := f90 (h := h2) hu (by omega) (fun a ha => by have := hwn a ha; omega) hx hns
    have hs3 := hs2.app t2
    have hl3 := doS_len l[n] w
    obtain ⟨u3, r3, hu3⟩ : ∃ u3 v3, (h2 ++ t2)[0]? = some (.cells [v3]) ∧ Ret cx 68 [v3] (h2 ++ t2) u3 (h2 ++ t2) ∧ IsItems (doS l[n] w).2.2 u3 := by
      obtain ⟨v3, c3, i3⟩ := hs3
      obtain ⟨u3, r3, hu3⟩ := f68 (h := h2 ++ t2) i3 (by omega)
      exact ⟨u3, v3, c3, r3, hu3⟩
    obtain ⟨c3, r4, hu4⟩ := hu3
    simp only [amS, Nat.reduceAdd, Nat.reduceLeDiff, Nat.reduceEqDiff, ↓reduceIte, reduceCtorEq, fillAt, targetOf, itS, SOp.take_row, SOp.len_row, Nat.le_refl, hv.lenM, i1, not_true_eq_false, not_false_eq_true, true_implies, false_implies, hv.eaddrM hlt, r1.call, r2.call, item_neq, decide_true, bne_self_eq_false, ne_eq, (f34 hs3.at).call, IsSl.lenM hu2, (f33 hs3.at (show (doS l[n] w).2.2.length ≤ 100000 by omega)).call, (f32 _).call, (f91 hu2 (show (doS l[n] w).2.2.length ≤ 100000 by omega)).call, hload_at c3, Nat.add_zero, r4.call, (f67 hu4 hu2 (show (doS l[n] w).2.2.length ≤ 100000 by omega)).call, Bool.not_true, pe_inc (show n < 9223372036854775807 by omega)]
    refine LoopPost.next (n + 1, u2) rfl ⟨hlt, _, hu2, hs3, by simp only; omega, fun a ha => ?_⟩ (by simp only; omega)
    rcases doS_mem l[n] w a ha with h | h
    · exact hwn a h
    · rw [h]; exact hb.1
  · have i1 : ¬ (n : Int) < (l.length : Int) := by omega
    simp only [amS, Nat.reduceAdd, Nat.reduceLeDiff, Nat.reduceEqDiff, ↓reduceIte, reduceCtorEq, fillAt, targetOf, itS, hv.lenM, i1, not_false_eq_true, true_implies, false_implies, known_iff]
    exact ⟨_, rfl, rfl⟩
theorem all_plays : ∀ l, HasArgs [.sl tSOp] l → Ev cx 18 l [] fun r _ => r = .bool true := by
  rintro _ ⟨a, _, rfl, ha, rfl⟩
  obtain ⟨l, hv, hok⟩ := has_sops ha
  exact ev_plays hv hok
end Go.Am
