/-
  StackOwn as the abstract machine runs it: it returns true. No law is claimed here.
-/
import Derived.Test.YtejpjabbdkpmiaaDoorLLists
namespace Go.Am
open Go
set_option maxRecDepth 100000
set_option linter.unusedSimpArgs false
set_option linter.unusedVariables false

/-- Attributes in an object, or none. -/
def OwnAt (h : AHeap) (w : AVal) (l : List Attr) : Prop := (w = .slnil ∧ l = []) ∨ (w = .msl 0 0 l.length 3 ∧ h[0]? = some (.cells (l.map Attr.row).flatten))
theorem OwnAt.cells {h : AHeap} {w : AVal} {l : List Attr} (hw : OwnAt h w l) : w.cells = [w] := by
  rcases hw with ⟨rfl, _⟩ | ⟨rfl, _⟩ <;> rfl
theorem rowAt (l : List Attr) : ∀ r ∈ l.map Attr.row, r.length = 3 := map_rows (f := Attr.row) (fun a => Attr.len_row) l
/-- What stays of a heap when one object is changed and others are made. -/
def Keeps (h h' : AHeap) (id : Nat) : Prop := ∀ j, j ≠ id → j < h.length → h'[j]? = h[j]?
theorem OwnAt.keeps {h h' : AHeap} {w : AVal} {l : List Attr} {id : Nat} (hw : OwnAt h w l) (hk : Keeps h h' id) (h0 : w = .slnil ∨ 0 < id) : OwnAt h' w l := by
  rcases hw with ⟨rfl, rfl⟩ | ⟨rfl, hc⟩
  · exact .inl ⟨rfl, rfl⟩
  · rcases h0 with h0 | h0
    · cases h0
    · exact .inr ⟨rfl, by rw [hk 0 (by omega) (List.getElem?_eq_some_iff.1 hc).1]; exact hc⟩
theorem Keeps.set {h : AHeap} {id : Nat} {o : AObj} : Keeps h (h.set id o) id := fun j hj _ => List.getElem?_set_ne (fun e => hj e.symm)

section
variable {h : AHeap} {w : AVal} {l : List Attr} {s : List Fmt} {id : Nat}
theorem o164 (hw : OwnAt h w l) (hb : l.length ≤ 90000) : ∃ u, Ret cx 164 [w] h u h ∧ IsAttrs l u := by
  rcases hw with ⟨rfl, rfl⟩ | ⟨rfl, hc⟩
  · exact f164 (l := []) .nil (by simp)
  · refine ⟨.sl 3 (l.map Attr.row), ?_, .mk⟩
    have e1 : peval (.nileq false .sl) [.msl 0 0 l.length 3, .slnil] = some (.bool false) := rfl
    have e2 : peval (.mksl 3) [] = some (.sl 3 []) := rfl
    have hr := flat_all (rowAt l)
    rw [List.length_map] at hr
    have hl := flat_len (rowAt l)
    rw [List.length_map] at hl
    have e3 : happM h 3 40 (.sl 3 []) (.msl 0 0 l.length 3) = some (.sl 3 (l.map Attr.row)) := by
      have : rowsAt h 3 (.msl 0 0 l.length 3) = some (l.map Attr.row) := by
        simp only [rowsAt, if_true, hc]
        rw [if_pos (by rw [hl]; omega), hr]
      rw [happM, this, Option.bind_some]
      cases l with
      | nil => rfl
      | cons a l =>
        have : (l.length + 1) * 40 ≤ maxBytes := big40 (by simp at hb; omega)
        simp [appendTo, this]
    rw [ret_iff, t164_eq, t164]
    simp only [amS, Nat.reduceAdd, Nat.reduceLeDiff, Nat.reduceEqDiff, ↓reduceIte, reduceCtorEq, fillAt, targetOf, e1, e2, e3]
theorem o125 (hw : OwnAt h w l) (hb : l.length ≤ 90000) (n : Int) (name : Bytes) : ∃ e : Fmt, e.c = ⟨n, name, l⟩ ∧ Ret cx 125 [.agg [.int .i64 n, .str name, w]] h (.agg e.row) h := by
  obtain ⟨u, r, hu⟩ := o164 hw hb
  refine ⟨⟨⟨n, name, l⟩, u, hu⟩, rfl, ?_⟩
  rw [ret_iff, t125_eq, t125]
  simp only [amS, Nat.reduceAdd, Nat.reduceLeDiff, Nat.reduceEqDiff, ↓reduceIte, reduceCtorEq, fillAt, targetOf, hw.cells, r.call, IsSl.cells hu]
  rfl
/-- Push, to an empty list. -/
theorem o71 (hs : LObj h id []) (hw : OwnAt h w l) (hb : l.length ≤ 90000) {n : Int} (hn : n ≠ 0) (name : Bytes) :
    ∃ h' e, e.c = ⟨n, name, l⟩ ∧ Ret cx 71 [.ptr (some (id, 0)), .agg [.int .i64 n, .str name, w]] h (.tuple []) h' ∧ h'.length = h.length ∧ LObj h' id [e] ∧ Keeps h h' id := by
  obtain ⟨v, hc, hv⟩ := (show LObj h id [] from hs)
  have hv' : IsSl 3 (([] : List Fmt).map Fmt.row) v := hv
  obtain ⟨e, he, r1⟩ := o125 hw hb n name
  obtain ⟨u, r2, hu⟩ := f124 (h := h) hv e (Nat.le_refl ([] : List Fmt).length) (by simp)
  have i0 : ((([] : List Fmt).length : Nat) : Int) = 0 := rfl
  have r0 := f121 hc hv (by simp)
  rw [since_nil] at r0
  have hev : Ev cx 71 [.ptr (some (id, 0)), .agg [.int .i64 n, .str name, w]] h fun r h' => r = .tuple [] ∧ h' = h.set id (.cells [u]) := by
    unfold Ev
    rw [t71_eq, t71]
    have pm : peval (.int .sub) [.int .i64 0, .int .i64 1] = some (.int .i64 (-1)) := pe_subI (by decide) (by decide)
    have hl0 : peval (.len false) [v] = some (.int .i64 0) := hv'.lenM
    simp only [amS, Nat.reduceAdd, Nat.reduceLeDiff, Nat.reduceEqDiff, ↓reduceIte, reduceCtorEq, fillAt, targetOf, itS, bne_self_eq_false, Bool.bne_true, Bool.not_false, hn, hw.cells, ne_eq, not_true_eq_false, false_implies, true_implies, not_false_eq_true, hload_at hc, Nat.add_zero, hl0, pm]
    refine W_loop_st (fun _ : Unit => [.int .i64 0, .int .i64 0, .int .i64 (-1)]) (fun _ h1 => h1 = h) (fun _ => 0) () rfl rfl ?_
    rintro _ h1 rfl
    have r2' : Ret cx 124 [v, .agg e.row, .int .i64 0] h1 u h1 := r2
    simp only [amS, Nat.reduceAdd, Nat.reduceLeDiff, Nat.reduceEqDiff, ↓reduceIte, reduceCtorEq, fillAt, targetOf, itS, r0.call, show ¬ (0 : Int) ≤ -1 by decide, show ¬ (3 : Int) ≤ 0 by decide, ne_eq, not_true_eq_false, false_implies, true_implies, not_false_eq_true, hload_at hc, Nat.add_zero, hl0, r1.call, W_same_self, r2'.call, hstore1 hc (IsFmts.cells hu)]
    exact ⟨_, rfl, rfl⟩
  obtain ⟨r, h', hr, rfl, rfl⟩ := hev.ret
  exact ⟨_, e, he, hr, List.length_set, .of_set hs.lt hu, .set⟩
theorem o72 (hs : LObj h id s) (hbs : s.length ≤ 90000) (hw : OwnAt h w l) (hb : l.length ≤ 90000) (n : Int) (name : Bytes) (i : Int) :
    ∃ h' e, e.c = ⟨n, name, l⟩ ∧ Ret cx 72 [.ptr (some (id, 0)), .agg [.int .i64 n, .str name, w], .int .i64 i] h (.tuple []) h' ∧ h'.length = h.length ∧ LObj h' id (s.take (clampPos i s.length) ++ e :: s.drop (clampPos i s.length)) ∧ Keeps h h' id := by
  obtain ⟨v, hc, hv⟩ := (show LObj h id s from hs)
  obtain ⟨e, he, r1⟩ := o125 hw hb n name
  obtain ⟨u, hr, hu⟩ := f124 (h := h) hv e (k := clampPos i s.length) (by unfold clampPos; omega) (by omega)
  refine ⟨h.set id (.cells [u]), e, he, ?_, List.length_set, .of_set hs.lt hu, .set⟩
  have e1 : (if (s.length : Int) < (if i < 0 then 0 else i) then (s.length : Int) else (if i < 0 then 0 else i)) = ((clampPos i s.length : Nat) : Int) := by
    unfold clampPos; split <;> split <;> omega
  rw [ret_iff, t72_eq, t72]
  simp only [amS, Nat.reduceAdd, Nat.reduceLeDiff, Nat.reduceEqDiff, ↓reduceIte, reduceCtorEq, fillAt, targetOf, itS, hw.cells, bne_self_eq_false, Bool.bne_true, Bool.not_false, hload_at hc, Nat.add_zero, pe_max, IsSl.lenM hv, pe_min, e1, r1.call, W_same_self, hr.call, hstore1 hc (IsFmts.cells hu)]
theorem o73 (hs : LObj h id s) (hbs : s.length ≤ 90000) (hw : OwnAt h w l) (h0 : w = .slnil ∨ 0 < id) (hb : l.length ≤ 90000) (n : Int) (name : Bytes) {node : Int} {k : Nat} (hk : k < s.length) (h1 : entIdx node s = (k : Int)) :
    ∃ h' e, e.c = ⟨n, name, l⟩ ∧ Ret cx 73 [.ptr (some (id, 0)), .int .i64 node, .agg [.int .i64 n, .str name, w]] h (.bool true) h' ∧ h.length ≤ h'.length ∧ LObj h' id (s.set k e) ∧ Keeps h h' id := by
  obtain ⟨v, hc, hv⟩ := (show LObj h id s from hs)
  have hlt := hs.lt
  have hne : s ≠ [] := by intro e; subst e; simp at hk
  have hcl := f126 (h := h) hv hne (by omega)
  have c1 : (h ++ [AObj.cells (s.map Fmt.row).flatten])[id]? = some (.cells [v]) := by rw [List.getElem?_append_left hlt]; exact hc
  have s1 := hstore1 (u := .msl h.length 0 s.length 3) c1 rfl
  have hl2 : id < (h ++ [AObj.cells (s.map Fmt.row).flatten]).length := by simp; omega
  have c2 : ((h ++ [AObj.cells (s.map Fmt.row).flatten]).set id (.cells [.msl h.length 0 s.length 3]))[id]? = some (.cells [.msl h.length 0 s.length 3]) := List.getElem?_set_self hl2
  have hidne : id ≠ h.length := by omega
  have c3 : ((h ++ [AObj.cells (s.map Fmt.row).flatten]).set id (.cells [.msl h.length 0 s.length 3]))[h.length]? = some (.cells (s.map Fmt.row).flatten) := by
    rw [List.getElem?_set_ne hidne]; simp
  have k1 : Keeps h ((h ++ [AObj.cells (s.map Fmt.row).flatten]).set id (.cells [.msl h.length 0 s.length 3])) id := by
    intro j hj hjl
    rw [List.getElem?_set_ne (fun e => hj e.symm), List.getElem?_append_left hjl]
  obtain ⟨e', he', r1⟩ := o125 (hw.keeps k1 h0) hb n name
  have s2 := hstore_rows (z := 3) (rowF s) c3 (i := k) (by simpa using hk) (q := e'.row) rfl
  have e4 : peval (.eaddr 3) [.msl h.length 0 s.length 3, .int .i64 (k : Int)] = some (.ptr (some (h.length, k * 3))) := eaddr_msl hk
  generalize hh3 : ((h ++ [AObj.cells (s.map Fmt.row).flatten]).set id (.cells [.msl h.length 0 s.length 3])).set h.length (.cells ((s.map Fmt.row).set k e'.row).flatten) = h3 at s2
  have hl3 : h3.length = h.length + 1 := by rw [← hh3]; simp
  have c4 : h3[id]? = some (.cells [.msl h.length 0 s.length 3]) := by rw [← hh3, List.getElem?_set_ne (fun e => hidne e.symm)]; exact c2
  have c5 : h3[h.length]? = some (.cells ((s.map Fmt.row).set k e'.row).flatten) := by rw [← hh3]; exact List.getElem?_set_self (by simp)
  have f1 := hfrz_rows (set_rows (rowF s) (i := k) (q := e'.row) rfl) c5
  rw [List.length_set, List.length_map] at f1
  have e2 : hfrzAt h3 0 (.ptr (some (id, 0))) = some ((h3.set h.length .dead).set id (.cells [.sl 3 ((s.map Fmt.row).set k e'.row)])) := by
    simp only [hfrzAt, c4, Nat.zero_add, List.getElem?_cons_zero, f1, Option.bind_some]
    rw [List.getElem?_set_ne (fun e => hidne e.symm), c4]
    rfl
  refine ⟨(h3.set h.length .dead).set id (.cells [.sl 3 ((s.map Fmt.row).set k e'.row)]), e', he', ?_, by simp [hl3], ?_, ?_⟩
  · rw [ret_iff, t73_eq, t73]
    simp only [amS, Nat.reduceAdd, Nat.reduceLeDiff, Nat.reduceEqDiff, ↓reduceIte, reduceCtorEq, fillAt, targetOf, itS, hw.cells, (f82 hc hv (by omega) node).call, h1, show ¬ (k : Int) < 0 by omega, not_false_eq_true, true_implies, false_implies, hload_at hc, Nat.add_zero, hcl.call, s1, hload_at c2, r1.call, W_same_self, e4, s2, e2]
  · refine .of_set (by simp [hl3]; omega) ?_
    rw [← List.map_set]
    exact .mk
  · intro j hj hjl
    have hjn : j ≠ h.length := by omega
    rw [List.getElem?_set_ne (fun e => hj e.symm), List.getElem?_set_ne (fun e => hjn e.symm), ← hh3, List.getElem?_set_ne (fun e => hjn e.symm)]
    exact k1 j hj hjl
end

theorem flat_row2 (p q : List Attr) (a : Attr) : ((p ++ a :: q).map Attr.row).flatten = (p.map Attr.row).flatten ++ (a.row ++ (q.map Attr.row).flatten) := by simp
theorem load_value {h : AHeap} {p q : List Attr} {a : Attr} (hc : h[0]? = some (.cells ((p ++ a :: q).map Attr.row).flatten)) : hload h none (.ptr (some (0, p.length * 3 + 2))) = some (.str a.value) := by
  have hl := flat_len (rowAt p)
  rw [List.length_map] at hl
  rw [hload_at hc, flat_row2, partOf, List.getElem?_append_right (by rw [hl]; omega), hl, Nat.add_sub_cancel_left]
  rfl
theorem store_value {h : AHeap} {p q : List Attr} {a : Attr} (hc : h[0]? = some (.cells ((p ++ a :: q).map Attr.row).flatten)) (t : Bytes) : hstore h 1 (.ptr (some (0, p.length * 3 + 2))) (.str t) = some (h.set 0 (.cells ((p ++ (⟨a.space, a.name, t⟩ : Attr) :: q).map Attr.row).flatten)) := by
  have hl := flat_len (rowAt p)
  rw [List.length_map] at hl
  have e1 : ((p.map Attr.row).flatten ++ (a.row ++ (q.map Attr.row).flatten)).take (p.length * 3 + 2) = (p.map Attr.row).flatten ++ [.int .i64 a.space, .str a.name] := by
    rw [List.take_append, hl, List.take_of_length_le (by rw [hl]; omega), Nat.add_sub_cancel_left]
    rfl
  have e2 : ((p.map Attr.row).flatten ++ (a.row ++ (q.map Attr.row).flatten)).drop (p.length * 3 + 2 + 1) = (q.map Attr.row).flatten := by
    rw [List.drop_append, hl, List.drop_of_length_le (by rw [hl]; omega), List.nil_append, show p.length * 3 + 2 + 1 - p.length * 3 = 3 by omega]
    rfl
  simp only [hstore, hc, cells_str]
  rw [flat_row2, flat_row2, e1, e2]
  refine (if_pos ⟨rfl, by rw [List.length_append, List.length_append, hl, Attr.len_row]; omega⟩).trans ?_
  rw [List.append_assoc, List.append_assoc]
  rfl
theorem pe_sadd {a b : Bytes} (h : a.length + b.length ≤ 9223372036854775807) : peval (.str .add) [.str a, .str b] = some (.str (a ++ b)) := by
  simp [peval, strOp, h]
/-- What stands in the object of attributes, of which the last ones are as they were. -/
def Left (h : AHeap) (w : AVal) (l : List Attr) (n : Nat) : Prop := (w = .slnil ∧ l = []) ∨ (w = .msl 0 0 l.length 3 ∧ ∃ p, p.length = n ∧ h[0]? = some (.cells ((p ++ l.drop n).map Attr.row).flatten))
theorem ev_own {v : AVal} {l : List Attr} (hv : IsAttrs l v) (name : Bytes) : Ev cx 12 [v, .str name] [] fun r _ => r = .bool true := by
  have hv' : IsSl 3 (l.map Attr.row) v := hv
  unfold Ev
  rw [t12_eq, t12]
  simp only [amS, Nat.reduceAdd, Nat.reduceLeDiff, Nat.reduceEqDiff, ↓reduceIte, reduceCtorEq, fillAt, targetOf, (f41' hv []).call, known_iff]
  rw [cndW_iff]
  refine ⟨fun _ => ⟨_, rfl, rfl⟩, fun h0 => ⟨fun _ => ⟨_, rfl, rfl⟩, fun h1 => ?_⟩⟩
  have h0 : attrsOk l := by simpa using h0
  have hb : l.length ≤ 90000 := by have := h0.1; omega
  obtain ⟨hh, w, e0, ow, hid⟩ : ∃ hh w, hobjOf [] 3 40 .slnil v = some (hh, w) ∧ OwnAt hh w l ∧ (w = .slnil ∨ 0 < hh.length) := by
    by_cases hne : l = []
    · subst hne
      exact ⟨_, _, hobjOf_none (.inl rfl) hv, .inl ⟨rfl, rfl⟩, .inl rfl⟩
    · have e3 := hobjOf_some (h := []) (s := .slnil) (z := 3) (b := 40) (.inl rfl) hv (by simpa using hne) (by rw [List.length_map]; exact big40 (by omega))
      rw [List.length_map] at e3
      exact ⟨_, _, e3, .inr ⟨rfl, rfl⟩, .inr (by simp)⟩
  have ow1 : OwnAt (hh ++ [.cells [.slnil]]) w l := ow.keeps (id := hh.length) (fun j hj hjl => List.getElem?_append_left hjl) hid
  have ls1 : LObj (hh ++ [.cells [.slnil]]) hh.length [] := ⟨.slnil, by simp, .nil⟩
  obtain ⟨h2, e1, he1, r1, ln1, ls2, k2⟩ := o71 ls1 ow1 hb (n := 1) (by decide) name
  have ow2 := ow1.keeps k2 hid
  obtain ⟨h3, e2, he2, r2, ln2, ls3, k3⟩ := o72 ls2 (by simp) ow2 hb 2 name 1
  have ow3 := ow2.keeps k3 hid
  have ls3 : LObj h3 hh.length [e1, e2] := ls3
  have hx : entIdx 2 [e1, e2] = ((1 : Nat) : Int) := by
    unfold entIdx
    rw [if_neg (by decide), show [e1, e2] = [e1] ++ [e2] from rfl, lastIdx_snoc, if_pos (by simp [nodeIs, he2])]
    rfl
  obtain ⟨h4, e3, he3, r3, ln3, ls4, k4⟩ := o73 ls3 (by simp) ow3 hid hb 3 name (node := 2) (k := 1) (by simp) hx
  have ow4 := ow3.keeps k4 hid
  have ls4 : LObj h4 hh.length [e1, e3] := ls4
  simp only [amS, Nat.reduceAdd, Nat.reduceLeDiff, Nat.reduceEqDiff, ↓reduceIte, reduceCtorEq, fillAt, targetOf, itS, e0, ow.cells, r1.call, r2.call, r3.call]
  have ow4' : Left h4 w l 0 := by
    rcases ow4 with h | ⟨h, hc⟩
    · exact .inl h
    · exact .inr ⟨h, [], rfl, hc⟩
  have hlenw : ∀ {n : Nat} {h : AHeap}, Left h w l n → peval (.len false) [w] = some (.int .i64 (l.length : Int)) := by
    rintro n h (⟨rfl, rfl⟩ | ⟨rfl, _⟩) <;> rfl
  refine W_loop_st (fun n : Nat => [.int .i64 (n : Int)]) (fun n h => n ≤ l.length ∧ Left h w l n ∧ LObj h hh.length [e1, e3]) (fun n => l.length - n) 0 rfl ⟨Nat.zero_le _, ow4', ls4⟩ ?_
  rintro n h ⟨hn, hl, hs⟩
  rcases Nat.lt_or_ge n l.length with hlt | hge
  · have i1 : (n : Int) < (l.length : Int) := by omega
    rcases hl with ⟨_, rfl⟩ | ⟨rfl, p, hp, hc⟩
    · simp at hlt
    have hid : 0 < hh.length := by
      rcases hid with h | h
      · cases h
      · exact h
    have hlw : peval (.len false) [.msl 0 0 l.length 3] = some (.int .i64 (l.length : Int)) := rfl
    have ea : peval (.eaddr 3) [.msl 0 0 l.length 3, .int .i64 (n : Int)] = some (.ptr (some (0, n * 3))) := eaddr_msl hlt
    rw [List.drop_eq_getElem_cons hlt] at hc
    have hv2 := (h0.2 _ (List.getElem_mem hlt)).2
    have ld := load_value hc
    have st := store_value hc (l[n].value ++ [120])
    rw [hp] at ld st
    simp only [amS, Nat.reduceAdd, Nat.reduceLeDiff, Nat.reduceEqDiff, ↓reduceIte, reduceCtorEq, fillAt, targetOf, hlw, i1, not_true_eq_false, not_false_eq_true, true_implies, false_implies, ea, ld, pe_sadd (show l[n].value.length + [(120 : UInt8)].length ≤ 9223372036854775807 by simp; omega), st, pe_inc (show n < 9223372036854775807 by omega)]
    refine LoopPost.next (n + 1) rfl ⟨hlt, .inr ⟨rfl, p ++ [⟨l[n].space, l[n].name, l[n].value ++ [120]⟩], by simp [hp], ?_⟩, ?_⟩ (by omega)
    · rw [List.getElem?_set_self (List.getElem?_eq_some_iff.1 hc).1, List.append_assoc]
      rfl
    · obtain ⟨u, hc2, hu⟩ := hs
      exact ⟨u, by rw [List.getElem?_set_ne (by omega)]; exact hc2, hu⟩
  · have i1 : ¬ (n : Int) < (l.length : Int) := by omega
    obtain ⟨u, hc2, hu⟩ := hs
    have hwant : IsFmts [(⟨⟨1, name, l⟩, v, hv⟩ : Fmt), ⟨⟨3, name, l⟩, v, hv⟩] (.sl 3 [[.int .i64 1, .str name, v], [.int .i64 3, .str name, v]]) := .mk
    have r74 := f74 (h := h) hu hwant (by simp) (by
      intro x hx
      rcases List.mem_cons.1 hx with rfl | hx
      · unfold FOk; rw [he1]; exact (show l.length ≤ 100000 by omega)
      · rw [List.mem_singleton.1 hx]; unfold FOk; rw [he3]; exact (show l.length ≤ 100000 by omega))
    rw [decide_eq_true (show cores [e1, e3] = cores [(⟨⟨1, name, l⟩, v, hv⟩ : Fmt), ⟨⟨3, name, l⟩, v, hv⟩] by simp [cores, he1, he3])] at r74
    have mk2 : peval (.mksl 3) [.agg [.int .i64 1, .str name, v], .agg [.int .i64 3, .str name, v]] = some (.sl 3 [[.int .i64 1, .str name, v], [.int .i64 3, .str name, v]]) := rfl
    simp only [amS, Nat.reduceAdd, Nat.reduceLeDiff, Nat.reduceEqDiff, ↓reduceIte, reduceCtorEq, fillAt, targetOf, hlenw hl, i1, not_true_eq_false, not_false_eq_true, true_implies, false_implies, IsSl.cells hv, Nat.zero_lt_one, mk2, hload_at hc2, Nat.add_zero, r74.call, known_iff]
    exact ⟨_, rfl, rfl⟩
theorem all_own : ∀ l, HasArgs [.sl tAttr, .str] l → Ev cx 12 l [] fun r _ => r = .bool true := by
  rintro _ ⟨a, _, rfl, ha, b, _, rfl, hb, rfl⟩
  obtain ⟨l, hv⟩ := has_attrs ha
  obtain ⟨s, rfl⟩ := hasV_str hb
  exact ev_own hv s
end Go.Am
