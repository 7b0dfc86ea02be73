/-
  StackLists as the abstract machine runs it: it returns true. No law is claimed here.
-/
import Derived.Test.YtejpjabbdkpmiaaDoorSListRef
import Derived.Test.YtejpjabbdkpmiaaDoorLPlays
namespace Go.Am
open Go
set_option maxRecDepth 100000
set_option linter.unusedSimpArgs false
set_option linter.unusedVariables false

/-- One call for a list, with its attributes. -/
structure FEd where
  x : SEdit
  l : List Attr
  ok : IsAttrs l x.attrs
def FEd.row (a : FEd) : List AVal := [.int .i64 a.x.kind, .int .i64 a.x.node, .int .i64 a.x.to, .str a.x.name, a.x.attrs, .int .i64 a.x.pos]
def IsEds (l : List FEd) (v : AVal) : Prop := IsSl 6 (l.map FEd.row) v
theorem has_fed (r : List AVal) (h : Has tSEdit r) : ∃ a : FEd, r = a.row ∧ True := by
  obtain ⟨a, rfl, l, hl⟩ := has_sedit r h
  exact ⟨⟨a, l, hl⟩, rfl, trivial⟩
theorem has_feds {v : AVal} (h : HasV (.sl tSEdit) v) : ∃ l, IsEds l v := let ⟨l, h, _⟩ := has_sl has_fed h; ⟨l, h⟩
section
variable {a : FEd} {d : AVal}
theorem FEd.len_row : a.row.length = 6 := rfl
theorem FEd.take_row : a.row.take 6 = a.row := rfl
theorem FEd.g0 : a.row.getD 0 d = .int .i64 a.x.kind := rfl
theorem FEd.g1 : a.row.getD 1 d = .int .i64 a.x.node := rfl
theorem FEd.g2 : a.row.getD 2 d = .int .i64 a.x.to := rfl
theorem FEd.g3 : a.row.getD 3 d = .str a.x.name := rfl
theorem FEd.g4 : a.row.getD 4 d = a.x.attrs := rfl
theorem FEd.g5 : a.row.getD 5 d = .int .i64 a.x.pos := rfl
theorem FEd.at0 : a.row[0]? = some (.int .i64 a.x.kind) := rfl
theorem FEd.drop3 : a.row.drop 3 = [.str a.x.name, a.x.attrs, .int .i64 a.x.pos] := rfl
theorem FEd.drop4 : a.row.drop 4 = [a.x.attrs, .int .i64 a.x.pos] := rfl
theorem FEd.fold : [AVal.int .i64 a.x.kind, .int .i64 a.x.node, .int .i64 a.x.to, .str a.x.name, a.x.attrs, .int .i64 a.x.pos] = a.row := rfl
end
def FEd.ent (a : FEd) (node : Int) : Fmt := ⟨⟨node, a.x.name, a.l⟩, a.x.attrs, a.ok⟩
def edsOk (l : List FEd) : Prop := l.length ≤ 80 ∧ ∀ x ∈ l, x.x.name.length ≤ 60 ∧ attrsOk x.l
instance (l : List FEd) : Decidable (edsOk l) := by unfold edsOk; infer_instance

theorem f77 {v : AVal} {l : List FEd} (hv : IsEds l v) (h : AHeap) : Ret cx 77 [v] h (.bool (decide (edsOk l))) h := by
  have hv : IsSl 6 (l.map FEd.row) v := hv
  rw [ret_iff, t77_eq, t77]
  refine W_loop_st (fun n : Nat => [.bool false, .int .i64 (n : Int)]) (fun n h1 => n ≤ l.length ∧ n ≤ 81 ∧ (∀ x ∈ l.take n, x.x.name.length ≤ 60 ∧ attrsOk x.l) ∧ h1 = h) (fun n => l.length - n) 0 rfl ⟨Nat.zero_le _, Nat.zero_le _, by simp, rfl⟩ ?_
  rintro n h1 ⟨hn, hb, ha, rfl⟩
  rcases Nat.lt_or_ge n l.length with hlt | hge
  · have i1 : (n : Int) < (l.length : Int) := by omega
    simp only [amS, Nat.reduceAdd, Nat.reduceLeDiff, Nat.reduceEqDiff, ↓reduceIte, reduceCtorEq, fillAt, targetOf, hv.lenM, i1, not_true_eq_false, true_implies, false_implies]
    refine ⟨fun hb2 => ?_, fun hb2 => ?_⟩
    · have hn2 : n ≤ 80 := by omega
      simp only [amS, Nat.reduceAdd, Nat.reduceLeDiff, Nat.reduceEqDiff, ↓reduceIte, reduceCtorEq, fillAt, targetOf, FEd.drop3, FEd.drop4, hv.eaddrM hlt, hb2, not_true_eq_false, true_implies, false_implies, (f41' (l[n]).ok h1).call, pe_inc (show n < 9223372036854775807 by omega)]
      refine ⟨fun hc => ?_, fun hc0 => ?_⟩
      · have hno : ¬ edsOk l := fun hh => (by have := (hh.2 _ (List.getElem_mem hlt)).1; omega)
        simp only [decide_eq_false hno, and_self]
      rw [cndW_iff]
      refine ⟨fun hc => ?_, fun hc1 => ?_⟩
      · have hno : ¬ edsOk l := fun hh => (by have := (hh.2 _ (List.getElem_mem hlt)).2; simp [this] at hc)
        simp only [decide_eq_false hno, and_self]
      refine LoopPost.next (n + 1) rfl ⟨hlt, by omega, ?_, rfl⟩ (by omega)
      intro x hx
      rw [List.take_succ_eq_append_getElem hlt, List.mem_append, List.mem_singleton] at hx
      rcases hx with hx | rfl
      · exact ha x hx
      · exact ⟨by omega, by simpa using hc1⟩
    · have hn2 : ¬ n ≤ 80 := by omega
      have hno : ¬ edsOk l := fun hh => by have := hh.1; omega
      have hno2 : ¬ (l.length : Int) ≤ 80 := by omega
      simp only [amS, Nat.reduceAdd, Nat.reduceLeDiff, Nat.reduceEqDiff, ↓reduceIte, reduceCtorEq, fillAt, targetOf, hv.lenM, decide_eq_false hno, decide_eq_false hno2, and_self]
  · have i1 : ¬ (n : Int) < (l.length : Int) := by omega
    rw [List.take_of_length_le hge] at ha
    have e2 : decide ((l.length : Int) ≤ 80) = decide (edsOk l) := by
      rw [decide_eq_decide]
      exact ⟨fun h => ⟨by omega, ha⟩, fun h => by have := h.1; omega⟩
    simp only [amS, Nat.reduceAdd, Nat.reduceLeDiff, Nat.reduceEqDiff, ↓reduceIte, reduceCtorEq, fillAt, targetOf, hv.lenM, i1, not_false_eq_true, true_implies, false_implies, e2, and_self]
theorem f131 (a : FEd) (hb : a.l.length ≤ 100000) (node : Int) (h : AHeap) : ∃ e : Fmt, e.c = (a.ent node).c ∧ Ret cx 131 [.agg a.row, .int .i64 node] h (.agg e.row) h := by
  obtain ⟨u, r, hu⟩ := IsSl.appNil (f := Attr.row) a.ok (b := 40) (big40 (by omega))
  refine ⟨⟨⟨node, a.x.name, a.l⟩, u, hu⟩, rfl, ?_⟩
  rw [ret_iff, t131_eq, t131]
  simp only [amS, Nat.reduceAdd, Nat.reduceLeDiff, Nat.reduceEqDiff, ↓reduceIte, reduceCtorEq, fillAt, targetOf, itS, FEd.len_row, FEd.g0, FEd.g1, FEd.g2, FEd.g3, FEd.g4, FEd.g5, r, IsSl.cells hu]
  rfl

/-! What a list is, without the memory of its attributes. -/
def cores (l : List Fmt) : List FCor := l.map Fmt.c
theorem lastIdx_map {α β : Type} {f : α → β} {p : β → Bool} (l : List α) : lastIdx (fun a => p (f a)) l = lastIdx p (l.map f) := by
  have key : ∀ r : List α, lastIdx (fun a => p (f a)) r.reverse = lastIdx p (r.reverse.map f) := by
    intro r
    induction r with
    | nil => rfl
    | cons a r ih =>
      rw [List.reverse_cons, List.map_append, List.map_cons, List.map_nil, lastIdx_snoc, lastIdx_snoc, ih, List.length_map]
  have := key l.reverse
  rwa [List.reverse_reverse] at this
theorem since_cores {l w : List Fmt} (h : cores l = cores w) : since l = since w := by
  have e : ∀ l : List Fmt, since l = lastIdx (fun c : FCor => decide (c.node = 0)) (cores l) + 1 := fun l => by rw [since, cores, ← lastIdx_map]; rfl
  rw [e, e, h]
theorem entIdx_cores {l w : List Fmt} (h : cores l = cores w) (n : Int) : entIdx n l = entIdx n w := by
  have e : ∀ l : List Fmt, lastIdx (nodeIs n) l = lastIdx (fun c : FCor => decide (c.node = n)) (cores l) := fun l => by rw [cores, ← lastIdx_map]; rfl
  rw [entIdx, entIdx, e, e, h]
theorem cores_rev {l w : List Fmt} (h : cores l = cores w) : cores l.reverse = cores w.reverse := by
  unfold cores at h ⊢
  rw [List.map_reverse, List.map_reverse, h]
theorem cores_len {l w : List Fmt} (h : cores l = cores w) : l.length = w.length := by
  have := congrArg List.length h
  simpa [cores] using this
theorem R_cores {name : Bytes} {e : FCor} : ∀ {l w : List Fmt}, cores l = cores w → findR name l = findR name w ∧ cntR e l = cntR e w ∧ fstR e l = fstR e w
  | [], [], _ => ⟨rfl, rfl, rfl⟩
  | [], b :: w, h => by cases h
  | a :: l, [], h => by cases h
  | a :: l, b :: w, h => by
    have h' : a.c :: cores l = b.c :: cores w := h
    rw [List.cons.injEq] at h'
    obtain ⟨i1, i2, i3⟩ := R_cores (name := name) (e := e) h'.2
    have il := cores_len h'.2
    simp only [findR, cntR, fstR, h'.1, i1, i2, i3, il, and_self]
theorem findE_cores {l w : List Fmt} (h : cores l = cores w) (name : Bytes) : findE name l = findE name w := (R_cores (e := ⟨0, [], []⟩) (cores_rev h)).1
theorem cntE_cores {l w : List Fmt} (h : cores l = cores w) (e : FCor) : cntE e l = cntE e w := (R_cores (name := []) (cores_rev h)).2.1
theorem fstE_cores {l w : List Fmt} (h : cores l = cores w) (e : FCor) : fstE e l = fstE e w := (R_cores (name := []) (cores_rev h)).2.2
theorem cores_append (l w : List Fmt) : cores (l ++ w) = cores l ++ cores w := List.map_append ..
theorem cores_take (l : List Fmt) (n : Nat) : cores (l.take n) = (cores l).take n := List.map_take ..
theorem cores_drop (l : List Fmt) (n : Nat) : cores (l.drop n) = (cores l).drop n := List.map_drop ..
theorem cores_cons (a : Fmt) (l : List Fmt) : cores (a :: l) = a.c :: cores l := rfl
theorem cores_dropAt (l : List Fmt) (n : Nat) : cores (dropAt l n) = dropAt (cores l) n := by rw [dropAt, cores_append, cores_take, cores_drop]; rfl
theorem cores_set (l : List Fmt) (n : Nat) (a : Fmt) : cores (l.set n a) = (cores l).set n a.c := List.map_set ..
theorem cores_pushed {l w : List Fmt} (h : cores l = cores w) (e : FCor) : cores (pushed e l) = cores (pushed e w) := by
  unfold pushed
  rw [cntE_cores h, fstE_cores h]
  split
  · rw [cores_dropAt, cores_dropAt, h]
  · exact h

/-- What a call returns and leaves. -/
def resE (a : FEd) (l : List Fmt) : Int :=
  if a.x.kind = 3 then (l.length : Int) - ((clearLen l : Nat) : Int)
  else if a.x.kind = 4 ∨ a.x.kind = 5 then oneOf (decide (0 ≤ entIdx a.x.node l)) else 0
def doE (a : FEd) (l : List Fmt) : List Fmt :=
  if a.x.kind = 1 then pushed (a.ent a.x.node).c l ++ [a.ent a.x.node]
  else if a.x.kind = 2 then l ++ [markFmt]
  else if a.x.kind = 3 then l.take (clearLen l)
  else if a.x.kind = 4 then (if entIdx a.x.node l < 0 then l else dropAt l (entIdx a.x.node l).toNat)
  else if a.x.kind = 5 then (if entIdx a.x.node l < 0 then l else l.set (entIdx a.x.node l).toNat (a.ent a.x.to))
  else if a.x.kind = 6 then l.take (clampPos a.x.pos l.length) ++ a.ent a.x.node :: l.drop (clampPos a.x.pos l.length)
  else l
theorem resE_cores {l w : List Fmt} (h : cores l = cores w) (a : FEd) : resE a l = resE a w := by
  unfold resE clearLen
  rw [since_cores h, entIdx_cores h, cores_len h]
theorem doE_cores {l w : List Fmt} (h : cores l = cores w) (a : FEd) : cores (doE a l) = cores (doE a w) := by
  unfold doE clearLen
  rw [since_cores h, entIdx_cores h, cores_len h]
  split
  · rw [cores_append, cores_append, cores_pushed h]
  split
  · rw [cores_append, cores_append, h]
  split
  · rw [cores_take, cores_take, h]
  split
  · split
    · exact h
    · rw [cores_dropAt, cores_dropAt, h]
  split
  · split
    · exact h
    · rw [cores_set, cores_set, h]
  split
  · rw [cores_append, cores_append, cores_take, cores_take, cores_cons, cores_cons, cores_drop, cores_drop, h]
  · exact h
theorem dropAt_len (l : List Fmt) (k : Nat) : (dropAt l k).length ≤ l.length := by unfold dropAt; rw [List.length_append, List.length_take, List.length_drop]; omega
theorem doE_length (a : FEd) (l : List Fmt) : (doE a l).length ≤ l.length + 1 := by
  unfold doE
  have := pushed_length (a.ent a.x.node).c l
  have h2 := dropAt_len l (entIdx a.x.node l).toNat
  split
  · rw [List.length_append, List.length_singleton]; omega
  split
  · rw [List.length_append, List.length_singleton]; omega
  split
  · rw [List.length_take]; omega
  split
  · split <;> omega
  split
  · split
    · omega
    · rw [List.length_set]; omega
  split
  · rw [List.length_append, List.length_take, List.length_cons, List.length_drop]; omega
  · omega
theorem dropAt_mem {l : List Fmt} {k : Nat} {x : Fmt} (h : x ∈ dropAt l k) : x ∈ l := by
  unfold dropAt at h
  rcases List.mem_append.1 h with h | h
  · exact List.mem_of_mem_take h
  · exact List.mem_of_mem_drop h
theorem doE_fok {a : FEd} {l : List Fmt} (hl : ∀ x ∈ l, FOk x) (ha : a.l.length ≤ 100000) : ∀ x ∈ doE a l, FOk x := by
  have he : ∀ n, FOk (a.ent n) := fun n => ha
  have hm : FOk markFmt := by unfold FOk markFmt; simp
  have hp : ∀ x ∈ pushed (a.ent a.x.node).c l, FOk x := by
    unfold pushed
    split
    · exact fun x hx => hl x (dropAt_mem hx)
    · exact hl
  intro x hx
  unfold doE at hx
  split at hx
  · rcases List.mem_append.1 hx with h | h
    · exact hp x h
    · rw [List.mem_singleton.1 h]; exact he _
  split at hx
  · rcases List.mem_append.1 hx with h | h
    · exact hl x h
    · rw [List.mem_singleton.1 h]; exact hm
  split at hx
  · exact hl x (List.mem_of_mem_take hx)
  split at hx
  · split at hx
    · exact hl x hx
    · exact hl x (dropAt_mem hx)
  split at hx
  · split at hx
    · exact hl x hx
    · rcases List.mem_or_eq_of_mem_set hx with h | h
      · exact hl x h
      · rw [h]; exact he _
  split at hx
  · rcases List.mem_append.1 hx with h | h
    · exact hl x (List.mem_of_mem_take h)
    · rcases List.mem_cons.1 h with h | h
      · rw [h]; exact he _
      · exact hl x (List.mem_of_mem_drop h)
  · exact hl x hx
theorem fok_cores {l w : List Fmt} (h : cores l = cores w) (hl : ∀ x ∈ l, FOk x) : ∀ x ∈ w, FOk x := by
  intro x hx
  have : x.c ∈ cores w := List.mem_map_of_mem hx
  rw [← h] at this
  obtain ⟨y, hy, e⟩ := List.mem_map.1 this
  have := hl y hy
  unfold FOk at this ⊢
  rwa [e] at this

section
variable {h : AHeap} {v : AVal} {l : List Fmt} {id : Nat}
theorem f78 (hs : LObj h id l) (hb : l.length ≤ 80000) (hl : ∀ x ∈ l, FOk x) (a : FEd) (ha : a.l.length ≤ 100000) :
    ∃ h' l', Ret cx 78 [.ptr (some (id, 0)), .agg a.row] h (.int .i64 (resE a l)) h' ∧ h.length ≤ h'.length ∧ LObj h' id l' ∧ cores l' = cores (doE a l) := by
  obtain ⟨e1, he1, r1⟩ := f131 a ha a.x.node h
  obtain ⟨e2, he2, r2⟩ := f131 a ha a.x.to h
  have k1 : FOk e1 := by unfold FOk; rw [he1]; exact ha
  have k2 : FOk e2 := by unfold FOk; rw [he2]; exact ha
  obtain ⟨hA, eA, cA, rA, lA, sA⟩ := f71 hs (by omega) hl k1
  obtain ⟨hB, rB, lB, sB⟩ := f94 hs (by omega)
  obtain ⟨hC, rC, lC, sC⟩ := f95 hs (by omega)
  obtain ⟨hD, rD, lD, sD⟩ := f133 hs (by omega) a.x.node
  obtain ⟨hE, eE, cE, rE, lE, sE⟩ := f73 hs (by omega) a.x.node k2
  obtain ⟨hF, eF, cF, rF, lF, sF⟩ := f72 hs (by omega) k1 a.x.pos
  by_cases c1 : a.x.kind = 1
  · refine ⟨hA, _, ?_, by omega, sA, ?_⟩
    · rw [ret_iff, t78_eq, t78]
      simp only [amS, Nat.reduceAdd, Nat.reduceLeDiff, Nat.reduceEqDiff, ↓reduceIte, reduceCtorEq, fillAt, targetOf, itS, FEd.len_row, FEd.g0, FEd.g1, FEd.g2, FEd.g3, FEd.g4, FEd.g5, FEd.fold, c1, resE, show ¬ (1 : Int) = 3 by decide, show ¬ (1 : Int) = 4 by decide, show ¬ (1 : Int) = 5 by decide, or_self, not_true_eq_false, not_false_eq_true, true_implies, false_implies]
      rw [← c1, FEd.fold]
      simp only [amS, Nat.reduceAdd, Nat.reduceLeDiff, Nat.reduceEqDiff, ↓reduceIte, reduceCtorEq, fillAt, targetOf, r1.call, rA.call]
    · simp only [doE, if_pos c1, cores_append, cores_cons, cA, he1]
  by_cases c2 : a.x.kind = 2
  · refine ⟨hB, _, ?_, by omega, sB, ?_⟩
    · rw [ret_iff, t78_eq, t78]
      simp only [amS, Nat.reduceAdd, Nat.reduceLeDiff, Nat.reduceEqDiff, ↓reduceIte, reduceCtorEq, fillAt, targetOf, itS, FEd.len_row, FEd.g0, FEd.g1, FEd.g2, FEd.g3, FEd.g4, FEd.g5, FEd.fold, c2, resE, show ¬ (2 : Int) = 1 by decide, show ¬ (2 : Int) = 3 by decide, show ¬ (2 : Int) = 4 by decide, show ¬ (2 : Int) = 5 by decide, or_self, not_true_eq_false, not_false_eq_true, true_implies, false_implies, rB.call]
    · simp only [doE, if_neg c1, if_pos c2]
  by_cases c3 : a.x.kind = 3
  · refine ⟨hC, _, ?_, by omega, sC, ?_⟩
    · rw [ret_iff, t78_eq, t78]
      simp only [amS, Nat.reduceAdd, Nat.reduceLeDiff, Nat.reduceEqDiff, ↓reduceIte, reduceCtorEq, fillAt, targetOf, itS, FEd.len_row, FEd.g0, FEd.g1, FEd.g2, FEd.g3, FEd.g4, FEd.g5, FEd.fold, c3, resE, show ¬ (3 : Int) = 1 by decide, show ¬ (3 : Int) = 2 by decide, not_true_eq_false, not_false_eq_true, true_implies, false_implies, rC.call]
    · simp only [doE, if_neg c1, if_neg c2, if_pos c3]
  by_cases c4 : a.x.kind = 4
  · refine ⟨hD, _, ?_, by omega, sD, ?_⟩
    · rw [ret_iff, t78_eq, t78]
      simp only [amS, Nat.reduceAdd, Nat.reduceLeDiff, Nat.reduceEqDiff, ↓reduceIte, reduceCtorEq, fillAt, targetOf, itS, FEd.len_row, FEd.g0, FEd.g1, FEd.g2, FEd.g3, FEd.g4, FEd.g5, FEd.fold, c4, resE, show ¬ (4 : Int) = 1 by decide, show ¬ (4 : Int) = 2 by decide, show ¬ (4 : Int) = 3 by decide, true_or, not_true_eq_false, not_false_eq_true, true_implies, false_implies, rD.call, f132_iff]
    · simp only [doE, if_neg c1, if_neg c2, if_neg c3, if_pos c4]
  by_cases c5 : a.x.kind = 5
  · refine ⟨hE, _, ?_, by omega, sE, ?_⟩
    · rw [ret_iff, t78_eq, t78]
      simp only [amS, Nat.reduceAdd, Nat.reduceLeDiff, Nat.reduceEqDiff, ↓reduceIte, reduceCtorEq, fillAt, targetOf, itS, FEd.len_row, FEd.g0, FEd.g1, FEd.g2, FEd.g3, FEd.g4, FEd.g5, FEd.fold, c5, resE, show ¬ (5 : Int) = 1 by decide, show ¬ (5 : Int) = 2 by decide, show ¬ (5 : Int) = 3 by decide, show ¬ (5 : Int) = 4 by decide, or_true, not_true_eq_false, not_false_eq_true, true_implies, false_implies]
      rw [← c5, FEd.fold]
      simp only [amS, Nat.reduceAdd, Nat.reduceLeDiff, Nat.reduceEqDiff, ↓reduceIte, reduceCtorEq, fillAt, targetOf, r2.call, rE.call, f132_iff]
    · simp only [doE, if_neg c1, if_neg c2, if_neg c3, if_neg c4, if_pos c5]
      split
      · rfl
      · rw [cores_set, cores_set, cE, he2]
  by_cases c6 : a.x.kind = 6
  · refine ⟨hF, _, ?_, by omega, sF, ?_⟩
    · rw [ret_iff, t78_eq, t78]
      simp only [amS, Nat.reduceAdd, Nat.reduceLeDiff, Nat.reduceEqDiff, ↓reduceIte, reduceCtorEq, fillAt, targetOf, itS, FEd.len_row, FEd.g0, FEd.g1, FEd.g2, FEd.g3, FEd.g4, FEd.g5, FEd.fold, c6, resE, show ¬ (6 : Int) = 1 by decide, show ¬ (6 : Int) = 2 by decide, show ¬ (6 : Int) = 3 by decide, show ¬ (6 : Int) = 4 by decide, show ¬ (6 : Int) = 5 by decide, or_self, not_true_eq_false, not_false_eq_true, true_implies, false_implies]
      rw [← c6, FEd.fold]
      simp only [amS, Nat.reduceAdd, Nat.reduceLeDiff, Nat.reduceEqDiff, ↓reduceIte, reduceCtorEq, fillAt, targetOf, r1.call, rF.call]
    · simp only [doE, if_neg c1, if_neg c2, if_neg c3, if_neg c4, if_neg c5, if_pos c6, cores_append, cores_cons, cF, he1]
  · refine ⟨h, l, ?_, Nat.le_refl _, hs, ?_⟩
    · rw [ret_iff, t78_eq, t78]
      simp only [amS, Nat.reduceAdd, Nat.reduceLeDiff, Nat.reduceEqDiff, ↓reduceIte, reduceCtorEq, fillAt, targetOf, itS, FEd.len_row, FEd.g0, FEd.g1, FEd.g2, FEd.g3, FEd.g4, FEd.g5, FEd.fold, c1, c2, c3, c4, c5, c6, resE, or_self, not_true_eq_false, not_false_eq_true, true_implies, false_implies]
    · simp only [doE, if_neg c1, if_neg c2, if_neg c3, if_neg c4, if_neg c5, if_neg c6]
theorem f79 (hv : IsFmts l v) (hb : l.length ≤ 80000) (hl : ∀ x ∈ l, FOk x) (a : FEd) (ha : a.l.length ≤ 100000) :
    ∃ u l', Ret cx 79 [v, .agg a.row] h (.tuple [u, .int .i64 (resE a l)]) h ∧ IsFmts l' u ∧ cores l' = cores (doE a l) := by
  have hv' : IsSl 3 (l.map Fmt.row) v := hv
  obtain ⟨e1, he1, r1⟩ := f131 a ha a.x.node h
  obtain ⟨e2, he2, r2⟩ := f131 a ha a.x.to h
  have k1 : FOk e1 := by unfold FOk; rw [he1]; exact ha
  have k2 : FOk e2 := by unfold FOk; rw [he2]; exact ha
  by_cases c1 : a.x.kind = 1
  · obtain ⟨uA, eA, cA, rA, sA⟩ := f134 (h := h) hv (by omega) hl k1
    refine ⟨uA, _, ?_, sA, ?_⟩
    · rw [ret_iff, t79_eq, t79]
      simp only [amS, Nat.reduceAdd, Nat.reduceLeDiff, Nat.reduceEqDiff, ↓reduceIte, reduceCtorEq, fillAt, targetOf, itS, FEd.len_row, FEd.g0, FEd.g1, FEd.g2, FEd.g3, FEd.g4, FEd.g5, FEd.fold, c1, resE, show ¬ (1 : Int) = 3 by decide, show ¬ (1 : Int) = 4 by decide, show ¬ (1 : Int) = 5 by decide, or_self, not_true_eq_false, not_false_eq_true, true_implies, false_implies]
      rw [← c1, FEd.fold]
      simp only [amS, Nat.reduceAdd, Nat.reduceLeDiff, Nat.reduceEqDiff, ↓reduceIte, reduceCtorEq, fillAt, targetOf, r1.call, rA.call]
    · simp only [doE, if_pos c1, cores_append, cores_cons, cA, he1]
  by_cases c2 : a.x.kind = 2
  · obtain ⟨uA, eA, cA, rA, sA⟩ := f135 (h := h) hv (by omega) (e := markFmt) (by unfold FOk markFmt; simp) (l.length : Int)
    have hcl : clampPos (l.length : Int) l.length = l.length := by unfold clampPos; omega
    rw [hcl, List.take_length, List.drop_length] at sA
    refine ⟨uA, _, ?_, sA, ?_⟩
    · rw [ret_iff, t79_eq, t79]
      simp only [amS, Nat.reduceAdd, Nat.reduceLeDiff, Nat.reduceEqDiff, ↓reduceIte, reduceCtorEq, fillAt, targetOf, itS, FEd.len_row, FEd.g0, FEd.g1, FEd.g2, FEd.g3, FEd.g4, FEd.g5, FEd.fold, c2, resE, show ¬ (2 : Int) = 1 by decide, show ¬ (2 : Int) = 3 by decide, show ¬ (2 : Int) = 4 by decide, show ¬ (2 : Int) = 5 by decide, or_self, not_true_eq_false, not_false_eq_true, true_implies, false_implies, hv'.lenM, mark_row, rA.call]
    · simp only [doE, if_neg c1, if_pos c2, cores_append, cores_cons, cA]
  by_cases c3 : a.x.kind = 3
  · obtain ⟨uA, rA, sA⟩ := f136 (h := h) hv (by omega)
    have hcl : clearLen l ≤ l.length := by obtain ⟨s, es, hs1, _⟩ := since_spec l; unfold clearLen; omega
    have hln : (l.take (clearLen l)).length = clearLen l := by rw [List.length_take]; omega
    refine ⟨uA, _, ?_, sA, ?_⟩
    · rw [ret_iff, t79_eq, t79]
      simp only [amS, Nat.reduceAdd, Nat.reduceLeDiff, Nat.reduceEqDiff, ↓reduceIte, reduceCtorEq, fillAt, targetOf, itS, FEd.len_row, FEd.g0, FEd.g1, FEd.g2, FEd.g3, FEd.g4, FEd.g5, FEd.fold, c3, resE, show ¬ (3 : Int) = 1 by decide, show ¬ (3 : Int) = 2 by decide, not_true_eq_false, not_false_eq_true, true_implies, false_implies, rA.call, hv'.lenM, IsSl.lenM sA, hln, pe_subI (show -9223372036854775808 ≤ (l.length : Int) - ((clearLen l : Nat) : Int) by omega) (show (l.length : Int) - ((clearLen l : Nat) : Int) < 9223372036854775808 by omega)]
    · simp only [doE, if_neg c1, if_neg c2, if_pos c3]
  by_cases c4 : a.x.kind = 4
  · rcases entIdx_spec a.x.node l with h1 | ⟨k, hk, h1⟩
    · refine ⟨v, l, ?_, hv, ?_⟩
      · rw [ret_iff, t79_eq, t79]
        simp only [amS, Nat.reduceAdd, Nat.reduceLeDiff, Nat.reduceEqDiff, ↓reduceIte, reduceCtorEq, fillAt, targetOf, itS, FEd.len_row, FEd.g0, FEd.g1, FEd.g2, FEd.g3, FEd.g4, FEd.g5, FEd.fold, c4, resE, show ¬ (4 : Int) = 1 by decide, show ¬ (4 : Int) = 2 by decide, show ¬ (4 : Int) = 3 by decide, true_or, not_true_eq_false, not_false_eq_true, true_implies, false_implies, (f83 hv (by omega) _).call, h1, show (-1 : Int) < 0 by decide]
        rfl
      · simp only [doE, if_neg c1, if_neg c2, if_neg c3, if_pos c4, h1, show (-1 : Int) < 0 by decide, if_true]
    · obtain ⟨uA, rA, sA⟩ := f137 (h := h) hv (by omega) hk
      refine ⟨uA, _, ?_, sA, ?_⟩
      · rw [ret_iff, t79_eq, t79]
        simp only [amS, Nat.reduceAdd, Nat.reduceLeDiff, Nat.reduceEqDiff, ↓reduceIte, reduceCtorEq, fillAt, targetOf, itS, FEd.len_row, FEd.g0, FEd.g1, FEd.g2, FEd.g3, FEd.g4, FEd.g5, FEd.fold, c4, resE, show ¬ (4 : Int) = 1 by decide, show ¬ (4 : Int) = 2 by decide, show ¬ (4 : Int) = 3 by decide, true_or, not_true_eq_false, not_false_eq_true, true_implies, false_implies, (f83 hv (by omega) _).call, h1, show ¬ (k : Int) < 0 by omega, rA.call, show (0 : Int) ≤ (k : Int) by omega, decide_true]
        rfl
      · simp only [doE, if_neg c1, if_neg c2, if_neg c3, if_pos c4, h1, show ¬ (k : Int) < 0 by omega, if_false, Int.toNat_natCast]
  by_cases c5 : a.x.kind = 5
  · obtain ⟨uA, eA, cA, rA, sA⟩ := f138 (h := h) hv (by omega) a.x.node k2
    refine ⟨uA, _, ?_, sA, ?_⟩
    · rw [ret_iff, t79_eq, t79]
      simp only [amS, Nat.reduceAdd, Nat.reduceLeDiff, Nat.reduceEqDiff, ↓reduceIte, reduceCtorEq, fillAt, targetOf, itS, FEd.len_row, FEd.g0, FEd.g1, FEd.g2, FEd.g3, FEd.g4, FEd.g5, FEd.fold, c5, resE, show ¬ (5 : Int) = 1 by decide, show ¬ (5 : Int) = 2 by decide, show ¬ (5 : Int) = 3 by decide, show ¬ (5 : Int) = 4 by decide, or_true, not_true_eq_false, not_false_eq_true, true_implies, false_implies]
      rw [← c5, FEd.fold]
      simp only [amS, Nat.reduceAdd, Nat.reduceLeDiff, Nat.reduceEqDiff, ↓reduceIte, reduceCtorEq, fillAt, targetOf, r2.call, rA.call, f132_iff]
    · simp only [doE, if_neg c1, if_neg c2, if_neg c3, if_neg c4, if_pos c5]
      split
      · rfl
      · rw [cores_set, cores_set, cA, he2]
  by_cases c6 : a.x.kind = 6
  · obtain ⟨uA, eA, cA, rA, sA⟩ := f135 (h := h) hv (by omega) k1 a.x.pos
    refine ⟨uA, _, ?_, sA, ?_⟩
    · rw [ret_iff, t79_eq, t79]
      simp only [amS, Nat.reduceAdd, Nat.reduceLeDiff, Nat.reduceEqDiff, ↓reduceIte, reduceCtorEq, fillAt, targetOf, itS, FEd.len_row, FEd.g0, FEd.g1, FEd.g2, FEd.g3, FEd.g4, FEd.g5, FEd.fold, c6, resE, show ¬ (6 : Int) = 1 by decide, show ¬ (6 : Int) = 2 by decide, show ¬ (6 : Int) = 3 by decide, show ¬ (6 : Int) = 4 by decide, show ¬ (6 : Int) = 5 by decide, or_self, not_true_eq_false, not_false_eq_true, true_implies, false_implies]
      rw [← c6, FEd.fold]
      simp only [amS, Nat.reduceAdd, Nat.reduceLeDiff, Nat.reduceEqDiff, ↓reduceIte, reduceCtorEq, fillAt, targetOf, r1.call, rA.call]
    · simp only [doE, if_neg c1, if_neg c2, if_neg c3, if_neg c4, if_neg c5, if_pos c6, cores_append, cores_cons, cA, he1]
  · refine ⟨v, l, ?_, hv, ?_⟩
    · rw [ret_iff, t79_eq, t79]
      simp only [amS, Nat.reduceAdd, Nat.reduceLeDiff, Nat.reduceEqDiff, ↓reduceIte, reduceCtorEq, fillAt, targetOf, itS, FEd.len_row, FEd.g0, FEd.g1, FEd.g2, FEd.g3, FEd.g4, FEd.g5, FEd.fold, c1, c2, c3, c4, c5, c6, resE, or_self, not_true_eq_false, not_false_eq_true, true_implies, false_implies]
    · simp only [doE, if_neg c1, if_neg c2, if_neg c3, if_neg c4, if_neg c5, if_neg c6]
theorem FCor.ext3 {a b : FCor} (h1 : a.node = b.node) (h2 : a.name = b.name) (h3 : a.attrs = b.attrs) : a = b := by
  cases a; cases b; simp only at h1 h2 h3; rw [h1, h2, h3]
/-- SameEntries. -/
theorem f74 {w : AVal} {l2 : List Fmt} (hv : IsFmts l v) (hw : IsFmts l2 w) (hb : l.length ≤ 100000) (hl : ∀ x ∈ l, FOk x) : Ret cx 74 [v, w] h (.bool (decide (cores l = cores l2))) h := by
  have hv' : IsSl 3 (l.map Fmt.row) v := hv
  have hw' : IsSl 3 (l2.map Fmt.row) w := hw
  have hev : Ev cx 74 [v, w] h fun r h' => h' = h ∧ r = .bool (decide (cores l = cores l2)) := by
    unfold Ev
    rw [t74_eq, t74]
    simp only [amS, Nat.reduceAdd, Nat.reduceLeDiff, Nat.reduceEqDiff, ↓reduceIte, reduceCtorEq, fillAt, targetOf, hv'.lenM, hw'.lenM]
    refine ⟨fun h0 => ?_, fun h0 => ?_⟩
    · have : ¬ cores l = cores l2 := fun e => h0 (by rw [cores_len e])
      exact ⟨_, rfl, by rw [decide_eq_false this]⟩
    · have hlen : l.length = l2.length := by omega
      refine W_loop_st (fun n : Nat => [.bool false, .int .i64 (n : Int)]) (fun n h1 => n ≤ l.length ∧ cores (l.take n) = cores (l2.take n) ∧ h1 = h) (fun n => l.length - n) 0 rfl ⟨Nat.zero_le _, rfl, rfl⟩ ?_
      rintro n h1 ⟨hn, ha, rfl⟩
      rcases Nat.lt_or_ge n l.length with hlt | hge
      · have i1 : (n : Int) < (l.length : Int) := by omega
        have hlt2 : n < l2.length := by omega
        have hfk : (l[n]).c.attrs.length ≤ 100000 := hl _ (List.getElem_mem hlt)
        have no : ¬ l[n].c = l2[n].c → ¬ cores l = cores l2 := fun hne e => by
          have e1 : (cores l)[n]? = (cores l2)[n]? := by rw [e]
          simp only [cores, List.getElem?_map, List.getElem?_eq_getElem hlt, List.getElem?_eq_getElem hlt2, Option.map_some, Option.some.injEq] at e1
          exact hne e1
        have inc := pe_inc (show n < 9223372036854775807 by omega)
        simp only [amS, Nat.reduceAdd, Nat.reduceLeDiff, Nat.reduceEqDiff, ↓reduceIte, reduceCtorEq, fillAt, targetOf, hv'.lenM, i1, not_true_eq_false, true_implies, false_implies, hv'.eaddrM hlt, hw'.eaddrM hlt2, Fmt.at0, Fmt.drop1, Fmt.drop2, Fmt.len_row, Fmt.lenA]
        refine ⟨fun k0 => ⟨_, rfl, by rw [decide_eq_false (no fun e => k0 (by rw [e]))]⟩, fun k0 => ⟨fun k1 => ⟨_, rfl, by rw [decide_eq_false (no fun e => k1 (by rw [e]))]⟩, fun k1 => ⟨fun k2 => ⟨_, rfl, by rw [decide_eq_false (no fun e => k2 (by rw [e]))]⟩, fun k2 => ?_⟩⟩⟩
        have k0 : l[n].c.node = l2[n].c.node := by simpa using k0
        have k1 : l[n].c.name = l2[n].c.name := by simpa using k1
        have k2 : l[n].c.attrs.length = l2[n].c.attrs.length := by omega
        have va : IsSl 3 ((l[n]).c.attrs.map Attr.row) (l[n]).v := (l[n]).ok
        have vb : IsSl 3 ((l2[n]).c.attrs.map Attr.row) (l2[n]).v := (l2[n]).ok
        refine W_loop_st (fun m : Nat => [.bool false, .int .i64 (m : Int)]) (fun m h2 => m ≤ l[n].c.attrs.length ∧ l[n].c.attrs.take m = l2[n].c.attrs.take m ∧ h2 = h1) (fun m => l[n].c.attrs.length - m) 0 rfl ⟨Nat.zero_le _, rfl, rfl⟩ ?_
        rintro m h2 ⟨hm, hb1, rfl⟩
        rcases Nat.lt_or_ge m l[n].c.attrs.length with hml | hmg
        · have i2 : (m : Int) < ((l[n]).c.attrs.length : Int) := by omega
          have hml2 : m < l2[n].c.attrs.length := by omega
          simp only [amS, Nat.reduceAdd, Nat.reduceLeDiff, Nat.reduceEqDiff, ↓reduceIte, reduceCtorEq, fillAt, targetOf, hv'.eaddrM hlt, hw'.eaddrM hlt2, Fmt.drop2, Fmt.lenA, i2, not_true_eq_false, true_implies, false_implies, va.eaddrM hml, vb.eaddrM hml2, Attr.len_row, Attr.take_row, Nat.le_refl, attr_neq, pe_inc (show m < 9223372036854775807 by omega)]
          rw [cndW_iff]
          refine ⟨fun he => ?_, fun he => ?_⟩
          · have hne : ¬ l[n].c.attrs[m] = l2[n].c.attrs[m] := by simpa using he
            exact ⟨_, rfl, by
              rw [decide_eq_false (no fun e => hne (by
                have e1 : l[n].c.attrs[m]? = l2[n].c.attrs[m]? := by rw [e]
                rwa [List.getElem?_eq_getElem hml, List.getElem?_eq_getElem hml2, Option.some.injEq] at e1))]⟩
          · have he : l[n].c.attrs[m] = l2[n].c.attrs[m] := by simpa using he
            exact LoopPost.next (m + 1) rfl ⟨hml, by rw [List.take_succ_eq_append_getElem hml, List.take_succ_eq_append_getElem hml2, hb1, he], rfl⟩ (by omega)
        · have i2 : ¬ (m : Int) < ((l[n]).c.attrs.length : Int) := by omega
          rw [List.take_of_length_le hmg, List.take_of_length_le (by omega)] at hb1
          have hc : l[n].c = l2[n].c := FCor.ext3 k0 k1 hb1
          simp only [amS, Nat.reduceAdd, Nat.reduceLeDiff, Nat.reduceEqDiff, ↓reduceIte, reduceCtorEq, fillAt, targetOf, hv'.eaddrM hlt, hw'.eaddrM hlt2, Fmt.drop2, Fmt.lenA, i2, not_false_eq_true, true_implies, false_implies, inc]
          refine LoopPost.next (n + 1) rfl ⟨hlt, ?_, rfl⟩ (by omega)
          rw [List.take_succ_eq_append_getElem hlt, List.take_succ_eq_append_getElem hlt2, cores_append, cores_append, ha, cores_cons, cores_cons, hc]
      · have i1 : ¬ (n : Int) < (l.length : Int) := by omega
        rw [List.take_of_length_le hge, List.take_of_length_le (by omega)] at ha
        simp only [amS, Nat.reduceAdd, Nat.reduceLeDiff, Nat.reduceEqDiff, ↓reduceIte, reduceCtorEq, fillAt, targetOf, hv'.lenM, i1, not_false_eq_true, true_implies, false_implies]
        exact ⟨_, rfl, by rw [decide_eq_true ha]⟩
  obtain ⟨r, h', hr, rfl, rfl⟩ := hev.ret
  exact hr
end

theorem ev_lists {v : AVal} {l : List FEd} (hv : IsEds l v) (name : Bytes) (node : Int) : Ev cx 14 [v, .str name, .int .i64 node] [] fun r _ => r = .bool true := by
  have hv' : IsSl 6 (l.map FEd.row) v := hv
  unfold Ev
  rw [t14_eq, t14]
  simp only [amS, Nat.reduceAdd, Nat.reduceLeDiff, Nat.reduceEqDiff, ↓reduceIte, reduceCtorEq, fillAt, targetOf, (f77 hv []).call, known_iff]
  rw [cndW_iff]
  refine ⟨fun _ => ⟨_, rfl, rfl⟩, fun h0 => ⟨fun _ => ⟨_, rfl, rfl⟩, fun h1 => ?_⟩⟩
  have h0 : edsOk l := by simpa using h0
  have hl80 := h0.1
  refine W_loop_st (fun p : Nat × AVal => [.bool false, p.2, .int .i64 (p.1 : Int)])
    (fun p h1 => p.1 ≤ l.length ∧ ∃ s w, LObj h1 0 s ∧ IsFmts w p.2 ∧ cores s = cores w ∧ (∀ x ∈ s, FOk x) ∧ s.length ≤ p.1)
    (fun p => l.length - p.1) (0, .slnil) rfl ⟨Nat.zero_le _, [], [], ⟨.slnil, rfl, .nil⟩, .nil, rfl, by simp, Nat.zero_le _⟩ ?_
  rintro ⟨n, u⟩ h1 ⟨hn, s, w, hs, hw, hc, hk, hsl⟩
  simp only at hn hw hsl
  rcases Nat.lt_or_ge n l.length with hlt | hge
  · have i1 : (n : Int) < (l.length : Int) := by omega
    have ha : (l[n]).l.length ≤ 100000 := by have := (h0.2 _ (List.getElem_mem hlt)).2.1; omega
    have hwk := fok_cores hc hk
    have hwl := cores_len hc
    obtain ⟨h2, s2, r1, _, hs2, c2⟩ := f78 hs (by omega) hk l[n] ha
    obtain ⟨u2, w2, r2, hw2, c3⟩ := f79 (h := h2) hw (by omega) hwk l[n] ha
    have hc2 : cores s2 = cores w2 := by rw [c2, c3, doE_cores hc]
    have hk2 : ∀ x ∈ s2, FOk x := fok_cores c2.symm (doE_fok hk ha)
    have hl2 : s2.length ≤ s.length + 1 := by rw [cores_len c2]; exact doE_length _ _
    have hl2' := cores_len hc2
    rw [resE_cores hc] at r1
    obtain ⟨v2, hv2, hf2⟩ := (show LObj h2 0 s2 from hs2)
    have r3 := f74 (h := h2) hf2 hw2 (by omega) hk2
    rw [decide_eq_true hc2] at r3
    have r4 := f80 hv2 hf2 (by omega) name
    have r5 := f81 (h := h2) hw2 (by omega) name
    have r6 := f82 hv2 hf2 (by omega) node
    have r7 := f83 (h := h2) hw2 (by omega) node
    rw [findE_cores hc2] at r4
    rw [entIdx_cores hc2] at r6
    simp only [amS, Nat.reduceAdd, Nat.reduceLeDiff, Nat.reduceEqDiff, ↓reduceIte, reduceCtorEq, fillAt, targetOf, itS, hv'.lenM, i1, not_true_eq_false, not_false_eq_true, true_implies, false_implies, ne_eq, hv'.eaddrM hlt, FEd.take_row, FEd.len_row, Nat.le_refl, r1.call, r2.call, hload_at hv2, Nat.add_zero, r3.call, Bool.not_true, r4.call, r5.call, r6.call, r7.call, pe_inc (show n < 9223372036854775807 by omega)]
    exact LoopPost.next (n + 1, u2) rfl ⟨hlt, s2, w2, hs2, hw2, hc2, hk2, by simp only; omega⟩ (by simp only; omega)
  · have i1 : ¬ (n : Int) < (l.length : Int) := by omega
    simp only [amS, Nat.reduceAdd, Nat.reduceLeDiff, Nat.reduceEqDiff, ↓reduceIte, reduceCtorEq, fillAt, targetOf, hv'.lenM, i1, not_false_eq_true, true_implies, false_implies, known_iff]
    exact ⟨_, rfl, rfl⟩
theorem all_lists : ∀ l, HasArgs [.sl tSEdit, .str, .int .i64] l → Ev cx 14 l [] fun r _ => r = .bool true := by
  rintro _ ⟨a, _, rfl, ha, b, _, rfl, hb, c, _, rfl, hc, rfl⟩
  obtain ⟨l, hv⟩ := has_feds ha
  obtain ⟨s, rfl⟩ := hasV_str hb
  obtain ⟨n, rfl⟩ := hasV_int hc
  exact ev_lists hv s n
end Go.Am
