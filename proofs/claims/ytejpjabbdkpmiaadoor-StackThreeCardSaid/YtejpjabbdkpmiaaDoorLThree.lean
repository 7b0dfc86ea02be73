/-
  StackThree as the abstract machine runs it: it returns true. No law is claimed here.
-/
import Derived.Test.YtejpjabbdkpmiaaDoorLLists
namespace Go.Am
open Go
set_option maxRecDepth 100000
set_option linter.unusedSimpArgs false
set_option linter.unusedVariables false

theorem alikeC_iff {a b : FCor} : alikeC a b = true ↔ a.name = b.name ∧ a.attrs.length = b.attrs.length ∧ (∀ x ∈ a.attrs, x ∈ b.attrs) ∧ ∀ x ∈ b.attrs, x ∈ a.attrs := by
  unfold alikeC; rw [decide_eq_true_iff]
theorem alikeC_symm {a b : FCor} (h : alikeC a b = true) : alikeC b a = true := by
  rw [alikeC_iff] at h ⊢
  exact ⟨h.1.symm, h.2.1.symm, h.2.2.2, h.2.2.1⟩
theorem alikeC_trans {a b c : FCor} (h : alikeC a b = true) (h2 : alikeC b c = true) : alikeC a c = true := by
  rw [alikeC_iff] at h h2 ⊢
  exact ⟨h.1.trans h2.1, h.2.1.trans h2.2.1, fun x hx => h2.2.2.1 x (h.2.2.1 x hx), fun x hx => h.2.2.2 x (h2.2.2.2 x hx)⟩
def nz (x : Fmt) : Bool := decide (¬ x.c.node = 0)
def runF (l : List Fmt) : List Fmt := l.takeWhile nz
def cntF (c : FCor) (l : List Fmt) : Nat := l.countP fun y => alikeC c y.c
/-- No four entries between two markers are alike. -/
def Good : List Fmt → Prop
  | [] => True
  | x :: t => cntF x.c (runF (x :: t)) ≤ 3 ∧ Good t
theorem run_cons {x : Fmt} {t : List Fmt} : runF (x :: t) = if x.c.node = 0 then [] else x :: runF t := by
  unfold runF nz
  rw [List.takeWhile_cons]
  by_cases h : x.c.node = 0 <;> simp [h]
theorem cnt_cons {c : FCor} {x : Fmt} {t : List Fmt} : cntF c (x :: t) = cntF c t + if alikeC c x.c = true then 1 else 0 := by
  unfold cntF; rw [List.countP_cons]
theorem Good.drop {l : List Fmt} (h : Good l) : ∀ j (hj : j < l.length), cntF l[j].c (runF (l.drop j)) ≤ 3 := by
  induction l with
  | nil => intro j hj; simp at hj
  | cons x t ih =>
    intro j hj
    cases j with
    | zero => exact h.1
    | succ j => exact ih h.2 j (by simpa using hj)
theorem Good.suffix {p s : List Fmt} (h : Good (p ++ s)) : Good s := by
  induction p with
  | nil => exact h
  | cons x p ih => exact ih h.2
theorem cntRun_take (c : FCor) : ∀ (l : List Fmt) (n : Nat), cntF c (runF (l.take n)) ≤ cntF c (runF l)
  | [], n => by simp
  | x :: t, 0 => by simp [runF, cntF]
  | x :: t, n + 1 => by
    rw [List.take_succ_cons, run_cons, run_cons]
    split
    · exact Nat.le_refl _
    · rw [cnt_cons, cnt_cons]; exact Nat.add_le_add_right (cntRun_take c t n) _
theorem Good.take {l : List Fmt} (h : Good l) : ∀ n, Good (l.take n) := by
  induction l with
  | nil => intro n; simp; trivial
  | cons x t ih =>
    intro n
    cases n with
    | zero => trivial
    | succ n => exact ⟨Nat.le_trans (cntRun_take x.c (x :: t) (n + 1)) h.1, ih h.2 n⟩
theorem dropAt_zero (x : Fmt) (t : List Fmt) : dropAt (x :: t) 0 = t := rfl
theorem dropAt_succ (x : Fmt) (t : List Fmt) (k : Nat) : dropAt (x :: t) (k + 1) = x :: dropAt t k := rfl
theorem cntRun_dropAt (c : FCor) : ∀ (l : List Fmt) (k : Nat) (hk : k < l.length), l[k].c.node ≠ 0 → cntF c (runF (dropAt l k)) ≤ cntF c (runF l)
  | [], _, hk, _ => by simp at hk
  | x :: t, 0, _, h => by
    rw [dropAt_zero, run_cons, if_neg (by simpa using h), cnt_cons]; omega
  | x :: t, k + 1, hk, h => by
    rw [dropAt_succ, run_cons, run_cons]
    split
    · exact Nat.le_refl _
    · rw [cnt_cons, cnt_cons]; exact Nat.add_le_add_right (cntRun_dropAt c t k (by simpa using hk) (by simpa using h)) _
theorem Good.dropAt {l : List Fmt} (h : Good l) : ∀ k (hk : k < l.length), l[k].c.node ≠ 0 → Good (dropAt l k) := by
  induction l with
  | nil => intro k hk; simp at hk
  | cons x t ih =>
    intro k hk hz
    cases k with
    | zero => exact h.2
    | succ k =>
      rw [dropAt_succ]
      refine ⟨?_, ih h.2 k (by simpa using hk) (by simpa using hz)⟩
      have := cntRun_dropAt x.c (x :: t) (k + 1) hk hz
      rw [dropAt_succ] at this
      exact Nat.le_trans this h.1
theorem run_mark {m : Fmt} (hm : m.c.node = 0) : ∀ l : List Fmt, runF (l ++ [m]) = runF l
  | [] => by rw [List.nil_append, run_cons, if_pos hm]; rfl
  | x :: t => by rw [List.cons_append, run_cons, run_cons, run_mark hm t]
theorem Good.mark {l : List Fmt} {m : Fmt} (hm : m.c.node = 0) (h : Good l) : Good (l ++ [m]) := by
  induction l with
  | nil => refine ⟨?_, trivial⟩; show cntF m.c (runF [m]) ≤ 3; rw [run_cons, if_pos hm]; simp [cntF]
  | cons x t ih =>
    refine ⟨?_, ih h.2⟩
    have := run_mark hm (x :: t)
    rw [List.cons_append] at this
    rw [List.append_eq, this]
    exact h.1
theorem cntR_append (e : FCor) (r2 : List Fmt) : ∀ r1 : List Fmt, (∀ x ∈ r1, x.c.node ≠ 0) → cntR e (r1 ++ r2) = (r1.countP fun y => alikeC y.c e) + cntR e r2
  | [], _ => by simp
  | x :: t, h => by
    rw [List.cons_append, cntR, if_neg (h x List.mem_cons_self), cntR_append e r2 t (fun y hy => h y (List.mem_cons_of_mem _ hy)), List.countP_cons]
    omega
theorem fstR_none (e : FCor) : ∀ r : List Fmt, cntR e r = 0 → fstR e r = -1
  | [], _ => rfl
  | x :: t, h => by
    rw [cntR] at h
    rw [fstR]
    split
    · rfl
    · rename_i h0
      rw [if_neg h0] at h
      by_cases ha : alikeC x.c e = true
      · rw [if_pos ha] at h; omega
      · rw [if_neg ha] at h ⊢
        rw [fstR_none e t (by omega)]
        simp
theorem fstR_split (e : FCor) : ∀ r : List Fmt, 0 < cntR e r → ∃ a x b, r = a ++ x :: b ∧ (∀ y ∈ a, y.c.node ≠ 0) ∧ x.c.node ≠ 0 ∧ alikeC x.c e = true ∧ fstR e r = (b.length : Int) ∧ cntR e r = (a.countP fun y => alikeC y.c e) + 1 ∧ cntR e b = 0
  | [], h => by simp [cntR] at h
  | y :: t, h => by
    rw [cntR] at h
    by_cases h0 : y.c.node = 0
    · rw [if_pos h0] at h; omega
    rw [if_neg h0] at h
    by_cases ht : 0 < cntR e t
    · obtain ⟨a, x, b, e1, e2, e3, e4, e5, e6, e7⟩ := fstR_split e t ht
      refine ⟨y :: a, x, b, by rw [e1]; rfl, ?_, e3, e4, ?_, ?_, e7⟩
      · intro z hz
        rcases List.mem_cons.1 hz with rfl | hz
        · exact h0
        · exact e2 z hz
      · rw [fstR, if_neg h0, e5, if_pos (by omega)]
      · rw [cntR, if_neg h0, e6, List.countP_cons]; omega
    · have hz : cntR e t = 0 := by omega
      have ha : alikeC y.c e = true := by
        rw [hz] at h
        by_cases ha : alikeC y.c e = true
        · exact ha
        · rw [if_neg ha] at h; omega
      refine ⟨[], y, t, rfl, by simp, h0, ha, ?_, ?_, hz⟩
      · rw [fstR, if_neg h0, fstR_none e t hz, if_neg (by decide), if_pos ha]
      · rw [cntR, if_neg h0, hz, if_pos ha]; rfl
theorem countP_same {x e : FCor} (h : alikeC x e = true) (s : List Fmt) : (s.countP fun y => alikeC y.c e) = cntF x s := by
  unfold cntF
  congr 1
  funext y
  rw [Bool.eq_iff_iff]
  exact ⟨fun h2 => alikeC_trans h (alikeC_symm h2), fun h2 => alikeC_trans (alikeC_symm h2) h⟩
theorem run_all : ∀ {s : List Fmt}, (∀ x ∈ s, x.c.node ≠ 0) → runF s = s
  | [], _ => rfl
  | x :: t, h => by rw [run_cons, if_neg (h x List.mem_cons_self), run_all fun y hy => h y (List.mem_cons_of_mem _ hy)]
theorem cntE_suffix (e : FCor) {p s : List Fmt} (hs : ∀ x ∈ s, x.c.node ≠ 0) : (s.countP fun y => alikeC y.c e) ≤ cntE e (p ++ s) := by
  rw [cntE, List.reverse_append, cntR_append e _ _ (by simpa using hs), List.countP_reverse]
  omega
/-- A list with one more entry. -/
theorem Good.snoc {e : Fmt} : ∀ {l p : List Fmt}, Good l → cntE e.c (p ++ l) ≤ 2 → Good (l ++ [e])
  | [], p, _, _ => ⟨by
      show cntF e.c (runF [e]) ≤ 3
      rw [run_cons]
      split
      · exact Nat.zero_le _
      · rw [cnt_cons]
        have : cntF e.c (runF []) = 0 := rfl
        rw [this]; split <;> omega, trivial⟩
  | x :: t, p, h, hc => by
    have ht := Good.snoc (l := t) (p := p ++ [x]) h.2 (by rw [List.append_assoc]; exact hc)
    refine ⟨?_, ht⟩
    have h1 := h.1
    rw [List.append_eq]
    by_cases hall : ∀ y ∈ x :: t, y.c.node ≠ 0
    · have hle := cntE_suffix e.c (p := p) hall
      rw [run_all hall] at h1
      by_cases he : e.c.node = 0
      · have := run_mark he (x :: t)
        rw [List.cons_append] at this
        rw [this, run_all hall]; exact h1
      have hr : runF (x :: (t ++ [e])) = x :: (t ++ [e]) := run_all (by
        intro y hy
        rcases List.mem_cons.1 hy with rfl | hy
        · exact hall _ List.mem_cons_self
        · rcases List.mem_append.1 hy with hy | hy
          · exact hall y (List.mem_cons_of_mem _ hy)
          · rw [List.mem_singleton.1 hy]; exact he)
      rw [hr]
      have hsum : cntF x.c (x :: (t ++ [e])) = cntF x.c (x :: t) + if alikeC x.c e.c = true then 1 else 0 := by
        unfold cntF
        rw [← List.cons_append, List.countP_append, List.countP_singleton]
      rw [hsum]
      by_cases ha : alikeC x.c e.c = true
      · rw [countP_same ha] at hle
        rw [if_pos ha]; omega
      · rw [if_neg ha]; omega
    · have hr : ∀ t : List Fmt, (¬ ∀ y ∈ t, y.c.node ≠ 0) → runF (t ++ [e]) = runF t := by
        intro t
        induction t with
        | nil => intro h; exact absurd (by simp) h
        | cons y t ih =>
          intro h
          rw [List.cons_append, run_cons, run_cons]
          by_cases hy : y.c.node = 0
          · rw [if_pos hy, if_pos hy]
          · rw [if_neg hy, if_neg hy, ih]
            intro h2
            apply h
            intro z hz
            rcases List.mem_cons.1 hz with rfl | hz
            · exact hy
            · exact h2 z hz
      have := hr (x :: t) hall
      rw [List.cons_append] at this
      rw [this]; exact h1
theorem Good.push {e : Fmt} {l : List Fmt} (h : Good l) : Good (pushed e.c l ++ [e]) := by
  by_cases h0 : e.c.node = 0
  · rw [pushed, if_neg (fun h => h.1 h0)]
    exact h.mark h0
  by_cases hc : 3 ≤ cntE e.c l
  · rw [pushed, if_pos ⟨h0, hc⟩]
    obtain ⟨a, x, b, e1, e2, e3, e4, e5, e6, e7⟩ := fstR_split e.c l.reverse (by unfold cntE at hc; omega)
    have el : l = b.reverse ++ x :: a.reverse := by
      have := congrArg List.reverse e1
      rw [List.reverse_reverse] at this
      rw [this]; simp
    have hk : fstE e.c l = (b.length : Int) := e5
    have hs : ∀ y ∈ x :: a.reverse, y.c.node ≠ 0 := by
      intro y hy
      rcases List.mem_cons.1 hy with rfl | hy
      · exact e3
      · exact e2 y (List.mem_reverse.1 hy)
    have hgs : Good (x :: a.reverse) := Good.suffix (p := b.reverse) (el ▸ h)
    have h3 := hgs.1
    rw [run_all hs, ← countP_same e4, List.countP_cons, List.countP_reverse] at h3
    rw [if_pos e4] at h3
    have hd : Go.Am.dropAt l b.length = b.reverse ++ a.reverse := by
      unfold Go.Am.dropAt
      rw [el, List.take_append_of_le_length (by simp), List.take_of_length_le (by simp), List.drop_append]
      simp
    have hkl : b.length < l.length := by rw [el]; simp
    have hz : l[b.length].c.node ≠ 0 := by
      have : l[b.length]? = some x := by rw [el]; simp
      rw [List.getElem?_eq_getElem hkl, Option.some.injEq] at this
      rw [this]; exact e3
    rw [hk, Int.toNat_natCast]
    refine Good.snoc (p := []) (h.dropAt _ hkl hz) ?_
    rw [List.nil_append, hd, cntE, List.reverse_append, List.reverse_reverse, List.reverse_reverse, cntR_append e.c b a e2, e7]
    omega
  · rw [pushed, if_neg (fun h => hc h.2)]
    exact Good.snoc (p := []) h (by rw [List.nil_append]; omega)
theorem Good.cores : ∀ {l w : List Fmt}, cores l = cores w → Good l → Good w
  | [], [], _, _ => trivial
  | [], b :: w, h, _ => by cases h
  | a :: l, [], h, _ => by cases h
  | a :: l, b :: w, h, hg => by
    have h' : a.c :: Go.Am.cores l = b.c :: Go.Am.cores w := h
    rw [List.cons.injEq] at h'
    have key : ∀ (c : FCor) {l w : List Fmt}, Go.Am.cores l = Go.Am.cores w → cntF c (runF l) = cntF c (runF w) := by
      intro c l
      induction l with
      | nil => intro w h; cases w with
        | nil => rfl
        | cons b w => cases h
      | cons a l ih => intro w h; cases w with
        | nil => cases h
        | cons b w =>
          have h' : a.c :: Go.Am.cores l = b.c :: Go.Am.cores w := h
          rw [List.cons.injEq] at h'
          rw [run_cons, run_cons, h'.1]
          split
          · rfl
          · rw [cnt_cons, cnt_cons, ih h'.2, h'.1]
    refine ⟨?_, Good.cores h'.2 hg.2⟩
    rw [← h'.1, ← key a.c h]
    exact hg.1
theorem Good.doE {a : FEd} {l : List Fmt} (h : Good l) (hk : a.x.kind < 5) : Good (doE a l) := by
  unfold Go.Am.doE
  split
  · exact Good.push (e := a.ent a.x.node) h
  split
  · exact h.mark rfl
  split
  · exact h.take _
  split
  · split
    · exact h
    · rename_i hn
      rcases entIdx_spec a.x.node l with h1 | ⟨k, hk, h1⟩
      · rw [h1] at hn; omega
      · rw [h1, Int.toNat_natCast]
        refine h.dropAt k hk ?_
        unfold entIdx at h1
        split at h1
        · omega
        · rename_i h0
          rcases lastIdx_spec (q := nodeIs a.x.node) (l := l) with ⟨h2, _⟩ | ⟨k2, hk2, h2, h3, _⟩
          · omega
          · rw [h1] at h2
            obtain rfl : k = k2 := by omega
            have : l[k].c.node = a.x.node := by simpa [nodeIs] using h3
            rw [this]; exact h0
  split
  · omega
  split
  · omega
  · exact h

theorem W_join_mk {key : Nat} {t : IT} {k : AExit → List AVal → IT} {Q R : Post} {h : AHeap} (hw : W cx t R h) (hk : ∀ x vs h1, R x vs h1 → W cx (k x vs) Q h1) : W cx (.join key t k) Q h :=
  W_join_iff.2 (W.mono hw hk)
set_option maxHeartbeats 1000000 in
theorem ev_three {v : AVal} {l : List FEd} (hv : IsEds l v) : Ev cx 15 [v] [] fun r _ => r = .bool true := by
  have hv' : IsSl 6 (l.map FEd.row) v := hv
  unfold Ev
  rw [t15_eq, t15]
  simp only [amS, Nat.reduceAdd, Nat.reduceLeDiff, Nat.reduceEqDiff, ↓reduceIte, reduceCtorEq, fillAt, targetOf, (f77 hv []).call, known_iff]
  rw [cndW_iff]
  refine ⟨fun _ => ⟨_, rfl, rfl⟩, fun h0 => ?_⟩
  have h0 : edsOk l := by simpa using h0
  have hl80 := h0.1
  refine W_loop_st (fun p : Nat => [.bool false, .int .i64 (p : Int)])
    (fun p h1 => p ≤ l.length ∧ ∃ s, LObj h1 0 s ∧ Good s ∧ (∀ x ∈ s, FOk x) ∧ s.length ≤ p)
    (fun p => l.length - p) 0 rfl ⟨Nat.zero_le _, [], ⟨.slnil, rfl, .nil⟩, trivial, by simp, Nat.zero_le _⟩ ?_
  rintro n h1 ⟨hn, s, hs, hg, hk, hsl⟩
  rcases Nat.lt_or_ge n l.length with hlt | hge
  · have i1 : (n : Int) < (l.length : Int) := by omega
    have ha : (l[n]).l.length ≤ 100000 := by have := (h0.2 _ (List.getElem_mem hlt)).2.1; omega
    simp only [W_op_iff, W_cnd_iff, W_load_iff, opW_some, cndW_dec, pe_lss, pe_faddr_rptr, hload_rptr, partOf_none, List.getD_cons_zero, List.getD_cons_succ, hv'.lenM, i1, not_true_eq_false, not_false_eq_true, true_implies, false_implies, and_true, hv'.eaddrM hlt, FEd.at0, FEd.len_row, List.drop_zero, Nat.zero_le, if_true]
    refine W_join_mk (R := fun x vs h2 => x = .normal ∧ vs = [] ∧ ∃ s2, LObj h2 0 s2 ∧ Good s2 ∧ (∀ x ∈ s2, FOk x) ∧ s2.length ≤ n + 1) ?_ ?_
    · by_cases hk5 : l[n].x.kind < 5
      · obtain ⟨h2, s2, r1, _, hs2, c2⟩ := f78 hs (by omega) hk l[n] ha
        have hl2 : s2.length ≤ s.length + 1 := by rw [cores_len c2]; exact doE_length _ _
        simp only [amS, Nat.reduceAdd, Nat.reduceLeDiff, Nat.reduceEqDiff, ↓reduceIte, reduceCtorEq, fillAt, targetOf, hk5, not_true_eq_false, not_false_eq_true, true_implies, false_implies, hv'.eaddrM hlt, FEd.take_row, FEd.len_row, Nat.le_refl, r1.call]
        exact ⟨s2, hs2, (hg.doE hk5).cores c2.symm, fok_cores c2.symm (doE_fok hk ha), by omega⟩
      · simp only [amS, Nat.reduceAdd, Nat.reduceLeDiff, Nat.reduceEqDiff, ↓reduceIte, reduceCtorEq, fillAt, targetOf, hk5, not_true_eq_false, not_false_eq_true, true_implies, false_implies]
        exact ⟨s, hs, hg, hk, by omega⟩
    rintro _ _ h2 ⟨rfl, rfl, s2, hs2, hg2, hk2, hl2⟩
    obtain ⟨u, hc, hu⟩ := (show LObj h2 0 s2 from hs2)
    have hu' : IsSl 3 (s2.map Fmt.row) u := hu
    refine W_loop_st (fun j : Nat => [.bool false, .int .i64 (j : Int)]) (fun j h3 => j ≤ s2.length ∧ h3 = h2) (fun j => s2.length - j) 0 rfl ⟨Nat.zero_le _, rfl⟩ ?_
    rintro j h3 ⟨hj, rfl⟩
    rcases Nat.lt_or_ge j s2.length with hjl | hjg
    · have i2 : (j : Int) < (s2.length : Int) := by omega
      simp only [amS, Nat.reduceAdd, Nat.reduceLeDiff, Nat.reduceEqDiff, ↓reduceIte, reduceCtorEq, fillAt, targetOf, hload_at hc, Nat.add_zero, hu'.lenM, i2, not_true_eq_false, not_false_eq_true, true_implies, false_implies]
      refine W_loop_st (fun p : Nat × Nat => [.int .i64 (p.1 : Int), .int .i64 (p.2 : Int)])
        (fun p h4 => j ≤ p.2 ∧ p.2 ≤ s2.length ∧ p.1 ≤ p.2 ∧ p.1 + cntF s2[j].c (runF (s2.drop p.2)) = cntF s2[j].c (runF (s2.drop j)) ∧ h4 = h3) (fun p => s2.length - p.2) (0, j) rfl ⟨Nat.le_refl _, hj, Nat.zero_le _, Nat.zero_add _, rfl⟩ ?_
      rintro ⟨m, k⟩ h4 ⟨b1, b2, b3, b4, rfl⟩
      simp only at b1 b2 b3 b4
      have hbound := hg2.drop j hjl
      have inc := pe_inc (show j < 9223372036854775807 by omega)
      rcases Nat.lt_or_ge k s2.length with hkl | hkg
      · have i3 : (k : Int) < (s2.length : Int) := by omega
        rw [List.drop_eq_getElem_cons hkl, run_cons] at b4
        have r1 := f84 (h := h4) (hk2 _ (List.getElem_mem hjl)) (hk2 _ (List.getElem_mem hkl))
        by_cases hz : s2[k].c.node = 0
        · rw [if_pos hz] at b4
          have b4 : m = cntF s2[j].c (runF (s2.drop j)) := b4
          simp only [amS, Nat.reduceAdd, Nat.reduceLeDiff, Nat.reduceEqDiff, ↓reduceIte, reduceCtorEq, fillAt, targetOf, hload_at hc, Nat.add_zero, hu'.lenM, i3, hu'.eaddrM hkl, Fmt.at0, Fmt.len_row, hz, ne_eq, decide_false, not_true_eq_false, not_false_eq_true, true_implies, false_implies, show ¬ (3 : Int) < (m : Int) by omega, inc]
          exact LoopPost.next (j + 1) rfl ⟨by omega, rfl⟩ (by omega)
        · rw [if_neg hz, cnt_cons] at b4
          simp only [amS, Nat.reduceAdd, Nat.reduceLeDiff, Nat.reduceEqDiff, ↓reduceIte, reduceCtorEq, fillAt, targetOf, hload_at hc, Nat.add_zero, hu'.lenM, i3, hu'.eaddrM hkl, hu'.eaddrM hjl, Fmt.at0, Fmt.len_row, Fmt.take_row, Nat.le_refl, hz, ne_eq, decide_true, not_true_eq_false, not_false_eq_true, true_implies, false_implies, r1.call, pe_inc (show m < 9223372036854775807 by omega), pe_inc (show k < 9223372036854775807 by omega)]
          rw [cndW_iff]
          refine ⟨fun he => ?_, fun he => ?_⟩
          · rw [if_pos he] at b4
            exact LoopPost.next (m + 1, k + 1) rfl ⟨by simp only; omega, hkl, by simp only; omega, by simp only; omega, rfl⟩ (by simp only; omega)
          · rw [if_neg (by simp [he])] at b4
            exact LoopPost.next (m, k + 1) rfl ⟨by simp only; omega, hkl, by simp only; omega, by simp only; omega, rfl⟩ (by simp only; omega)
      · have i3 : ¬ (k : Int) < (s2.length : Int) := by omega
        rw [List.drop_of_length_le hkg] at b4
        have b4 : m = cntF s2[j].c (runF (s2.drop j)) := b4
        simp only [amS, Nat.reduceAdd, Nat.reduceLeDiff, Nat.reduceEqDiff, ↓reduceIte, reduceCtorEq, fillAt, targetOf, hload_at hc, Nat.add_zero, hu'.lenM, i3, not_true_eq_false, not_false_eq_true, true_implies, false_implies, show ¬ (3 : Int) < (m : Int) by omega, inc]
        exact LoopPost.next (j + 1) rfl ⟨by omega, rfl⟩ (by omega)
    · have i2 : ¬ (j : Int) < (s2.length : Int) := by omega
      simp only [amS, Nat.reduceAdd, Nat.reduceLeDiff, Nat.reduceEqDiff, ↓reduceIte, reduceCtorEq, fillAt, targetOf, hload_at hc, Nat.add_zero, hu'.lenM, i2, not_true_eq_false, not_false_eq_true, true_implies, false_implies, pe_inc (show n < 9223372036854775807 by omega)]
      exact LoopPost.next (n + 1) rfl ⟨hlt, s2, hs2, hg2, hk2, hl2⟩ (by omega)
  · have i1 : ¬ (n : Int) < (l.length : Int) := by omega
    simp only [amS, Nat.reduceAdd, Nat.reduceLeDiff, Nat.reduceEqDiff, ↓reduceIte, reduceCtorEq, fillAt, targetOf, hv'.lenM, i1, not_false_eq_true, true_implies, false_implies, known_iff]
    exact ⟨_, rfl, rfl⟩
theorem all_three : ∀ l, HasArgs [.sl tSEdit] l → Ev cx 15 l [] fun r _ => r = .bool true := by
  rintro _ ⟨a, _, rfl, ha, rfl⟩
  obtain ⟨l, hv⟩ := has_feds ha
  exact ev_three hv
end Go.Am
