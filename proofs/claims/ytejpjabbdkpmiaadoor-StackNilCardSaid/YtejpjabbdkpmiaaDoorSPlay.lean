/-
  The stack of open elements: the rest of the specification, and comparisons. No law is claimed here.
-/
import Derived.Test.YtejpjabbdkpmiaaDoorSEdits
import Derived.Test.YtejpjabbdkpmiaaDoorLScopes
namespace Go.Am
open Go
set_option maxRecDepth 100000
set_option linter.unusedSimpArgs false
set_option linter.unusedVariables false

section
variable {h : AHeap} {p v w : AVal} {l : List Item} {ws : List Bytes}

theorem cutL_neg : cutL l (-1) = cutL l 1 := rfl
theorem cutL_zero : cutL l 0 = cutL l 1 := rfl
theorem f146 (hv : IsItems l v) (hb : l.length ≤ 100000) (hw : IsStrs ws w) (hn : ws.length ≤ 100000) : ∃ u t, Ret cx 146 [v, w] h u (h ++ t) ∧ IsItems (cutL l (lastIdx (isOne ws) l)) u := by
  have hv' : IsSl 4 (l.map Item.row) v := hv
  have hev : Ev cx 146 [v, w] h fun r h' => ∃ t, h' = h ++ t ∧ IsItems (cutL l (lastIdx (isOne ws) l)) r := by
    unfold Ev
    rw [t146_eq, t146]
    simp only [amS, Nat.reduceAdd, Nat.reduceLeDiff, Nat.reduceEqDiff, ↓reduceIte, reduceCtorEq, fillAt, targetOf, hv'.lenM, pe_subI (show -9223372036854775808 ≤ (l.length : Int) - 1 by omega) (show (l.length : Int) - 1 < 9223372036854775808 by omega)]
    refine W_loop_st (fun n : Nat => [.slnil, .int .i64 ((n : Int) - 1)]) (fun n h1 => n ≤ l.length ∧ lastIdx (isOne ws) l = lastIdx (isOne ws) (l.take n) ∧ h1 = h) (fun n => n) l.length rfl ⟨Nat.le_refl _, by rw [List.take_length], rfl⟩ ?_
    rintro n h1 ⟨hn', ha, rfl⟩
    cases n with
    | zero =>
      have i1 : ¬ (0 : Int) ≤ ((0 : Nat) : Int) - 1 := by omega
      obtain ⟨r, h', hr, hc⟩ := f170 (h := h1) hv hb 1
      obtain ⟨u, t, e, hu⟩ := hc.frz
      rw [List.take_zero, lastIdx_nil] at ha
      simp only [amS, Nat.reduceAdd, Nat.reduceLeDiff, Nat.reduceEqDiff, ↓reduceIte, reduceCtorEq, fillAt, targetOf, i1, not_false_eq_true, true_implies, false_implies, hr.call, e]
      exact ⟨_, rfl, t, rfl, by rw [ha, cutL_neg]; exact hu⟩
    | succ n =>
      have i2 : ((n + 1 : Nat) : Int) - 1 = (n : Int) := by omega
      obtain ⟨r, h', hr, hc⟩ := f170 (h := h1) hv hb (n : Int)
      obtain ⟨u, t, e, hu⟩ := hc.frz
      rw [lastIdx_take (by omega)] at ha
      simp only [amS, Nat.reduceAdd, Nat.reduceLeDiff, Nat.reduceEqDiff, ↓reduceIte, reduceCtorEq, fillAt, targetOf, itS, i2, show (0 : Int) ≤ (n : Int) by omega, not_true_eq_false, true_implies, false_implies, hv'.eaddrM (show n < l.length by omega), (f35 l[n] hw hn).call, hr.call, e, pe_subI (show -9223372036854775808 ≤ (n : Int) - 1 by omega) (show (n : Int) - 1 < 9223372036854775808 by omega)]
      rw [cndW_iff]
      refine ⟨fun he => ?_, fun he => ?_⟩
      · rw [if_pos he] at ha
        exact ⟨_, rfl, t, rfl, by rw [ha]; exact hu⟩
      · rw [if_neg (by simp [he])] at ha
        exact LoopPost.next n rfl ⟨by omega, ha, rfl⟩ (by omega)
  obtain ⟨r, h', hr, t, rfl, hu⟩ := hev.ret
  exact ⟨r, t, hr, hu⟩
theorem f149 (hv : IsItems l v) (hb : l.length ≤ 100000) (hw : IsStrs ws w) (hn : ws.length ≤ 100000) : ∃ u t, Ret cx 149 [v, w] h u (h ++ t) ∧ IsItems (cutL l (lastIdx (isOne ws) l + 1)) u := by
  have hv' : IsSl 4 (l.map Item.row) v := hv
  have hev : Ev cx 149 [v, w] h fun r h' => ∃ t, h' = h ++ t ∧ IsItems (cutL l (lastIdx (isOne ws) l + 1)) r := by
    unfold Ev
    rw [t149_eq, t149]
    simp only [amS, Nat.reduceAdd, Nat.reduceLeDiff, Nat.reduceEqDiff, ↓reduceIte, reduceCtorEq, fillAt, targetOf, hv'.lenM, pe_subI (show -9223372036854775808 ≤ (l.length : Int) - 1 by omega) (show (l.length : Int) - 1 < 9223372036854775808 by omega)]
    refine W_loop_st (fun n : Nat => [.slnil, .int .i64 ((n : Int) - 1)]) (fun n h1 => n ≤ l.length ∧ lastIdx (isOne ws) l = lastIdx (isOne ws) (l.take n) ∧ h1 = h) (fun n => n) l.length rfl ⟨Nat.le_refl _, by rw [List.take_length], rfl⟩ ?_
    rintro n h1 ⟨hn', ha, rfl⟩
    cases n with
    | zero =>
      have i1 : ¬ (0 : Int) ≤ ((0 : Nat) : Int) - 1 := by omega
      obtain ⟨r, h', hr, hc⟩ := f170 (h := h1) hv hb 1
      obtain ⟨u, t, e, hu⟩ := hc.frz
      rw [List.take_zero, lastIdx_nil] at ha
      simp only [amS, Nat.reduceAdd, Nat.reduceLeDiff, Nat.reduceEqDiff, ↓reduceIte, reduceCtorEq, fillAt, targetOf, i1, not_false_eq_true, true_implies, false_implies, hr.call, e]
      exact ⟨_, rfl, t, rfl, by rw [ha]; exact hu⟩
    | succ n =>
      have i2 : ((n + 1 : Nat) : Int) - 1 = (n : Int) := by omega
      obtain ⟨r, h', hr, hc⟩ := f170 (h := h1) hv hb ((n : Int) + 1)
      obtain ⟨u, t, e, hu⟩ := hc.frz
      rw [lastIdx_take (by omega)] at ha
      simp only [amS, Nat.reduceAdd, Nat.reduceLeDiff, Nat.reduceEqDiff, ↓reduceIte, reduceCtorEq, fillAt, targetOf, itS, i2, show (0 : Int) ≤ (n : Int) by omega, not_true_eq_false, true_implies, false_implies, hv'.eaddrM (show n < l.length by omega), (f35 l[n] hw hn).call, pe_addI (show -9223372036854775808 ≤ (n : Int) + 1 by omega) (show (n : Int) + 1 < 9223372036854775808 by omega), hr.call, e, pe_subI (show -9223372036854775808 ≤ (n : Int) - 1 by omega) (show (n : Int) - 1 < 9223372036854775808 by omega)]
      rw [cndW_iff]
      refine ⟨fun he => ?_, fun he => ?_⟩
      · rw [if_pos he] at ha
        exact ⟨_, rfl, t, rfl, by rw [ha]; exact hu⟩
      · rw [if_neg (by simp [he])] at ha
        exact LoopPost.next n rfl ⟨by omega, ha, rfl⟩ (by omega)
  obtain ⟨r, h', hr, t, rfl, hu⟩ := hev.ret
  exact ⟨r, t, hr, hu⟩

/-- What stops the specification's Implied. -/
def stopsAt (s : Bytes) (all : Bool) (a : Item) : Bool := if all then unthorough a else unimplied s a
theorem f148 (hv : IsItems l v) (hb : l.length ≤ 100000) (hl : ∀ a ∈ l, a.name.length < 9223372036854775807) (s : Bytes) (all : Bool) : ∃ u t, Ret cx 148 [v, .str s, .bool all] h u (h ++ t) ∧ IsItems (pops (stopsAt s all) never l) u := by
  have hv' : IsSl 4 (l.map Item.row) v := hv
  have hev : Ev cx 148 [v, .str s, .bool all] h fun r h' => ∃ t, h' = h ++ t ∧ IsItems (pops (stopsAt s all) never l) r := by
    unfold Ev
    rw [t148_eq, t148]
    simp only [amS, Nat.reduceAdd, Nat.reduceLeDiff, Nat.reduceEqDiff, ↓reduceIte, reduceCtorEq, fillAt, targetOf, hv'.lenM]
    refine W_loop_st (fun n : Nat => [.int .i64 (n : Int)]) (fun n h1 => n ≤ l.length ∧ (l = [] ∨ 1 ≤ n) ∧ pops (stopsAt s all) never l = pops (stopsAt s all) never (l.take n) ∧ h1 = h) (fun n => n) l.length rfl ⟨Nat.le_refl _, by cases l <;> simp, by rw [List.take_length], rfl⟩ ?_
    rintro n h1 ⟨hn', h0, ha, rfl⟩
    have fin : pops (stopsAt s all) never l = l.take n → ∃ u t, hfrz h1 u = some (h1 ++ t, u) := fun _ => ⟨.slnil, [], by rw [List.append_nil]; rfl⟩
    obtain ⟨r, h', hr, hc⟩ := f170 (h := h1) hv hb (n : Int)
    obtain ⟨u, t, e, hu⟩ := hc.frz
    have ecut : cutL l (n : Int) = l.take n := by
      unfold cutL
      rcases h0 with rfl | h0
      · simp
      · rw [Int.toNat_natCast, Nat.max_eq_right h0]
    rw [ecut] at hu
    rcases Nat.lt_or_ge 1 n with hlt | hge
    · obtain ⟨m, rfl⟩ : ∃ m, n = m + 2 := ⟨n - 2, by omega⟩
      have hm : m + 1 < l.length := by omega
      have i1 : (1 : Int) < ((m + 2 : Nat) : Int) := by omega
      have i2 : ((m + 2 : Nat) : Int) - 1 = ((m + 1 : Nat) : Int) := by omega
      have hs := hl _ (List.getElem_mem hm)
      rw [pops_take hm] at ha
      have next : stopsAt s all l[m + 1] = false → LoopPost cx (fun n : Nat => [.int .i64 (n : Int)]) (fun n h2 => n ≤ l.length ∧ (l = [] ∨ 1 ≤ n) ∧ pops (stopsAt s all) never l = pops (stopsAt s all) never (l.take n) ∧ h2 = h1) (fun n => n)
          (fun x c20 => match x with
            | .normal => .call 170 [v, (g c20 0)] fun v21 => .frz v21 fun v22 => .ret .ret [v22]
            | .exit i => if i = 0 then .call 170 [v, (g c20 0)] fun v23 => .frz v23 fun v24 => .ret .ret [v24] else .fail
            | .ret => .frz .slnil fun v25 => .ret .ret [v25])
          (fun x vs h' => x = AExit.ret ∧ ∃ r, vs = [r] ∧ ∃ t, h' = h1 ++ t ∧ IsItems (pops (stopsAt s all) never l) r) (m + 2) .normal [.int .i64 ((m + 1 : Nat) : Int)] h1 := fun hf => by
        rw [if_neg (by simp [hf]), if_neg (by simp [never])] at ha
        exact LoopPost.next (m + 1) rfl ⟨by omega, .inr (by omega), ha, rfl⟩ (by omega)
      have stop : stopsAt s all l[m + 1] = true → ∃ r, [u] = [r] ∧ ∃ t_1, h1 ++ t = h1 ++ t_1 ∧ IsItems (pops (stopsAt s all) never l) r := fun hf => by
        rw [if_pos hf] at ha
        exact ⟨_, rfl, t, rfl, by rw [ha]; exact hu⟩
      simp only [amS, Nat.reduceAdd, Nat.reduceLeDiff, Nat.reduceEqDiff, ↓reduceIte, reduceCtorEq, fillAt, targetOf, itS, i1, not_true_eq_false, true_implies, false_implies, pe_subI (show -9223372036854775808 ≤ ((m + 2 : Nat) : Int) - 1 by omega) (show ((m + 2 : Nat) : Int) - 1 < 9223372036854775808 by omega), i2, hv'.eaddrM hm, f61_iff hs, f63_iff hs, hr.call, e]
      cases all with
      | true =>
        simp only [amS, Nat.reduceAdd, Nat.reduceLeDiff, Nat.reduceEqDiff, ↓reduceIte, reduceCtorEq, fillAt, targetOf, itS, Bool.not_true, f63_iff hs, hr.call, e]
        refine ⟨fun h3 => stop (by simp [stopsAt, unthorough, h3]), fun h3 => ?_⟩
        rw [cndW_iff]
        refine ⟨fun h4 => stop ?_, fun h4 => ?_⟩
        · simp at h4; simp [stopsAt, unthorough, h4]
        · simp at h3 h4
          exact next (by simp [stopsAt, unthorough, h3]; exact h4)
      | false =>
        simp only [amS, Nat.reduceAdd, Nat.reduceLeDiff, Nat.reduceEqDiff, ↓reduceIte, reduceCtorEq, fillAt, targetOf, itS, Bool.not_false, f61_iff hs, hr.call, e]
        refine ⟨fun h3 => stop (by simp [stopsAt, unimplied, h3]), fun h3 => ?_⟩
        rw [cndW_iff]
        refine ⟨fun h4 => stop ?_, fun h4 => ?_⟩
        · simp at h4; simp [stopsAt, unimplied, h4]
        · refine ⟨fun h5 => stop (by simp [stopsAt, unimplied, h5]), fun h5 => ?_⟩
          simp at h3 h4
          exact next (by simp [stopsAt, unimplied, h3, h4, h5])
    · have i1 : ¬ (1 : Int) < (n : Int) := by omega
      rw [pops_one (l := l.take n) (by rw [List.length_take]; omega)] at ha
      simp only [amS, Nat.reduceAdd, Nat.reduceLeDiff, Nat.reduceEqDiff, ↓reduceIte, reduceCtorEq, fillAt, targetOf, itS, i1, not_false_eq_true, true_implies, false_implies, hr.call, e]
      exact ⟨_, rfl, t, rfl, by rw [ha]; exact hu⟩
  obtain ⟨r, h', hr, t, rfl, hu⟩ := hev.ret
  exact ⟨r, t, hr, hu⟩

theorem f150 (hv : IsItems l v) (hb : l.length ≤ 100000) (node : Int) : ∃ u t, Ret cx 150 [v, .int .i64 node] h (.tuple [u, .bool (decide (1 ≤ lastIdx (isNode node) l))]) (h ++ t) ∧ IsItems (removed node l) u := by
  have fb : ∀ (h : AHeap) b, hfrz h (.bool b) = some (h, .bool b) := fun _ _ => rfl
  by_cases hneg : lastIdx (isNode node) l < 1
  · obtain ⟨r, h', hr, hc⟩ := f170 (h := h) hv hb (l.length : Int)
    obtain ⟨u, t, e, hu⟩ := hc.frz
    have e1 : cutL l (l.length : Int) = l := by unfold cutL; rw [List.take_of_length_le (by omega)]
    refine ⟨u, t, ?_, by rw [removed, if_pos hneg]; rwa [e1] at hu⟩
    rw [ret_iff, t150_eq, t150]
    simp only [amS, Nat.reduceAdd, Nat.reduceLeDiff, Nat.reduceEqDiff, ↓reduceIte, reduceCtorEq, fillAt, targetOf, (f49 hv hb node).call, hneg, not_true_eq_false, true_implies, false_implies, IsSl.lenM hv, hr.call, e, fb, show ¬ 1 ≤ lastIdx (isNode node) l by omega, decide_false]
  · rcases lastIdx_spec (q := isNode node) (l := l) with ⟨h1, _⟩ | ⟨k, hk, h1, _⟩
    · rw [h1] at hneg; omega
    · have hnk : ¬ (k : Int) < 1 := by rw [h1] at hneg; exact hneg
      obtain ⟨r, h', hr, hc⟩ := f170 (h := h) hv hb (k : Int)
      have ecut : cutL l (k : Int) = l.take k := by unfold cutL; rw [Int.toNat_natCast, Nat.max_eq_right (by omega)]
      rw [ecut] at hc
      rcases hc with ⟨h2, _⟩ | ⟨hne, rfl, rfl⟩
      · have := congrArg List.length h2
        rw [List.length_take, List.length_nil] at this; omega
      · obtain ⟨u4, e4, h4⟩ := IsSl.slcLo hv (k := .i64) (show k + 1 ≤ l.length by omega)
        have htl : (l.take k).length = k := by rw [List.length_take]; omega
        have c1 : (h ++ [AObj.cells ((l.take k).map Item.row).flatten])[h.length]? = some (.cells ((l.take k).map Item.row).flatten) := by simp
        have hrw := rowI (l.take k)
        have hml : ((l.take k).map Item.row).length = (l.take k).length := List.length_map ..
        by_cases hd : l.drop (k + 1) = []
        · have e5 : hgrow (h ++ [AObj.cells ((l.take k).map Item.row).flatten]) 4 40 (.msl h.length 0 (l.take k).length 4) u4 = some (h ++ [AObj.cells ((l.take k).map Item.row).flatten], .msl h.length 0 (l.take k).length 4) := hgrow_none (by rw [hd] at h4; exact h4)
          have f1 := hfrz_rows hrw c1
          rw [hml, List.set_append_right _ _ (Nat.le_refl _), Nat.sub_self] at f1
          refine ⟨.sl 4 ((l.take k).map Item.row), [.dead], ?_, ?_⟩
          · rw [ret_iff, t150_eq, t150]
            simp only [amS, Nat.reduceAdd, Nat.reduceLeDiff, Nat.reduceEqDiff, ↓reduceIte, reduceCtorEq, fillAt, targetOf, (f49 hv hb node).call, h1, hnk, not_false_eq_true, true_implies, false_implies, pe_inc (show k < 9223372036854775807 by omega), e4, hr.call, e5, f1, fb, List.set_cons_zero, show (1 : Int) ≤ (k : Int) by omega, decide_true]
          · rw [removed, if_neg hneg, h1, Int.toNat_natCast, dropAt, hd, List.append_nil]; exact .mk
        · have e5 := hgrow_some (b := 40) hrw (by decide) c1 h4 (by simpa using hd) (by rw [List.length_map, List.length_map, List.length_take, List.length_drop]; exact big40 (by omega))
          rw [hml, List.length_map] at e5
          rw [List.set_append_right _ _ (Nat.le_refl _), Nat.sub_self, List.set_cons_zero, List.append_assoc] at e5
          have c2 : (h ++ ([AObj.dead] ++ [AObj.cells ((l.take k).map Item.row ++ (l.drop (k + 1)).map Item.row).flatten]))[h.length + 1]? = some (.cells ((dropAt l k).map Item.row).flatten) := by
            rw [List.getElem?_append_right (by omega)]
            simp [dropAt]
          have f1 := hfrz_rows (rowI (dropAt l k)) c2
          have hdl : (dropAt l k).length = (l.take k).length + (l.drop (k + 1)).length := by simp [dropAt]
          rw [List.length_map, hdl] at f1
          have e6 : (h ++ [AObj.dead, AObj.cells ((l.take k).map Item.row ++ (l.drop (k + 1)).map Item.row).flatten]).set (h.length + 1) .dead = h ++ [.dead, .dead] := by
            rw [List.set_append_right _ _ (by omega)]
            simp
          simp only [List.length_append, List.length_singleton, List.cons_append, List.nil_append] at e5 f1
          rw [e6] at f1
          refine ⟨.sl 4 ((dropAt l k).map Item.row), [.dead, .dead], ?_, ?_⟩
          · rw [ret_iff, t150_eq, t150]
            simp only [amS, Nat.reduceAdd, Nat.reduceLeDiff, Nat.reduceEqDiff, ↓reduceIte, reduceCtorEq, fillAt, targetOf, (f49 hv hb node).call, h1, hnk, not_false_eq_true, true_implies, false_implies, pe_inc (show k < 9223372036854775807 by omega), e4, hr.call, e5, f1, fb, show (1 : Int) ≤ (k : Int) by omega, decide_true]
          · rw [removed, if_neg hneg, h1, Int.toNat_natCast]; exact .mk
theorem f151 (hv : IsItems l v) (hb : l.length ≤ 100000) (node : Int) (a : Item) : ∃ u t, Ret cx 151 [v, .int .i64 node, .agg a.row] h (.tuple [u, .bool (decide (1 ≤ lastIdx (isNode node) l))]) (h ++ t) ∧ IsItems (replaced node a l) u := by
  have fb : ∀ (h : AHeap) b, hfrz h (.bool b) = some (h, .bool b) := fun _ _ => rfl
  have e1 : cutL l (l.length : Int) = l := by unfold cutL; rw [List.take_of_length_le (by omega)]
  obtain ⟨r, h', hr, hc⟩ := f170 (h := h) hv hb (l.length : Int)
  rw [e1] at hc
  by_cases hneg : lastIdx (isNode node) l < 1
  · obtain ⟨u, t, e, hu⟩ := hc.frz
    refine ⟨u, t, ?_, by rw [replaced, if_pos hneg]; exact hu⟩
    rw [ret_iff, t151_eq, t151]
    simp only [amS, Nat.reduceAdd, Nat.reduceLeDiff, Nat.reduceEqDiff, ↓reduceIte, reduceCtorEq, fillAt, targetOf, itS, (f49 hv hb node).call, hneg, not_true_eq_false, true_implies, false_implies, IsSl.lenM hv, hr.call, e, fb, show ¬ 1 ≤ lastIdx (isNode node) l by omega, decide_false]
  · rcases lastIdx_spec (q := isNode node) (l := l) with ⟨h1, _⟩ | ⟨k, hk, h1, _⟩
    · rw [h1] at hneg; omega
    · have hnk : ¬ (k : Int) < 1 := by rw [h1] at hneg; exact hneg
      rcases hc with ⟨h2, _⟩ | ⟨hne, rfl, rfl⟩
      · subst h2; simp at hk
      · have c1 : (h ++ [AObj.cells (l.map Item.row).flatten])[h.length]? = some (.cells (l.map Item.row).flatten) := by simp
        have s2 := hstore_rows (z := 4) (rowI l) c1 (i := k) (by simpa using hk) (q := a.row) rfl
        rw [List.set_append_right _ _ (Nat.le_refl _), Nat.sub_self, List.set_cons_zero] at s2
        have c2 : (h ++ [AObj.cells ((l.map Item.row).set k a.row).flatten])[h.length]? = some (.cells ((l.map Item.row).set k a.row).flatten) := by simp
        have f1 := hfrz_rows (set_rows (rowI l) (i := k) (q := a.row) rfl) c2
        rw [List.length_set, List.length_map, List.set_append_right _ _ (Nat.le_refl _), Nat.sub_self, List.set_cons_zero] at f1
        have e4 : peval (.eaddr 4) [.msl h.length 0 l.length 4, .int .i64 (k : Int)] = some (.ptr (some (h.length, k * 4))) := eaddr_msl hk
        refine ⟨.sl 4 ((l.map Item.row).set k a.row), [.dead], ?_, ?_⟩
        · rw [ret_iff, t151_eq, t151]
          simp only [amS, Nat.reduceAdd, Nat.reduceLeDiff, Nat.reduceEqDiff, ↓reduceIte, reduceCtorEq, fillAt, targetOf, itS, (f49 hv hb node).call, h1, hnk, not_false_eq_true, true_implies, false_implies, IsSl.lenM hv, hr.call, e4, s2, f1, fb, show (1 : Int) ≤ (k : Int) by omega, decide_true]
        · rw [replaced, if_neg hneg, h1, Int.toNat_natCast, IsItems, List.map_set]; exact .mk
theorem f152 (hv : IsItems l v) (hb : l.length ≤ 100000) (a : Item) (i : Int) : ∃ u, Ret cx 152 [v, .agg a.row, .int .i64 i] h u h ∧ IsItems (l.take (insertPos i l.length) ++ a :: l.drop (insertPos i l.length)) u := by
  have hv' : IsSl 4 (l.map Item.row) v := hv
  obtain ⟨k, hk0, hk⟩ : ∃ k, k = insertPos i l.length ∧ k ≤ l.length := ⟨_, rfl, by unfold insertPos; omega⟩
  obtain ⟨u1, e1, h1⟩ := IsSl.slcHi hv (k := .i64) hk
  obtain ⟨u2, e2, h2⟩ := IsSl.appNil h1 (b := 40) (big40 (by rw [List.length_take]; omega))
  have e3 := IsSl.app1M (a := a) h2 (b := 40) (big40 (by rw [List.length_take]; omega))
  obtain ⟨u4, e4, h4⟩ := IsSl.slcLo hv (k := .i64) hk
  obtain ⟨u5, e5, h5⟩ := IsSl.appM (v := .sl 4 ((l.take k ++ [a]).map Item.row)) .mk h4 (b := 40) (big40 (by rw [List.length_append, List.length_take, List.length_drop, List.length_singleton]; omega))
  refine ⟨u5, ?_, by rw [List.append_assoc] at h5; rw [← hk0]; exact h5⟩
  rw [ret_iff, t152_eq, t152]
  simp only [amS, Nat.reduceAdd, Nat.reduceLeDiff, Nat.reduceEqDiff, ↓reduceIte, reduceCtorEq, fillAt, targetOf, itS, hv'.lenM]
  unfold insertPos at hk0
  refine ⟨fun h1 => ⟨fun h2 => ?_, fun h2 => ?_⟩, fun h1 => ⟨fun h2 => ?_, fun h2 => ?_⟩⟩
  · have : (k : Int) = (l.length : Int) := by omega
    rw [this] at e1 e4
    simp only [amS, Nat.reduceAdd, Nat.reduceLeDiff, Nat.reduceEqDiff, ↓reduceIte, reduceCtorEq, fillAt, targetOf, itS, e1, e2, pe_mksl4, e3, e4, e5]
  · have : (k : Int) = 1 := by omega
    rw [this] at e1 e4
    simp only [amS, Nat.reduceAdd, Nat.reduceLeDiff, Nat.reduceEqDiff, ↓reduceIte, reduceCtorEq, fillAt, targetOf, itS, e1, e2, pe_mksl4, e3, e4, e5]
  · have : (k : Int) = (l.length : Int) := by omega
    rw [this] at e1 e4
    simp only [amS, Nat.reduceAdd, Nat.reduceLeDiff, Nat.reduceEqDiff, ↓reduceIte, reduceCtorEq, fillAt, targetOf, itS, e1, e2, pe_mksl4, e3, e4, e5]
  · have : (k : Int) = i := by omega
    rw [this] at e1 e4
    simp only [amS, Nat.reduceAdd, Nat.reduceLeDiff, Nat.reduceEqDiff, ↓reduceIte, reduceCtorEq, fillAt, targetOf, itS, e1, e2, pe_mksl4, e3, e4, e5]

/-- items: a copy. -/
theorem f68 (hv : IsItems l v) (hb : l.length ≤ 100000) : ∃ u, Ret cx 68 [v] h u h ∧ IsItems l u := by
  have hv' : IsSl 4 (l.map Item.row) v := hv
  have hev : Ev cx 68 [v] h fun r h' => h' = h ∧ IsItems l r := by
    unfold Ev
    rw [t68_eq, t68]
    refine W_loop_st (fun p : Nat × AVal => [p.2, .int .i64 (p.1 : Int)]) (fun p h1 => p.1 ≤ l.length ∧ IsItems (l.take p.1) p.2 ∧ h1 = h) (fun p => l.length - p.1) (0, .slnil) rfl ⟨Nat.zero_le _, .nil, rfl⟩ ?_
    rintro ⟨n, u⟩ h1 ⟨hn, hu, rfl⟩
    simp only at hn hu
    rcases Nat.lt_or_ge n l.length with hlt | hge
    · have i1 : (n : Int) < (l.length : Int) := by omega
      have e3 := IsSl.app1M (a := l[n]) hu (b := 40) (big40 (by rw [List.length_take]; omega))
      simp only [amS, Nat.reduceAdd, Nat.reduceLeDiff, Nat.reduceEqDiff, ↓reduceIte, reduceCtorEq, fillAt, targetOf, itS, hv'.lenM, i1, not_true_eq_false, true_implies, false_implies, hv'.eaddrM hlt, (f32 _).call, pe_mksl4, e3, pe_inc (show n < 9223372036854775807 by omega)]
      exact LoopPost.next (n + 1, _) rfl ⟨hlt, by rw [List.take_succ_eq_append_getElem hlt]; exact .mk, rfl⟩ (by simp only; omega)
    · have i1 : ¬ (n : Int) < (l.length : Int) := by omega
      rw [List.take_of_length_le hge] at hu
      simp only [amS, Nat.reduceAdd, Nat.reduceLeDiff, Nat.reduceEqDiff, ↓reduceIte, reduceCtorEq, fillAt, targetOf, itS, hv'.lenM, i1, not_false_eq_true, true_implies, false_implies]
      exact ⟨_, rfl, hu⟩
  obtain ⟨r, h', hr, rfl, hu⟩ := hev.ret
  exact ⟨r, hr, hu⟩
/-- Same. -/
theorem f67 {l2 : List Item} (hv : IsItems l v) (hw : IsItems l2 w) (hb : l.length ≤ 100000) : Ret cx 67 [v, w] h (.bool (decide (l = l2))) h := by
  have hv' : IsSl 4 (l.map Item.row) v := hv
  have hw' : IsSl 4 (l2.map Item.row) w := hw
  rw [ret_iff, t67_eq, t67]
  simp only [amS, Nat.reduceAdd, Nat.reduceLeDiff, Nat.reduceEqDiff, ↓reduceIte, reduceCtorEq, fillAt, targetOf, hv'.lenM, hw'.lenM]
  refine ⟨fun h0 => ?_, fun h0 => ?_⟩
  · have : l ≠ l2 := fun e => h0 (by rw [e])
    simp [this]
  · have hlen : l.length = l2.length := by omega
    refine W_loop_st (fun n : Nat => [.bool false, .int .i64 (n : Int)]) (fun n h1 => n ≤ l.length ∧ l.take n = l2.take n ∧ h1 = h) (fun n => l.length - n) 0 rfl ⟨Nat.zero_le _, rfl, rfl⟩ ?_
    rintro n h1 ⟨hn, ha, rfl⟩
    rcases Nat.lt_or_ge n l.length with hlt | hge
    · have i1 : (n : Int) < (l.length : Int) := by omega
      have hlt2 : n < l2.length := by omega
      simp only [amS, Nat.reduceAdd, Nat.reduceLeDiff, Nat.reduceEqDiff, ↓reduceIte, reduceCtorEq, fillAt, targetOf, itS, hv'.lenM, i1, not_true_eq_false, true_implies, false_implies, hv'.eaddrM hlt, hw'.eaddrM hlt2, item_neq, pe_inc (show n < 9223372036854775807 by omega)]
      rw [cndW_iff]
      refine ⟨fun he => ?_, fun he => ?_⟩
      · have hne : l[n] ≠ l2[n] := by simpa using he
        have : l ≠ l2 := fun e => hne (by subst e; rfl)
        simp [this]
      · have he : l[n] = l2[n] := by simpa using he
        exact LoopPost.next (n + 1) rfl ⟨hlt, by rw [List.take_succ_eq_append_getElem hlt, List.take_succ_eq_append_getElem hlt2, ha, he], rfl⟩ (by omega)
    · have i1 : ¬ (n : Int) < (l.length : Int) := by omega
      rw [List.take_of_length_le hge, List.take_of_length_le (by omega)] at ha
      simp only [amS, Nat.reduceAdd, Nat.reduceLeDiff, Nat.reduceEqDiff, ↓reduceIte, reduceCtorEq, fillAt, targetOf, itS, hv'.lenM, i1, not_false_eq_true, true_implies, false_implies, decide_eq_true ha]
end
end Go.Am
