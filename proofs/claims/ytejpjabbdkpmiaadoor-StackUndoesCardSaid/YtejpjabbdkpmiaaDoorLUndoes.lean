/-
  StackUndoes as the abstract machine runs it: it returns true. No law is claimed here.
-/
import Derived.Test.YtejpjabbdkpmiaaDoorLFirst
namespace Go.Am
open Go
set_option maxRecDepth 100000
set_option linter.unusedSimpArgs false
set_option linter.unusedVariables false

section
variable {q : Item → Bool} {l : List Item} {a : Item}
theorem lastIdx_none (h : ∀ b ∈ l, q b = false) : lastIdx q l = -1 := by
  rcases lastIdx_spec (q := q) (l := l) with ⟨h1, _⟩ | ⟨n, hn, h1, h2, _⟩
  · exact h1
  · rw [h _ (List.getElem_mem hn)] at h2; cases h2
/-- Where an item that has been put in is found. -/
theorem lastIdx_insert (h : ∀ b ∈ l, q b = false) (hq : q a = true) {k : Nat} (hk : k ≤ l.length) : lastIdx q (l.take k ++ a :: l.drop k) = (k : Int) := by
  have hat : (l.take k ++ a :: l.drop k)[k]? = some a := by
    rw [List.getElem?_append_right (by rw [List.length_take]; omega), List.length_take, Nat.min_eq_left hk, Nat.sub_self]; rfl
  rcases lastIdx_spec (q := q) (l := l.take k ++ a :: l.drop k) with ⟨_, h2⟩ | ⟨n, hn, h1, h2, h3⟩
  · rw [h2 a (by simp)] at hq; cases hq
  · rw [h1]
    have hkl : k < (l.take k ++ a :: l.drop k).length := (List.getElem?_eq_some_iff.1 hat).1
    rcases Nat.lt_trichotomy n k with hlt | rfl | hgt
    · have := h3 k hkl hlt
      rw [(List.getElem?_eq_some_iff.1 hat).2] at this
      rw [this] at hq; cases hq
    · rfl
    · exfalso
      have hm : (l.take k ++ a :: l.drop k)[n] ∈ l := by
        rw [List.getElem_append_right (by rw [List.length_take]; omega)]
        have : n - (l.take k).length = (n - k - 1) + 1 := by rw [List.length_take]; omega
        simp only [this, List.getElem_cons_succ]
        exact List.mem_of_mem_drop (List.getElem_mem _)
      rw [h _ hm] at h2; cases h2
theorem drop_insert {k : Nat} (hk : k ≤ l.length) : dropAt (l.take k ++ a :: l.drop k) k = l := by
  unfold dropAt
  have e1 : (l.take k).length = k := by rw [List.length_take]; omega
  rw [List.take_append_of_le_length (by omega), List.take_of_length_le (by omega), List.drop_append, List.drop_of_length_le (by omega), e1, show k + 1 - k = 1 by omega]
  simp
end

theorem fill_item (x : Item) : fillAt [.int .i64 0, .int .i64 0, .str [], .bool false] ([(0, 1), (1, 1), (2, 1), (3, 1)].zip x.row) = some x.row := rfl
theorem ev_undoes {v : AVal} {l : List Item} (hv : IsItems l v) (x : Item) (i : Int) : Ev cx 11 [v, .agg x.row, .int .i64 i] [] fun r _ => r = .bool true := by
  have hv' : IsSl 4 (l.map Item.row) v := hv
  unfold Ev
  rw [t11_eq, t11]
  simp only [opW_some, opW_none, cndW_true, cndW_false, cndW_dec, W_ret_iff, W_fail_iff, W_op_iff, W_cells_iff, W_cnd_iff, W_load_iff, W_store_iff, W_alloc_iff, W_frz_iff, W_frzAt_iff, W_grow_iff, W_appendM_iff, W_objOf_iff, W_bytesObj_iff, W_mnew_iff, W_mset_iff, W_mget_iff, W_callv_iff, W_join_iff, pe_eql, pe_neq, pe_lss, pe_leq, pe_gtr, pe_geq, pe_not, pe_seql, pe_sneq, pe_slen, pe_part_none, pe_part_some, pe_ext, pe_nonnil_ptr, pe_nonnil_rptr, pe_nonnil_func, pe_faddr_rptr, pe_faddr_ptr, pe_peq_nn, pe_peq_sn, pe_peq_ns, pe_beq, pe_mkagg, hload_rptr, partOf_none, partOf_some, fillAt, List.getD_cons_zero, List.getD_cons_succ, List.getElem?_cons_zero, List.getElem?_cons_succ, List.drop_zero, List.drop_succ_cons, List.drop_nil, List.take_zero, List.take_succ_cons, List.length_cons, List.length_nil, List.cons_append, List.nil_append, List.zip_cons_cons, List.zip_nil_right, Option.map_some, Option.map_none, Nat.reduceAdd, Nat.reduceLeDiff, Nat.reduceEqDiff, Nat.zero_add, cells_agg, cells_int, cells_str, cells_bool, cells_ptr, cells_rptr, cells_slnil, cells_sl, cells_msl, cells_func, targetOf, and_self, and_true, true_and, if_true, if_false, ↓reduceIte, reduceCtorEq, LoopPost_exit, LoopPost_ret, Item.len_row, Item.g0, Item.g1, Item.g2, Item.g3, Item.at0, Item.take_row, Item.drop1, Item.drop2, Item.drop3, Item.fold, Nat.zero_lt_one, List.append_nil, (f21' hv []).call, hv'.lenM, known_iff]
  rw [cndW_iff]
  refine ⟨fun _ => ⟨_, rfl, rfl⟩, fun h0 => ⟨fun _ => ⟨_, rfl, rfl⟩, fun h1 => ⟨fun _ => ⟨_, rfl, rfl⟩, fun h2 => ?_⟩⟩⟩
  have h0 : itemsOk l := by simpa using h0
  have hb := h0.few
  refine W_call (Ev.mono (f24 hv hb) ?_)
  rintro _ _ ⟨u, rfl, rfl, hu⟩
  have hs : SObj [AObj.cells [u]] 0 l := ⟨u, rfl, hu⟩
  simp only [opW_some, opW_none, cndW_true, cndW_false, cndW_dec, W_ret_iff, W_fail_iff, W_op_iff, W_cells_iff, W_cnd_iff, W_load_iff, W_store_iff, W_alloc_iff, W_frz_iff, W_frzAt_iff, W_grow_iff, W_appendM_iff, W_objOf_iff, W_bytesObj_iff, W_mnew_iff, W_mset_iff, W_mget_iff, W_callv_iff, W_join_iff, pe_eql, pe_neq, pe_lss, pe_leq, pe_gtr, pe_geq, pe_not, pe_seql, pe_sneq, pe_slen, pe_part_none, pe_part_some, pe_ext, pe_nonnil_ptr, pe_nonnil_rptr, pe_nonnil_func, pe_faddr_rptr, pe_faddr_ptr, pe_peq_nn, pe_peq_sn, pe_peq_ns, pe_beq, pe_mkagg, hload_rptr, partOf_none, partOf_some, fillAt, List.getD_cons_zero, List.getD_cons_succ, List.getElem?_cons_zero, List.getElem?_cons_succ, List.drop_zero, List.drop_succ_cons, List.drop_nil, List.take_zero, List.take_succ_cons, List.length_cons, List.length_nil, List.cons_append, List.nil_append, List.zip_cons_cons, List.zip_nil_right, Option.map_some, Option.map_none, Nat.reduceAdd, Nat.reduceLeDiff, Nat.reduceEqDiff, Nat.zero_add, cells_agg, cells_int, cells_str, cells_bool, cells_ptr, cells_rptr, cells_slnil, cells_sl, cells_msl, cells_func, targetOf, and_self, and_true, true_and, if_true, if_false, ↓reduceIte, reduceCtorEq, LoopPost_exit, LoopPost_ret, Item.len_row, Item.g0, Item.g1, Item.g2, Item.g3, Item.at0, Item.take_row, Item.drop1, Item.drop2, Item.drop3, Item.fold, Nat.zero_lt_one, List.append_nil, (f40 hs.at hb x.node).call]
  rcases lastIdx_spec (q := isNode x.node) (l := l) with ⟨e1, hno⟩ | ⟨k, hk, e1, hq, _⟩
  · rw [e1]
    simp only [opW_some, opW_none, cndW_true, cndW_false, cndW_dec, W_ret_iff, W_fail_iff, W_op_iff, W_cells_iff, W_cnd_iff, W_load_iff, W_store_iff, W_alloc_iff, W_frz_iff, W_frzAt_iff, W_grow_iff, W_appendM_iff, W_objOf_iff, W_bytesObj_iff, W_mnew_iff, W_mset_iff, W_mget_iff, W_callv_iff, W_join_iff, pe_eql, pe_neq, pe_lss, pe_leq, pe_gtr, pe_geq, pe_not, pe_seql, pe_sneq, pe_slen, pe_part_none, pe_part_some, pe_ext, pe_nonnil_ptr, pe_nonnil_rptr, pe_nonnil_func, pe_faddr_rptr, pe_faddr_ptr, pe_peq_nn, pe_peq_sn, pe_peq_ns, pe_beq, pe_mkagg, hload_rptr, partOf_none, partOf_some, fillAt, List.getD_cons_zero, List.getD_cons_succ, List.getElem?_cons_zero, List.getElem?_cons_succ, List.drop_zero, List.drop_succ_cons, List.drop_nil, List.take_zero, List.take_succ_cons, List.length_cons, List.length_nil, List.cons_append, List.nil_append, List.zip_cons_cons, List.zip_nil_right, Option.map_some, Option.map_none, Nat.reduceAdd, Nat.reduceLeDiff, Nat.reduceEqDiff, Nat.zero_add, cells_agg, cells_int, cells_str, cells_bool, cells_ptr, cells_rptr, cells_slnil, cells_sl, cells_msl, cells_func, targetOf, and_self, and_true, true_and, if_true, if_false, ↓reduceIte, reduceCtorEq, LoopPost_exit, LoopPost_ret, show ¬ (0 : Int) ≤ -1 by decide, not_false_eq_true, true_implies, false_implies]
    obtain ⟨u2, r2, hu2⟩ := f69 hs hb x i
    obtain ⟨p, hp0, hp⟩ : ∃ p, p = insertPos i l.length ∧ p ≤ l.length := ⟨_, rfl, by unfold insertPos; omega⟩
    have hp1 : 1 ≤ p := by
      have : 1 ≤ l.length := by omega
      rw [hp0]; unfold insertPos; omega
    rw [← hp0] at hu2
    have hs2 : SObj [AObj.cells [u2]] 0 (l.take p ++ x :: l.drop p) := ⟨u2, rfl, hu2⟩
    have hl2 : (l.take p ++ x :: l.drop p).length = l.length + 1 := by rw [List.length_append, List.length_take, List.length_cons, List.length_drop]; omega
    have hidx := lastIdx_insert (a := x) hno (by simp [isNode]) hp
    have r3 := f40 hs2.at (by rw [hl2]; have := h0.1; omega) x.node
    rw [hidx] at r3
    have r4 := f34 hs2.at
    rw [hl2] at r4
    obtain ⟨u5, r5, hu5⟩ := f70 hs2 (by rw [hl2]; have := h0.1; omega) x.node
    have hrem : removed x.node (l.take p ++ x :: l.drop p) = l := by
      unfold removed
      rw [hidx, if_neg (by omega), Int.toNat_natCast, drop_insert hp]
    rw [hrem] at hu5
    rw [hidx, decide_eq_true (show (1 : Int) ≤ (p : Int) by omega)] at r5
    obtain ⟨u6, r6, hu6⟩ := f68 (h := [AObj.cells [u5]]) hu5 hb
    have hset2 : List.set [AObj.cells [u]] 0 (AObj.cells [u2]) = [AObj.cells [u2]] := rfl
    have hset5 : List.set [AObj.cells [u2]] 0 (AObj.cells [u5]) = [AObj.cells [u5]] := rfl
    rw [hset2] at r2
    rw [hset5] at r5
    have c5 : [AObj.cells [u5]][0]? = some (AObj.cells [u5]) := rfl
    have r7 := f67 (h := [AObj.cells [u5]]) hu6 hv hb
    rw [decide_eq_true rfl] at r7
    have ad : peval (.int .add) [.int .i64 (l.length : Int), .int .i64 1] = some (.int .i64 ((l.length + 1 : Nat) : Int)) := pe_inc (by omega)
    simp only [opW_some, opW_none, cndW_true, cndW_false, cndW_dec, W_ret_iff, W_fail_iff, W_op_iff, W_cells_iff, W_cnd_iff, W_load_iff, W_store_iff, W_alloc_iff, W_frz_iff, W_frzAt_iff, W_grow_iff, W_appendM_iff, W_objOf_iff, W_bytesObj_iff, W_mnew_iff, W_mset_iff, W_mget_iff, W_callv_iff, W_join_iff, pe_eql, pe_neq, pe_lss, pe_leq, pe_gtr, pe_geq, pe_not, pe_seql, pe_sneq, pe_slen, pe_part_none, pe_part_some, pe_ext, pe_nonnil_ptr, pe_nonnil_rptr, pe_nonnil_func, pe_faddr_rptr, pe_faddr_ptr, pe_peq_nn, pe_peq_sn, pe_peq_ns, pe_beq, pe_mkagg, hload_rptr, partOf_none, partOf_some, fillAt, List.getD_cons_zero, List.getD_cons_succ, List.getElem?_cons_zero, List.getElem?_cons_succ, List.drop_zero, List.drop_succ_cons, List.drop_nil, List.take_zero, List.take_succ_cons, List.length_cons, List.length_nil, List.cons_append, List.nil_append, List.zip_cons_cons, List.zip_nil_right, Option.map_some, Option.map_none, Nat.reduceAdd, Nat.reduceLeDiff, Nat.reduceEqDiff, Nat.zero_add, cells_agg, cells_int, cells_str, cells_bool, cells_ptr, cells_rptr, cells_slnil, cells_sl, cells_msl, cells_func, targetOf, and_self, and_true, true_and, if_true, if_false, ↓reduceIte, reduceCtorEq, LoopPost_exit, LoopPost_ret, Item.len_row, Item.g0, Item.g1, Item.g2, Item.g3, Item.at0, Item.take_row, Item.drop1, Item.drop2, Item.drop3, Item.fold, Nat.zero_lt_one, List.append_nil, fill_item, Option.map_some, r2.call, r3.call, r4.call, hv'.lenM, ad, ne_eq, not_true_eq_false, not_false_eq_true, true_implies, false_implies, show ¬ (p : Int) < 1 by omega, r5.call, hload_at c5, Nat.add_zero, r6.call, r7.call, known_iff]
    refine ⟨fun h3 => ⟨fun h4 => ?_, fun h4 => ⟨_, rfl, rfl⟩⟩, fun h3 => ⟨_, rfl, rfl⟩⟩
    have : (p : Int) = i := by rw [hp0]; unfold insertPos; omega
    simp only [this, not_true_eq_false, true_implies, false_implies, not_false_eq_true, and_true]
    exact ⟨trivial, _, rfl, rfl⟩
  · rw [e1]
    simp only [opW_some, opW_none, cndW_true, cndW_false, cndW_dec, W_ret_iff, W_fail_iff, W_op_iff, W_cells_iff, W_cnd_iff, W_load_iff, W_store_iff, W_alloc_iff, W_frz_iff, W_frzAt_iff, W_grow_iff, W_appendM_iff, W_objOf_iff, W_bytesObj_iff, W_mnew_iff, W_mset_iff, W_mget_iff, W_callv_iff, W_join_iff, pe_eql, pe_neq, pe_lss, pe_leq, pe_gtr, pe_geq, pe_not, pe_seql, pe_sneq, pe_slen, pe_part_none, pe_part_some, pe_ext, pe_nonnil_ptr, pe_nonnil_rptr, pe_nonnil_func, pe_faddr_rptr, pe_faddr_ptr, pe_peq_nn, pe_peq_sn, pe_peq_ns, pe_beq, pe_mkagg, hload_rptr, partOf_none, partOf_some, fillAt, List.getD_cons_zero, List.getD_cons_succ, List.getElem?_cons_zero, List.getElem?_cons_succ, List.drop_zero, List.drop_succ_cons, List.drop_nil, List.take_zero, List.take_succ_cons, List.length_cons, List.length_nil, List.cons_append, List.nil_append, List.zip_cons_cons, List.zip_nil_right, Option.map_some, Option.map_none, Nat.reduceAdd, Nat.reduceLeDiff, Nat.reduceEqDiff, Nat.zero_add, cells_agg, cells_int, cells_str, cells_bool, cells_ptr, cells_rptr, cells_slnil, cells_sl, cells_msl, cells_func, targetOf, and_self, and_true, true_and, if_true, if_false, ↓reduceIte, reduceCtorEq, LoopPost_exit, LoopPost_ret, show (0 : Int) ≤ (k : Int) by omega, not_true_eq_false, true_implies, false_implies, (f40 hs.at hb x.node).call, e1, (f48 hs.at _).call, itemAt_lt hk]
    obtain ⟨h2, r2, u2, t2, eh2, hu2⟩ := f66 hs hb x.node l[k]
    have hrep : replaced x.node l[k] l = l := by
      unfold replaced
      split
      · rfl
      · rw [e1, Int.toNat_natCast, List.set_getElem_self]
    rw [hrep] at hu2
    have hset2 : List.set [AObj.cells [u]] 0 (AObj.cells [u2]) = [AObj.cells [u2]] := rfl
    rw [hset2] at eh2
    subst eh2
    have hs2 : SObj ([AObj.cells [u2]] ++ t2) 0 l := SObj.app ⟨u2, rfl, hu2⟩ t2
    obtain ⟨u6, r6, hu6⟩ := f68 (h := [AObj.cells [u2]] ++ t2) hu2 hb
    have c5 : ([AObj.cells [u2]] ++ t2)[0]? = some (AObj.cells [u2]) := rfl
    have r7 := f67 (h := [AObj.cells [u2]] ++ t2) hu6 hv hb
    rw [decide_eq_true rfl] at r7
    have r3 := f40 hs2.at hb x.node
    rw [e1] at r2 r3
    have hd : decide (1 ≤ (k : Int)) = decide (0 < (k : Int)) := by rw [decide_eq_decide]; omega
    rw [hd] at r2
    simp only [List.cons_append, List.nil_append] at r2 r3 c5 r6 r7
    simp only [opW_some, opW_none, cndW_true, cndW_false, cndW_dec, W_ret_iff, W_fail_iff, W_op_iff, W_cells_iff, W_cnd_iff, W_load_iff, W_store_iff, W_alloc_iff, W_frz_iff, W_frzAt_iff, W_grow_iff, W_appendM_iff, W_objOf_iff, W_bytesObj_iff, W_mnew_iff, W_mset_iff, W_mget_iff, W_callv_iff, W_join_iff, pe_eql, pe_neq, pe_lss, pe_leq, pe_gtr, pe_geq, pe_not, pe_seql, pe_sneq, pe_slen, pe_part_none, pe_part_some, pe_ext, pe_nonnil_ptr, pe_nonnil_rptr, pe_nonnil_func, pe_faddr_rptr, pe_faddr_ptr, pe_peq_nn, pe_peq_sn, pe_peq_ns, pe_beq, pe_mkagg, hload_rptr, partOf_none, partOf_some, fillAt, List.getD_cons_zero, List.getD_cons_succ, List.getElem?_cons_zero, List.getElem?_cons_succ, List.drop_zero, List.drop_succ_cons, List.drop_nil, List.take_zero, List.take_succ_cons, List.length_cons, List.length_nil, List.cons_append, List.nil_append, List.zip_cons_cons, List.zip_nil_right, Option.map_some, Option.map_none, Nat.reduceAdd, Nat.reduceLeDiff, Nat.reduceEqDiff, Nat.zero_add, cells_agg, cells_int, cells_str, cells_bool, cells_ptr, cells_rptr, cells_slnil, cells_sl, cells_msl, cells_func, targetOf, and_self, and_true, true_and, if_true, if_false, ↓reduceIte, reduceCtorEq, LoopPost_exit, LoopPost_ret, Item.len_row, Item.g0, Item.g1, Item.g2, Item.g3, Item.at0, Item.take_row, Item.drop1, Item.drop2, Item.drop3, Item.fold, Nat.zero_lt_one, List.append_nil, r2.call, r3.call, beq_self_eq_true, Bool.bne_false, hload_at c5, Nat.add_zero, r6.call, r7.call, known_iff]
    exact ⟨_, rfl, rfl⟩
theorem all_undoes : ∀ l, HasArgs [.sl tItem, tItem, .int .i64] l → Ev cx 11 l [] fun r _ => r = .bool true := by
  rintro _ ⟨a, _, rfl, ha, b, _, rfl, hb, c, _, rfl, hc, rfl⟩
  obtain ⟨l, hv⟩ := has_items ha
  obtain ⟨x, rfl⟩ := hasV_item hb
  obtain ⟨n, rfl⟩ := hasV_int hc
  exact ev_undoes hv x n
end Go.Am
