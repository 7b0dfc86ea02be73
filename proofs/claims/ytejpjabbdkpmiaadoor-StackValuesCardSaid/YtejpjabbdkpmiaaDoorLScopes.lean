/-
  StackScopes and StackReads as the abstract machine runs them: they return true. No law is claimed here.
-/
import Derived.Test.YtejpjabbdkpmiaaDoorSRef
namespace Go.Am
open Go
set_option maxRecDepth 100000
set_option linter.unusedSimpArgs false
set_option linter.unusedVariables false

theorem itemsOk.few {l : List Item} (h : itemsOk l) : l.length ≤ 100000 := by have := h.1; omega
theorem itemsOk.short {l : List Item} (h : itemsOk l) : ∀ a ∈ l, a.name.length < 9223372036854775807 := fun a ha => by have := h.2 a ha; omega
theorem strsOk.few {l : List Bytes} (h : strsOk l) : l.length ≤ 100000 := by have := h.1; omega
theorem item_neq {a b : Item} {neg : Bool} : peval (.geq neg [.i, .i, .s, .b]) [.agg a.row, .agg b.row] = some (.bool (decide (a = b) != neg)) := by
  rw [pe_geq_agg]
  have : flatEqs [.i, .i, .s, .b] a.row b.row = some (decide (a = b)) := by
    simp only [flatEqs, flatEq, Item.row, if_true, Option.some.injEq]
    cases a; cases b
    simp only [Item.mk.injEq]
    rw [Bool.eq_iff_iff]
    simp
  rw [this]; rfl

theorem hasV_int {v : AVal} {k : IntKind} (h : HasV (.int k) v) : ∃ n, v = .int k n := by obtain ⟨n, e, _⟩ := h; cases e; exact ⟨n, rfl⟩
theorem hasV_str {v : AVal} (h : HasV .str v) : ∃ s : Bytes, v = .str s := by obtain ⟨n, e, _⟩ := h; cases e; exact ⟨n, rfl⟩
theorem ev_scopes {v w : AVal} {l : List Item} {ws : List Bytes} (hv : IsItems l v) (hw : IsStrs ws w) (n node : Int) : Ev cx 3 [v, .int .i64 n, w, .int .i64 node] [] fun r _ => r = .bool true := by
  unfold Ev
  rw [t3_eq, t3]
  simp only [opW_some, opW_none, cndW_true, cndW_false, cndW_dec, W_ret_iff, W_fail_iff, W_op_iff, W_cells_iff, W_cnd_iff, W_load_iff, W_store_iff, W_alloc_iff, W_frz_iff, W_frzAt_iff, W_grow_iff, W_appendM_iff, W_objOf_iff, W_bytesObj_iff, W_mnew_iff, W_mset_iff, W_mget_iff, W_callv_iff, W_join_iff, pe_eql, pe_neq, pe_lss, pe_leq, pe_gtr, pe_geq, pe_not, pe_seql, pe_sneq, pe_slen, pe_part_none, pe_part_some, pe_ext, pe_nonnil_ptr, pe_nonnil_rptr, pe_nonnil_func, pe_faddr_rptr, pe_faddr_ptr, pe_peq_nn, pe_peq_sn, pe_peq_ns, pe_beq, pe_mkagg, hload_rptr, partOf_none, partOf_some, fillAt, List.getD_cons_zero, List.getD_cons_succ, List.getElem?_cons_zero, List.getElem?_cons_succ, List.drop_zero, List.drop_succ_cons, List.drop_nil, List.take_zero, List.take_succ_cons, List.length_cons, List.length_nil, List.cons_append, List.nil_append, List.zip_cons_cons, List.zip_nil_right, Option.map_some, Option.map_none, Nat.reduceAdd, Nat.reduceLeDiff, Nat.reduceEqDiff, Nat.zero_add, cells_agg, cells_int, cells_str, cells_bool, cells_ptr, cells_rptr, cells_slnil, cells_sl, cells_msl, cells_func, targetOf, and_self, and_true, true_and, if_true, if_false, ↓reduceIte, reduceCtorEq, LoopPost_exit, LoopPost_ret, (f21' hv []).call, (f22' hw []).call, known_iff]
  rw [cndW_iff, cndW_iff]
  refine ⟨fun _ => ⟨_, rfl, rfl⟩, fun h1 => ⟨fun _ => ⟨_, rfl, rfl⟩, fun h2 => ?_⟩⟩
  have h1 : itemsOk l := by simpa using h1
  have h2 : strsOk ws := by simpa using h2
  refine W_call (Ev.mono (f24 hv h1.few) ?_)
  rintro _ _ ⟨u, rfl, rfl, hu⟩
  have hs : SAt [AObj.cells [u]] (.ptr (some (0, 0))) l := SObj.at ⟨u, rfl, hu⟩
  simp only [opW_some, opW_none, cndW_true, cndW_false, cndW_dec, W_ret_iff, W_fail_iff, W_op_iff, W_cells_iff, W_cnd_iff, W_load_iff, W_store_iff, W_alloc_iff, W_frz_iff, W_frzAt_iff, W_grow_iff, W_appendM_iff, W_objOf_iff, W_bytesObj_iff, W_mnew_iff, W_mset_iff, W_mget_iff, W_callv_iff, W_join_iff, pe_eql, pe_neq, pe_lss, pe_leq, pe_gtr, pe_geq, pe_not, pe_seql, pe_sneq, pe_slen, pe_part_none, pe_part_some, pe_ext, pe_nonnil_ptr, pe_nonnil_rptr, pe_nonnil_func, pe_faddr_rptr, pe_faddr_ptr, pe_peq_nn, pe_peq_sn, pe_peq_ns, pe_beq, pe_mkagg, hload_rptr, partOf_none, partOf_some, fillAt, List.getD_cons_zero, List.getD_cons_succ, List.getElem?_cons_zero, List.getElem?_cons_succ, List.drop_zero, List.drop_succ_cons, List.drop_nil, List.take_zero, List.take_succ_cons, List.length_cons, List.length_nil, List.cons_append, List.nil_append, List.zip_cons_cons, List.zip_nil_right, Option.map_some, Option.map_none, Nat.reduceAdd, Nat.reduceLeDiff, Nat.reduceEqDiff, Nat.zero_add, cells_agg, cells_int, cells_str, cells_bool, cells_ptr, cells_rptr, cells_slnil, cells_sl, cells_msl, cells_func, targetOf, and_self, and_true, true_and, if_true, if_false, ↓reduceIte, reduceCtorEq, LoopPost_exit, LoopPost_ret, Item.len_row, Item.g0, Item.g1, Item.g2, Item.g3, Item.at0, Item.take_row, Item.drop1, Item.drop2, Item.drop3, Item.fold, Nat.zero_lt_one, List.append_nil, (f25 hs h1.few n hw h2.few).call, (f26 hv h1.few h1.short n hw h2.few).call, (f27 hs h1.few n node).call, (f28 hv h1.few h1.short n node).call, known_iff, beq_self_eq_true, Bool.bne_false]
  exact ⟨_, rfl, rfl⟩
theorem all_scopes : ∀ l, HasArgs [.sl tItem, .int .i64, .sl .str, .int .i64] l → Ev cx 3 l [] fun r _ => r = .bool true := by
  rintro _ ⟨a, _, rfl, ha, b, _, rfl, hb, c, _, rfl, hc, d, _, rfl, hd, rfl⟩
  obtain ⟨l, hv⟩ := has_items ha
  obtain ⟨n, rfl⟩ := hasV_int hb
  obtain ⟨m, rfl⟩ := hasV_int hd
  obtain ⟨ws, hw⟩ := has_strs hc
  exact ev_scopes hv hw _ _

theorem ev_reads {v : AVal} {l : List Item} (hv : IsItems l v) (i node : Int) (s : Bytes) : Ev cx 7 [v, .int .i64 i, .int .i64 node, .str s] [] fun r _ => r = .bool true := by
  unfold Ev
  rw [t7_eq, t7]
  simp only [opW_some, opW_none, cndW_true, cndW_false, cndW_dec, W_ret_iff, W_fail_iff, W_op_iff, W_cells_iff, W_cnd_iff, W_load_iff, W_store_iff, W_alloc_iff, W_frz_iff, W_frzAt_iff, W_grow_iff, W_appendM_iff, W_objOf_iff, W_bytesObj_iff, W_mnew_iff, W_mset_iff, W_mget_iff, W_callv_iff, W_join_iff, pe_eql, pe_neq, pe_lss, pe_leq, pe_gtr, pe_geq, pe_not, pe_seql, pe_sneq, pe_slen, pe_part_none, pe_part_some, pe_ext, pe_nonnil_ptr, pe_nonnil_rptr, pe_nonnil_func, pe_faddr_rptr, pe_faddr_ptr, pe_peq_nn, pe_peq_sn, pe_peq_ns, pe_beq, pe_mkagg, hload_rptr, partOf_none, partOf_some, fillAt, List.getD_cons_zero, List.getD_cons_succ, List.getElem?_cons_zero, List.getElem?_cons_succ, List.drop_zero, List.drop_succ_cons, List.drop_nil, List.take_zero, List.take_succ_cons, List.length_cons, List.length_nil, List.cons_append, List.nil_append, List.zip_cons_cons, List.zip_nil_right, Option.map_some, Option.map_none, Nat.reduceAdd, Nat.reduceLeDiff, Nat.reduceEqDiff, Nat.zero_add, cells_agg, cells_int, cells_str, cells_bool, cells_ptr, cells_rptr, cells_slnil, cells_sl, cells_msl, cells_func, targetOf, and_self, and_true, true_and, if_true, if_false, ↓reduceIte, reduceCtorEq, LoopPost_exit, LoopPost_ret, (f21' hv []).call, known_iff]
  rw [cndW_iff]
  refine ⟨fun _ => ⟨_, rfl, rfl⟩, fun h1 => ⟨fun _ => ⟨_, rfl, rfl⟩, fun h2 => ?_⟩⟩
  have h1 : itemsOk l := by simpa using h1
  refine W_call (Ev.mono (f24 hv h1.few) ?_)
  rintro _ _ ⟨u, rfl, rfl, hu⟩
  have hs : SAt [AObj.cells [u]] (.ptr (some (0, 0))) l := SObj.at ⟨u, rfl, hu⟩
  simp only [opW_some, opW_none, cndW_true, cndW_false, cndW_dec, W_ret_iff, W_fail_iff, W_op_iff, W_cells_iff, W_cnd_iff, W_load_iff, W_store_iff, W_alloc_iff, W_frz_iff, W_frzAt_iff, W_grow_iff, W_appendM_iff, W_objOf_iff, W_bytesObj_iff, W_mnew_iff, W_mset_iff, W_mget_iff, W_callv_iff, W_join_iff, pe_eql, pe_neq, pe_lss, pe_leq, pe_gtr, pe_geq, pe_not, pe_seql, pe_sneq, pe_slen, pe_part_none, pe_part_some, pe_ext, pe_nonnil_ptr, pe_nonnil_rptr, pe_nonnil_func, pe_faddr_rptr, pe_faddr_ptr, pe_peq_nn, pe_peq_sn, pe_peq_ns, pe_beq, pe_mkagg, hload_rptr, partOf_none, partOf_some, fillAt, List.getD_cons_zero, List.getD_cons_succ, List.getElem?_cons_zero, List.getElem?_cons_succ, List.drop_zero, List.drop_succ_cons, List.drop_nil, List.take_zero, List.take_succ_cons, List.length_cons, List.length_nil, List.cons_append, List.nil_append, List.zip_cons_cons, List.zip_nil_right, Option.map_some, Option.map_none, Nat.reduceAdd, Nat.reduceLeDiff, Nat.reduceEqDiff, Nat.zero_add, cells_agg, cells_int, cells_str, cells_bool, cells_ptr, cells_rptr, cells_slnil, cells_sl, cells_msl, cells_func, targetOf, and_self, and_true, true_and, if_true, if_false, ↓reduceIte, reduceCtorEq, LoopPost_exit, LoopPost_ret, Item.len_row, Item.g0, Item.g1, Item.g2, Item.g3, Item.at0, Item.take_row, Item.drop1, Item.drop2, Item.drop3, Item.fold, Nat.zero_lt_one, List.append_nil, (f48 hs i).call, (f32 _).call, (f37 hv i).call, item_neq, (f40 hs h1.few node).call, (f49 hv h1.few node).call, (f39 hs h1.few s).call, (f50 hv h1.few s).call, (f51 hs h1.few node).call, (f52 hv h1.few h1.short node).call, (f34 hs).call, IsSl.lenM hv, known_iff, decide_true, bne_self_eq_false, cndW_false, ne_eq, not_true_eq_false, not_false_eq_true, false_implies, true_implies]
  exact ⟨_, rfl, rfl⟩
theorem all_reads : ∀ l, HasArgs [.sl tItem, .int .i64, .int .i64, .str] l → Ev cx 7 l [] fun r _ => r = .bool true := by
  rintro _ ⟨a, _, rfl, ha, b, _, rfl, hb, c, _, rfl, hc, d, _, rfl, hd, rfl⟩
  obtain ⟨l, hv⟩ := has_items ha
  obtain ⟨n, rfl⟩ := hasV_int hb
  obtain ⟨m, rfl⟩ := hasV_int hc
  obtain ⟨s, rfl⟩ := hasV_str hd
  exact ev_reads hv _ _ _
end Go.Am
