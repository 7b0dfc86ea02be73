/-
  StackBreaks as the abstract machine runs it: it returns true. No law is claimed here.
-/
import Derived.Test.YtejpjabbdkpmiaaDoorSPoints
namespace Go.Am
open Go
set_option maxRecDepth 100000
set_option linter.unusedSimpArgs false
set_option linter.unusedVariables false

structure Token where
  kind : Int
  name : Bytes
  hasName : Bool
  pub : Bytes
  hasPub : Bool
  sys : Bytes
  hasSys : Bool
  quirks : Bool
  attrs : AVal
  self : Bool
  data : Bytes
  rune : Int
def Token.row (t : Token) : List AVal := [.int .i64 t.kind, .str t.name, .bool t.hasName, .str t.pub, .bool t.hasPub, .str t.sys, .bool t.hasSys, .bool t.quirks, t.attrs, .bool t.self, .str t.data, .int .i32 t.rune]
abbrev tToken : Ty := .st [.int .i64, .str, .bool, .str, .bool, .str, .bool, .bool, .sl tAttr, .bool, .str, .int .i32]
theorem has_token (r : List AVal) (h : Has tToken r) : ∃ a : Token, r = a.row ∧ ∃ l, IsAttrs l a.attrs := by
  obtain ⟨x1, y1, rfl, h1, h⟩ := hasL_cons h
  obtain ⟨x2, y2, rfl, h2, h⟩ := hasL_cons h
  obtain ⟨x3, y3, rfl, h3, h⟩ := hasL_cons h
  obtain ⟨x4, y4, rfl, h4, h⟩ := hasL_cons h
  obtain ⟨x5, y5, rfl, h5, h⟩ := hasL_cons h
  obtain ⟨x6, y6, rfl, h6, h⟩ := hasL_cons h
  obtain ⟨x7, y7, rfl, h7, h⟩ := hasL_cons h
  obtain ⟨x8, y8, rfl, h8, h⟩ := hasL_cons h
  obtain ⟨x9, y9, rfl, h9, h⟩ := hasL_cons h
  obtain ⟨x10, y10, rfl, h10, h⟩ := hasL_cons h
  obtain ⟨x11, y11, rfl, h11, h⟩ := hasL_cons h
  obtain ⟨x12, y12, rfl, h12, h⟩ := hasL_cons h
  obtain rfl := hasL_nil h
  obtain ⟨n1, rfl⟩ := has_int h1
  obtain ⟨n2, rfl⟩ := has_str h2
  obtain ⟨n3, rfl⟩ := has_bool h3
  obtain ⟨n4, rfl⟩ := has_str h4
  obtain ⟨n5, rfl⟩ := has_bool h5
  obtain ⟨n6, rfl⟩ := has_str h6
  obtain ⟨n7, rfl⟩ := has_bool h7
  obtain ⟨n8, rfl⟩ := has_bool h8
  obtain ⟨v, rfl, h9⟩ := hasSl_one h9
  obtain ⟨l, h9, _, _⟩ := has_sl has_attr h9
  obtain ⟨n10, rfl⟩ := has_bool h10
  obtain ⟨n11, rfl⟩ := has_str h11
  obtain ⟨n12, rfl⟩ := has_int h12
  exact ⟨⟨n1, n2, n3, n4, n5, n6, n7, n8, v, n10, n11, n12⟩, rfl, l, h9⟩

/-- What Breakout returns. -/
def breakout (t : Token) (l : List Attr) : Bool :=
  if t.kind = 3 then decide (t.name = [98,114] ∨ t.name = [112])
  else if t.kind ≠ 2 then false else if t.name = [102,111,110,116] then l.any isFont else decide (t.name ∈ rBreakouts)

/-- A switch over words, on a value. -/
def swA (a : AVal) (t e : IT) : List Bytes → IT
  | [] => e
  | c :: cs => .op (.str .eql) [a, .str c] fun v => .cnd v t (swA a t e cs)
theorem swA_eq {s : Bytes} {t e : IT} : ∀ {cs : List Bytes}, swA (.str s) t e cs = sw s t e cs
  | [] => rfl
  | c :: cs => by rw [swA, sw, swA_eq]
theorem f53 (t : Token) {l : List Attr} (hv : IsAttrs l t.attrs) (hn : l.length < 9223372036854775807) (h : AHeap) : Ret cx 53 [.agg t.row] h (.bool (breakout t l)) h := by
  rw [ret_iff, t53_eq]
  rw [show t53 (.agg t.row) = .cells 12 (.agg t.row) fun c0 => .op (.int .eql) [g c0 0, I 3] fun v1 => .cnd v1 (.op (.str .eql) [g c0 1, S [98,114]] fun v2 => .cnd v2 (.ret .ret [tt]) (.op (.str .eql) [g c0 1, S [112]] fun v3 => .ret .ret [v3]))
    (.op (.int .neq) [g c0 0, I 2] fun v4 => .cnd v4 (.ret .ret [ff]) (swA (g c0 1) (.ret .ret [tt]) (swA (g c0 1) (.call 114 [g c0 8, .func (.func 115) [] []] fun v50 => .ret .ret [v50]) (.ret .ret [ff]) [[102,111,110,116]]) rBreakouts)) from rfl]
  simp only [opW_some, opW_none, cndW_true, cndW_false, cndW_dec, W_ret_iff, W_fail_iff, W_op_iff, W_cells_iff, W_cnd_iff, W_load_iff, W_store_iff, W_alloc_iff, W_frz_iff, W_frzAt_iff, W_objOf_iff, W_bytesObj_iff, W_mnew_iff, W_mset_iff, W_mget_iff, W_callv_iff, W_join_iff, pe_eql, pe_neq, pe_lss, pe_leq, pe_gtr, pe_geq, pe_not, pe_seql, pe_sneq, pe_slen, pe_part_none, pe_part_some, pe_ext, pe_nonnil_ptr, pe_nonnil_rptr, pe_nonnil_func, pe_faddr_rptr, pe_faddr_ptr, pe_peq_nn, pe_peq_sn, pe_peq_ns, pe_beq, pe_mkagg, hload_rptr, partOf_none, partOf_some, fillAt, List.getD_cons_zero, List.getD_cons_succ, List.getElem?_cons_zero, List.getElem?_cons_succ, List.drop_zero, List.drop_succ_cons, List.drop_nil, List.take_zero, List.take_succ_cons, List.length_cons, List.length_nil, List.cons_append, List.nil_append, List.zip_cons_cons, List.zip_nil_right, Option.map_some, Option.map_none, Nat.reduceAdd, Nat.reduceLeDiff, Nat.reduceEqDiff, Nat.zero_add, cells_agg, cells_int, cells_str, cells_bool, cells_ptr, cells_rptr, cells_slnil, cells_sl, cells_msl, cells_func, targetOf, and_self, and_true, true_and, if_true, if_false, ↓reduceIte, reduceCtorEq, LoopPost_exit, LoopPost_ret, Token.row, swA_eq, W_sw, (f114 hv hn h (fun a _ => f115 a h)).call, breakout]
  refine ⟨fun h3 => ⟨fun h4 => by simp [h3, h4], fun h4 => by simp [h3, h4]⟩, fun h3 => ⟨fun h4 => by simp [h3, h4], fun h4 => ?_⟩⟩
  rw [if_neg h3, if_neg h4]
  have hf : ([102,111,110,116] : Bytes) ∉ rBreakouts := by decide +kernel
  refine ⟨fun h5 => ?_, fun h5 => ⟨fun h6 => ?_, fun h6 => ?_⟩⟩
  · have : ¬ t.name = [102,111,110,116] := fun e => hf (e ▸ h5)
    simp [this, h5]
  · have : t.name = [102,111,110,116] := by simpa using h6
    simp [this]
  · have : ¬ t.name = [102,111,110,116] := by simpa using h6
    simp [this, h5]

theorem f54 (t : Token) {l : List Attr} (hv : IsAttrs l t.attrs) (hn : l.length < 9223372036854775807) (hs : t.name.length < 9223372036854775807) (hl : ∀ a ∈ l, a.name.length < 9223372036854775807) (h : AHeap) : Ret cx 54 [.agg t.row] h (.bool (breakout t l)) h := by
  rw [ret_iff, t54_eq, t54, Token.row]
  simp only [opW_some, opW_none, cndW_true, cndW_false, cndW_dec, W_ret_iff, W_fail_iff, W_op_iff, W_cells_iff, W_cnd_iff, W_load_iff, W_store_iff, W_alloc_iff, W_frz_iff, W_frzAt_iff, W_objOf_iff, W_bytesObj_iff, W_mnew_iff, W_mset_iff, W_mget_iff, W_callv_iff, W_join_iff, pe_eql, pe_neq, pe_lss, pe_leq, pe_gtr, pe_geq, pe_not, pe_seql, pe_sneq, pe_slen, pe_part_none, pe_part_some, pe_ext, pe_nonnil_ptr, pe_nonnil_rptr, pe_nonnil_func, pe_faddr_rptr, pe_faddr_ptr, pe_peq_nn, pe_peq_sn, pe_peq_ns, pe_beq, pe_mkagg, hload_rptr, partOf_none, partOf_some, fillAt, List.getD_cons_zero, List.getD_cons_succ, List.getElem?_cons_zero, List.getElem?_cons_succ, List.drop_zero, List.drop_succ_cons, List.drop_nil, List.take_zero, List.take_succ_cons, List.length_cons, List.length_nil, List.cons_append, List.nil_append, List.zip_cons_cons, List.zip_nil_right, Option.map_some, Option.map_none, Nat.reduceAdd, Nat.reduceLeDiff, Nat.reduceEqDiff, Nat.zero_add, cells_agg, cells_int, cells_str, cells_bool, cells_ptr, cells_rptr, cells_slnil, cells_sl, cells_msl, cells_func, targetOf, and_self, and_true, true_and, if_true, if_false, ↓reduceIte, reduceCtorEq, LoopPost_exit, LoopPost_ret, r_rBreakouts hs, breakout]
  refine ⟨fun h3 => ⟨fun h4 => by simp [h3, h4], fun h4 => by simp [h3, h4]⟩, fun h3 => ⟨fun h4 => ⟨fun h5 => by simp [h3, h4, h5], fun h5 => ?_⟩, fun h4 => by simp [h3, h4]⟩⟩
  have h5 : t.name = [102,111,110,116] := by simpa using h5
  rw [if_neg h3, if_neg (by simp [h4]), if_pos h5]
  have hlen : (l.map Attr.row).length = l.length := List.length_map ..
  refine W_loop_st (fun n : Nat => [.bool false, .int .i64 (n : Int)]) (fun n h1 => n ≤ l.length ∧ l.any isFont = (l.drop n).any isFont ∧ h1 = h) (fun n => l.length - n) 0 rfl ⟨Nat.zero_le _, rfl, rfl⟩ ?_
  rintro n h1 ⟨hn', ha, rfl⟩
  rcases Nat.lt_or_ge n l.length with hlt | hge
  · have i1 : (n : Int) < ((l.map Attr.row).length : Int) := by rw [hlen]; omega
    have e1 : (l.map Attr.row)[n]'(by rw [hlen]; exact hlt) = Attr.row l[n] := by simp
    rw [List.drop_eq_getElem_cons hlt, List.any_cons] at ha
    simp only [opW_some, opW_none, cndW_true, cndW_false, cndW_dec, W_ret_iff, W_fail_iff, W_op_iff, W_cells_iff, W_cnd_iff, W_load_iff, W_store_iff, W_alloc_iff, W_frz_iff, W_frzAt_iff, W_objOf_iff, W_bytesObj_iff, W_mnew_iff, W_mset_iff, W_mget_iff, W_callv_iff, W_join_iff, pe_eql, pe_neq, pe_lss, pe_leq, pe_gtr, pe_geq, pe_not, pe_seql, pe_sneq, pe_slen, pe_part_none, pe_part_some, pe_ext, pe_nonnil_ptr, pe_nonnil_rptr, pe_nonnil_func, pe_faddr_rptr, pe_faddr_ptr, pe_peq_nn, pe_peq_sn, pe_peq_ns, pe_beq, pe_mkagg, hload_rptr, partOf_none, partOf_some, fillAt, List.getD_cons_zero, List.getD_cons_succ, List.getElem?_cons_zero, List.getElem?_cons_succ, List.drop_zero, List.drop_succ_cons, List.drop_nil, List.take_zero, List.take_succ_cons, List.length_cons, List.length_nil, List.cons_append, List.nil_append, List.zip_cons_cons, List.zip_nil_right, Option.map_some, Option.map_none, Nat.reduceAdd, Nat.reduceLeDiff, Nat.reduceEqDiff, Nat.zero_add, cells_agg, cells_int, cells_str, cells_bool, cells_ptr, cells_rptr, cells_slnil, cells_sl, cells_msl, cells_func, targetOf, and_self, and_true, true_and, if_true, if_false, ↓reduceIte, reduceCtorEq, LoopPost_exit, LoopPost_ret, IsSl.len hv, i1, not_true_eq_false, true_implies, false_implies, IsSl.eaddr hv (show n < (l.map Attr.row).length by rw [hlen]; exact hlt), e1, Attr.row, r_rColors (hl _ (List.getElem_mem hlt)), pe_inc (show n < 9223372036854775807 by omega)]
    refine ⟨fun h6 => ?_, fun h6 => ?_⟩
    · have he : isFont l[n] = true := by simp [isFont, h6]
      rw [ha, he]; simp
    · have he : isFont l[n] = false := by simp [isFont, h6]
      rw [he, Bool.false_or] at ha
      exact LoopPost.next (n + 1) rfl ⟨hlt, ha, rfl⟩ (by omega)
  · have i1 : ¬ (n : Int) < ((l.map Attr.row).length : Int) := by rw [hlen]; omega
    rw [List.drop_of_length_le hge, List.any_nil] at ha
    rw [ha]
    simp only [opW_some, opW_none, cndW_true, cndW_false, cndW_dec, W_ret_iff, W_fail_iff, W_op_iff, W_cells_iff, W_cnd_iff, W_load_iff, W_store_iff, W_alloc_iff, W_frz_iff, W_frzAt_iff, W_objOf_iff, W_bytesObj_iff, W_mnew_iff, W_mset_iff, W_mget_iff, W_callv_iff, W_join_iff, pe_eql, pe_neq, pe_lss, pe_leq, pe_gtr, pe_geq, pe_not, pe_seql, pe_sneq, pe_slen, pe_part_none, pe_part_some, pe_ext, pe_nonnil_ptr, pe_nonnil_rptr, pe_nonnil_func, pe_faddr_rptr, pe_faddr_ptr, pe_peq_nn, pe_peq_sn, pe_peq_ns, pe_beq, pe_mkagg, hload_rptr, partOf_none, partOf_some, fillAt, List.getD_cons_zero, List.getD_cons_succ, List.getElem?_cons_zero, List.getElem?_cons_succ, List.drop_zero, List.drop_succ_cons, List.drop_nil, List.take_zero, List.take_succ_cons, List.length_cons, List.length_nil, List.cons_append, List.nil_append, List.zip_cons_cons, List.zip_nil_right, Option.map_some, Option.map_none, Nat.reduceAdd, Nat.reduceLeDiff, Nat.reduceEqDiff, Nat.zero_add, cells_agg, cells_int, cells_str, cells_bool, cells_ptr, cells_rptr, cells_slnil, cells_sl, cells_msl, cells_func, targetOf, and_self, and_true, true_and, if_true, if_false, ↓reduceIte, reduceCtorEq, LoopPost_exit, LoopPost_ret, IsSl.len hv, i1, not_false_eq_true, true_implies, false_implies]

theorem ev_breaks (t : Token) {l : List Attr} (hv : IsAttrs l t.attrs) : Ev cx 8 [.agg t.row] [] fun r _ => r = .bool true := by
  unfold Ev
  rw [t8_eq, t8, Token.row]
  simp only [opW_some, opW_none, cndW_true, cndW_false, cndW_dec, W_ret_iff, W_fail_iff, W_op_iff, W_cells_iff, W_cnd_iff, W_load_iff, W_store_iff, W_alloc_iff, W_frz_iff, W_frzAt_iff, W_objOf_iff, W_bytesObj_iff, W_mnew_iff, W_mset_iff, W_mget_iff, W_callv_iff, W_join_iff, pe_eql, pe_neq, pe_lss, pe_leq, pe_gtr, pe_geq, pe_not, pe_seql, pe_sneq, pe_slen, pe_part_none, pe_part_some, pe_ext, pe_nonnil_ptr, pe_nonnil_rptr, pe_nonnil_func, pe_faddr_rptr, pe_faddr_ptr, pe_peq_nn, pe_peq_sn, pe_peq_ns, pe_beq, pe_mkagg, hload_rptr, partOf_none, partOf_some, fillAt, List.getD_cons_zero, List.getD_cons_succ, List.getElem?_cons_zero, List.getElem?_cons_succ, List.drop_zero, List.drop_succ_cons, List.drop_nil, List.take_zero, List.take_succ_cons, List.length_cons, List.length_nil, List.cons_append, List.nil_append, List.zip_cons_cons, List.zip_nil_right, Option.map_some, Option.map_none, Nat.reduceAdd, Nat.reduceLeDiff, Nat.reduceEqDiff, Nat.zero_add, cells_agg, cells_int, cells_str, cells_bool, cells_ptr, cells_rptr, cells_slnil, cells_sl, cells_msl, cells_func, targetOf, and_self, and_true, true_and, if_true, if_false, ↓reduceIte, reduceCtorEq, LoopPost_exit, LoopPost_ret, known_iff]
  refine ⟨fun _ => ⟨_, rfl, rfl⟩, fun h0 => ?_⟩
  have hs : t.name.length < 9223372036854775807 := by omega
  simp only [opW_some, opW_none, cndW_true, cndW_false, cndW_dec, W_ret_iff, W_fail_iff, W_op_iff, W_cells_iff, W_cnd_iff, W_load_iff, W_store_iff, W_alloc_iff, W_frz_iff, W_frzAt_iff, W_objOf_iff, W_bytesObj_iff, W_mnew_iff, W_mset_iff, W_mget_iff, W_callv_iff, W_join_iff, pe_eql, pe_neq, pe_lss, pe_leq, pe_gtr, pe_geq, pe_not, pe_seql, pe_sneq, pe_slen, pe_part_none, pe_part_some, pe_ext, pe_nonnil_ptr, pe_nonnil_rptr, pe_nonnil_func, pe_faddr_rptr, pe_faddr_ptr, pe_peq_nn, pe_peq_sn, pe_peq_ns, pe_beq, pe_mkagg, hload_rptr, partOf_none, partOf_some, fillAt, List.getD_cons_zero, List.getD_cons_succ, List.getElem?_cons_zero, List.getElem?_cons_succ, List.drop_zero, List.drop_succ_cons, List.drop_nil, List.take_zero, List.take_succ_cons, List.length_cons, List.length_nil, List.cons_append, List.nil_append, List.zip_cons_cons, List.zip_nil_right, Option.map_some, Option.map_none, Nat.reduceAdd, Nat.reduceLeDiff, Nat.reduceEqDiff, Nat.zero_add, cells_agg, cells_int, cells_str, cells_bool, cells_ptr, cells_rptr, cells_slnil, cells_sl, cells_msl, cells_func, targetOf, and_self, and_true, true_and, if_true, if_false, ↓reduceIte, reduceCtorEq, LoopPost_exit, LoopPost_ret, (f41' hv []).call]
  by_cases hok : attrsOk l
  · have hl : ∀ a ∈ l, a.name.length < 9223372036854775807 := fun a ha => by have := (hok.2 a ha).1; omega
    have hn : l.length < 9223372036854775807 := by have := hok.1; omega
    have e53 := fun k => (f53 t hv hn []).call (k := k) (Q := fun x vs h' => x = .ret ∧ ∃ r, vs = [r] ∧ r = .bool true)
    have e54 := fun k => (f54 t hv hn hs hl []).call (k := k) (Q := fun x vs h' => x = .ret ∧ ∃ r, vs = [r] ∧ r = .bool true)
    rw [Token.row] at e53 e54
    simp only [opW_some, opW_none, cndW_true, cndW_false, cndW_dec, W_ret_iff, W_fail_iff, W_op_iff, W_cells_iff, W_cnd_iff, W_load_iff, W_store_iff, W_alloc_iff, W_frz_iff, W_frzAt_iff, W_objOf_iff, W_bytesObj_iff, W_mnew_iff, W_mset_iff, W_mget_iff, W_callv_iff, W_join_iff, pe_eql, pe_neq, pe_lss, pe_leq, pe_gtr, pe_geq, pe_not, pe_seql, pe_sneq, pe_slen, pe_part_none, pe_part_some, pe_ext, pe_nonnil_ptr, pe_nonnil_rptr, pe_nonnil_func, pe_faddr_rptr, pe_faddr_ptr, pe_peq_nn, pe_peq_sn, pe_peq_ns, pe_beq, pe_mkagg, hload_rptr, partOf_none, partOf_some, fillAt, List.getD_cons_zero, List.getD_cons_succ, List.getElem?_cons_zero, List.getElem?_cons_succ, List.drop_zero, List.drop_succ_cons, List.drop_nil, List.take_zero, List.take_succ_cons, List.length_cons, List.length_nil, List.cons_append, List.nil_append, List.zip_cons_cons, List.zip_nil_right, Option.map_some, Option.map_none, Nat.reduceAdd, Nat.reduceLeDiff, Nat.reduceEqDiff, Nat.zero_add, cells_agg, cells_int, cells_str, cells_bool, cells_ptr, cells_rptr, cells_slnil, cells_sl, cells_msl, cells_func, targetOf, and_self, and_true, true_and, if_true, if_false, ↓reduceIte, reduceCtorEq, LoopPost_exit, LoopPost_ret, known_iff, hok, decide_true, Bool.not_true, cndW_false, e53, e54, beq_self_eq_true, bne_self_eq_false, Bool.bne_true, Bool.bne_false, not_true_eq_false, false_implies, true_implies]
    exact ⟨_, rfl, rfl⟩
  · simp only [opW_some, opW_none, cndW_true, cndW_false, cndW_dec, W_ret_iff, W_fail_iff, W_op_iff, W_cells_iff, W_cnd_iff, W_load_iff, W_store_iff, W_alloc_iff, W_frz_iff, W_frzAt_iff, W_objOf_iff, W_bytesObj_iff, W_mnew_iff, W_mset_iff, W_mget_iff, W_callv_iff, W_join_iff, pe_eql, pe_neq, pe_lss, pe_leq, pe_gtr, pe_geq, pe_not, pe_seql, pe_sneq, pe_slen, pe_part_none, pe_part_some, pe_ext, pe_nonnil_ptr, pe_nonnil_rptr, pe_nonnil_func, pe_faddr_rptr, pe_faddr_ptr, pe_peq_nn, pe_peq_sn, pe_peq_ns, pe_beq, pe_mkagg, hload_rptr, partOf_none, partOf_some, fillAt, List.getD_cons_zero, List.getD_cons_succ, List.getElem?_cons_zero, List.getElem?_cons_succ, List.drop_zero, List.drop_succ_cons, List.drop_nil, List.take_zero, List.take_succ_cons, List.length_cons, List.length_nil, List.cons_append, List.nil_append, List.zip_cons_cons, List.zip_nil_right, Option.map_some, Option.map_none, Nat.reduceAdd, Nat.reduceLeDiff, Nat.reduceEqDiff, Nat.zero_add, cells_agg, cells_int, cells_str, cells_bool, cells_ptr, cells_rptr, cells_slnil, cells_sl, cells_msl, cells_func, targetOf, and_self, and_true, true_and, if_true, if_false, ↓reduceIte, reduceCtorEq, LoopPost_exit, LoopPost_ret, known_iff, hok, decide_false, Bool.not_false, cndW_true]
    exact ⟨_, rfl, rfl⟩
theorem all_breaks : ∀ l, HasArgs [tToken] l → Ev cx 8 l [] fun r _ => r = .bool true := by
  rintro _ ⟨_, _, rfl, ⟨r, rfl, h⟩, rfl⟩
  obtain ⟨t, rfl, l, hv⟩ := has_token r h
  exact ev_breaks t hv
end Go.Am
