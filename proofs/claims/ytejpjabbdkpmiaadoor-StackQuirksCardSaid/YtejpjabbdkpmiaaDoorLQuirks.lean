/-
  StackQuirks as the abstract machine runs it: it returns true. Written by a program. No law is claimed here.
-/
import Derived.Test.YtejpjabbdkpmiaaDoorLBreaks
namespace Go.Am
open Go
set_option maxRecDepth 100000
set_option linter.unusedSimpArgs false
set_option linter.unusedVariables false
def qE1 : Bytes := [45,47,47,87,51,79,47,47,68,84,68,32,87,51,32,72,84,77,76,32,83,116,114,105,99,116,32,51,46,48,47,47,69,78,47,47]
def qE2 : Bytes := [45,47,87,51,67,47,68,84,68,32,72,84,77,76,32,52,46,48,32,84,114,97,110,115,105,116,105,111,110,97,108,47,69,78]
def qE3 : Bytes := [72,84,77,76]
def qA : Bytes := [45,47,47,87,51,67,47,47,68,84,68,32,72,84,77,76,32,52,46,48,49,32,70,114,97,109,101,115,101,116,47,47]
def qB : Bytes := [45,47,47,87,51,67,47,47,68,84,68,32,72,84,77,76,32,52,46,48,49,32,84,114,97,110,115,105,116,105,111,110,97,108,47,47]
def qExact : List Bytes := [qE1, qE2, qE3]
def qPre : List Bytes := [[45,47,47,73,69,84,70,47,47,68,84,68,32,72,84,77,76,32,50,46,48], [45,47,47,73,69,84,70,47,47,68,84,68,32,72,84,77,76,32,50,46,49,69,47,47], [45,47,47,73,69,84,70,47,47,68,84,68,32,72,84,77,76,32,51], [45,47,47,73,69,84,70,47,47,68,84,68,32,72,84,77,76,32,76,101,118,101,108,32], [45,47,47,73,69,84,70,47,47,68,84,68,32,72,84,77,76,32,83,116,114,105,99,116], [45,47,47,73,69,84,70,47,47,68,84,68,32,72,84,77,76,47,47], [45,47,47,87,51,67,47,47,68,84,68,32,72,84,77,76,32,51,32,49,57,57,53,45,48,51,45,50,52,47,47], [45,47,47,87,51,67,47,47,68,84,68,32,72,84,77,76,32,51,46,50], [45,47,47,87,51,67,47,47,68,84,68,32,72,84,77,76,32,52,46,48,32,70,114,97,109,101,115,101,116,47,47], [45,47,47,87,51,67,47,47,68,84,68,32,72,84,77,76,32,52,46,48,32,84,114,97,110,115,105,116,105,111,110,97,108,47,47], [45,47,47,87,51,67,47,47,68,84,68,32,72,84,77,76,32,69,120,112,101,114,105,109,101,110,116,97,108,32,49,57,57,54,48,55,49,50,47,47], [45,47,47,87,51,67,47,47,68,84,68,32,72,84,77,76,32,69,120,112,101,114,105,109,101,110,116,97,108,32,57,55,48,52,50,49,47,47], [45,47,47,87,51,67,47,47,68,84,68,32,87,51,32,72,84,77,76,47,47], [45,47,47,87,51,79,47,47,68,84,68,32,87,51,32,72,84,77,76,32,51,46,48,47,47]]
def qPre2 : List Bytes := [qA, qB]
theorem pe_mksl_strs {ws : List Bytes} (h : ws.length ≤ 16777216) : peval (.mksl 1) (ws.map AVal.str) = some (.sl 1 (ws.map strRow)) := by
  have e1 : (ws.map AVal.str).all (fun a => a.cells.length == 1) = true := by simp
  have e2 : (ws.map AVal.str).map (·.cells) = ws.map strRow := by simp [strRow]
  rw [pe_mksl, e1, e2]
  simp [h]

theorem pe_slc_hi {k : IntKind} {s : Bytes} {b z : Nat} (hb : b ≤ s.length) : peval (.slc z true false true) [.str s, .int k (b : Int)] = some (.str (s.take b)) := by
  have e1 : bound (b : Int) s.length = some b := by unfold bound; rw [if_pos (by omega)]; rfl
  simp [peval, sliceOf, boundsOf, e1]

/-- A string begins with another one, whatever the case. -/
def beginsLow (p w : Bytes) : Bool := decide (w.length ≤ p.length ∧ lower (p.take w.length) = lower w)
def sameLow (p w : Bytes) : Bool := decide (lower p = lower w)

theorem f129 (a b : Bytes) (ha : a.length ≤ maxBytes) (hb : b.length ≤ maxBytes) : PRet cx 129 [.str a, .str b] (.bool (sameLow a b)) := by
  rw [wout, t129_eq, t129]; simp only [opW_some, opW_none, cndW_true, cndW_false, cndW_dec, W_ret_iff, W_fail_iff, W_op_iff, W_cells_iff, W_cnd_iff, W_load_iff, W_store_iff, W_alloc_iff, W_frz_iff, W_frzAt_iff, W_objOf_iff, W_bytesObj_iff, W_mnew_iff, W_mset_iff, W_mget_iff, W_callv_iff, W_join_iff, pe_eql, pe_neq, pe_lss, pe_leq, pe_gtr, pe_geq, pe_not, pe_seql, pe_sneq, pe_slen, pe_part_none, pe_part_some, pe_ext, pe_nonnil_ptr, pe_nonnil_rptr, pe_nonnil_func, pe_faddr_rptr, pe_faddr_ptr, pe_peq_nn, pe_peq_sn, pe_peq_ns, pe_beq, pe_mkagg, hload_rptr, partOf_none, partOf_some, fillAt, List.getD_cons_zero, List.getD_cons_succ, List.getElem?_cons_zero, List.getElem?_cons_succ, List.drop_zero, List.drop_succ_cons, List.drop_nil, List.take_zero, List.take_succ_cons, List.length_cons, List.length_nil, List.cons_append, List.nil_append, List.zip_cons_cons, List.zip_nil_right, Option.map_some, Option.map_none, Nat.reduceAdd, Nat.reduceLeDiff, Nat.reduceEqDiff, Nat.zero_add, cells_agg, cells_int, cells_str, cells_bool, cells_ptr, cells_rptr, cells_slnil, cells_sl, cells_msl, cells_func, targetOf, and_self, and_true, true_and, if_true, if_false, ↓reduceIte, reduceCtorEq, LoopPost_exit, LoopPost_ret, (f113 a ha).pcall rfl rfl, (f113 b hb).pcall rfl rfl, sameLow]
theorem f166 (a b : Bytes) : PRet cx 166 [.str a, .str b] (.bool (decide (b.length ≤ a.length ∧ a.take b.length = b))) := by
  rw [wout, t166_eq, t166]; simp only [opW_some, opW_none, cndW_true, cndW_false, cndW_dec, W_ret_iff, W_fail_iff, W_op_iff, W_cells_iff, W_cnd_iff, W_load_iff, W_store_iff, W_alloc_iff, W_frz_iff, W_frzAt_iff, W_objOf_iff, W_bytesObj_iff, W_mnew_iff, W_mset_iff, W_mget_iff, W_callv_iff, W_join_iff, pe_eql, pe_neq, pe_lss, pe_leq, pe_gtr, pe_geq, pe_not, pe_seql, pe_sneq, pe_slen, pe_part_none, pe_part_some, pe_ext, pe_nonnil_ptr, pe_nonnil_rptr, pe_nonnil_func, pe_faddr_rptr, pe_faddr_ptr, pe_peq_nn, pe_peq_sn, pe_peq_ns, pe_beq, pe_mkagg, hload_rptr, partOf_none, partOf_some, fillAt, List.getD_cons_zero, List.getD_cons_succ, List.getElem?_cons_zero, List.getElem?_cons_succ, List.drop_zero, List.drop_succ_cons, List.drop_nil, List.take_zero, List.take_succ_cons, List.length_cons, List.length_nil, List.cons_append, List.nil_append, List.zip_cons_cons, List.zip_nil_right, Option.map_some, Option.map_none, Nat.reduceAdd, Nat.reduceLeDiff, Nat.reduceEqDiff, Nat.zero_add, cells_agg, cells_int, cells_str, cells_bool, cells_ptr, cells_rptr, cells_slnil, cells_sl, cells_msl, cells_func, targetOf, and_self, and_true, true_and, if_true, if_false, ↓reduceIte, reduceCtorEq, LoopPost_exit, LoopPost_ret]
  refine ⟨fun h => ?_, fun h => ?_⟩
  · have h : b.length ≤ a.length := by omega
    simp only [opW_some, opW_none, cndW_true, cndW_false, cndW_dec, W_ret_iff, W_fail_iff, W_op_iff, W_cells_iff, W_cnd_iff, W_load_iff, W_store_iff, W_alloc_iff, W_frz_iff, W_frzAt_iff, W_objOf_iff, W_bytesObj_iff, W_mnew_iff, W_mset_iff, W_mget_iff, W_callv_iff, W_join_iff, pe_eql, pe_neq, pe_lss, pe_leq, pe_gtr, pe_geq, pe_not, pe_seql, pe_sneq, pe_slen, pe_part_none, pe_part_some, pe_ext, pe_nonnil_ptr, pe_nonnil_rptr, pe_nonnil_func, pe_faddr_rptr, pe_faddr_ptr, pe_peq_nn, pe_peq_sn, pe_peq_ns, pe_beq, pe_mkagg, hload_rptr, partOf_none, partOf_some, fillAt, List.getD_cons_zero, List.getD_cons_succ, List.getElem?_cons_zero, List.getElem?_cons_succ, List.drop_zero, List.drop_succ_cons, List.drop_nil, List.take_zero, List.take_succ_cons, List.length_cons, List.length_nil, List.cons_append, List.nil_append, List.zip_cons_cons, List.zip_nil_right, Option.map_some, Option.map_none, Nat.reduceAdd, Nat.reduceLeDiff, Nat.reduceEqDiff, Nat.zero_add, cells_agg, cells_int, cells_str, cells_bool, cells_ptr, cells_rptr, cells_slnil, cells_sl, cells_msl, cells_func, targetOf, and_self, and_true, true_and, if_true, if_false, ↓reduceIte, reduceCtorEq, LoopPost_exit, LoopPost_ret, pe_slc_hi h, h]
  · have h : ¬ b.length ≤ a.length := by omega
    simp [h]
theorem lower_length (s : Bytes) : (lower s).length = s.length := by simp [lower]
theorem lower_take (s : Bytes) (n : Nat) : lower (s.take n) = (lower s).take n := by simp [lower, List.map_take]

theorem f130 {v : AVal} {ws : List Bytes} (hv : IsStrs ws v) (p : Bytes) (hp : p.length ≤ maxBytes) (hw : ∀ w ∈ ws, w.length ≤ maxBytes) (hn : ws.length < 9223372036854775807) (h : AHeap) : Ret cx 130 [.str p, v] h (.bool (ws.any (beginsLow p))) h := by
  rw [ret_iff, t130_eq, t130]
  have hlen : (ws.map strRow).length = ws.length := List.length_map ..
  refine W_loop_st (fun n : Nat => [.bool false, .int .i64 (n : Int)]) (fun n h1 => n ≤ ws.length ∧ ws.any (beginsLow p) = (ws.drop n).any (beginsLow p) ∧ h1 = h) (fun n => ws.length - n) 0 rfl ⟨Nat.zero_le _, rfl, rfl⟩ ?_
  rintro n h1 ⟨hn', ha, rfl⟩
  rcases Nat.lt_or_ge n ws.length with hlt | hge
  · have i1 : (n : Int) < ((ws.map strRow).length : Int) := by rw [hlen]; omega
    have e1 : (ws.map strRow)[n]'(by rw [hlen]; exact hlt) = strRow ws[n] := by simp
    have e2 : decide ((lower ws[n]).length ≤ (lower p).length ∧ (lower p).take (lower ws[n]).length = lower ws[n]) = beginsLow p ws[n] := by
      rw [lower_length, lower_length, ← lower_take]; rfl
    rw [List.drop_eq_getElem_cons hlt, List.any_cons] at ha
    simp only [opW_some, opW_none, cndW_true, cndW_false, cndW_dec, W_ret_iff, W_fail_iff, W_op_iff, W_cells_iff, W_cnd_iff, W_load_iff, W_store_iff, W_alloc_iff, W_frz_iff, W_frzAt_iff, W_objOf_iff, W_bytesObj_iff, W_mnew_iff, W_mset_iff, W_mget_iff, W_callv_iff, W_join_iff, pe_eql, pe_neq, pe_lss, pe_leq, pe_gtr, pe_geq, pe_not, pe_seql, pe_sneq, pe_slen, pe_part_none, pe_part_some, pe_ext, pe_nonnil_ptr, pe_nonnil_rptr, pe_nonnil_func, pe_faddr_rptr, pe_faddr_ptr, pe_peq_nn, pe_peq_sn, pe_peq_ns, pe_beq, pe_mkagg, hload_rptr, partOf_none, partOf_some, fillAt, List.getD_cons_zero, List.getD_cons_succ, List.getElem?_cons_zero, List.getElem?_cons_succ, List.drop_zero, List.drop_succ_cons, List.drop_nil, List.take_zero, List.take_succ_cons, List.length_cons, List.length_nil, List.cons_append, List.nil_append, List.zip_cons_cons, List.zip_nil_right, Option.map_some, Option.map_none, Nat.reduceAdd, Nat.reduceLeDiff, Nat.reduceEqDiff, Nat.zero_add, cells_agg, cells_int, cells_str, cells_bool, cells_ptr, cells_rptr, cells_slnil, cells_sl, cells_msl, cells_func, targetOf, and_self, and_true, true_and, if_true, if_false, ↓reduceIte, reduceCtorEq, LoopPost_exit, LoopPost_ret, IsSl.len hv, i1, not_true_eq_false, true_implies, false_implies, IsSl.eaddr hv (show n < (ws.map strRow).length by rw [hlen]; exact hlt), e1, strRow, (f113 p hp).pcall rfl rfl, (f113 _ (hw _ (List.getElem_mem hlt))).pcall rfl rfl, (f166 _ _).pcall rfl rfl, e2, pe_inc (show n < 9223372036854775807 by omega)]
    rw [cndW_iff]
    refine ⟨fun h6 => ?_, fun h6 => ?_⟩
    · rw [ha, h6, Bool.true_or]
    · rw [h6, Bool.false_or] at ha
      exact LoopPost.next (n + 1) rfl ⟨hlt, ha, rfl⟩ (by omega)
  · have i1 : ¬ (n : Int) < ((ws.map strRow).length : Int) := by rw [hlen]; omega
    rw [List.drop_of_length_le hge, List.any_nil] at ha
    rw [ha]
    simp only [opW_some, opW_none, cndW_true, cndW_false, cndW_dec, W_ret_iff, W_fail_iff, W_op_iff, W_cells_iff, W_cnd_iff, W_load_iff, W_store_iff, W_alloc_iff, W_frz_iff, W_frzAt_iff, W_objOf_iff, W_bytesObj_iff, W_mnew_iff, W_mset_iff, W_mget_iff, W_callv_iff, W_join_iff, pe_eql, pe_neq, pe_lss, pe_leq, pe_gtr, pe_geq, pe_not, pe_seql, pe_sneq, pe_slen, pe_part_none, pe_part_some, pe_ext, pe_nonnil_ptr, pe_nonnil_rptr, pe_nonnil_func, pe_faddr_rptr, pe_faddr_ptr, pe_peq_nn, pe_peq_sn, pe_peq_ns, pe_beq, pe_mkagg, hload_rptr, partOf_none, partOf_some, fillAt, List.getD_cons_zero, List.getD_cons_succ, List.getElem?_cons_zero, List.getElem?_cons_succ, List.drop_zero, List.drop_succ_cons, List.drop_nil, List.take_zero, List.take_succ_cons, List.length_cons, List.length_nil, List.cons_append, List.nil_append, List.zip_cons_cons, List.zip_nil_right, Option.map_some, Option.map_none, Nat.reduceAdd, Nat.reduceLeDiff, Nat.reduceEqDiff, Nat.zero_add, cells_agg, cells_int, cells_str, cells_bool, cells_ptr, cells_rptr, cells_slnil, cells_sl, cells_msl, cells_func, targetOf, and_self, and_true, true_and, if_true, if_false, ↓reduceIte, reduceCtorEq, LoopPost_exit, LoopPost_ret, IsSl.len hv, i1, not_false_eq_true, true_implies, false_implies]

/-- slices.IndexFunc over strings. -/
theorem f165 {v : AVal} {l : List Bytes} (hv : IsStrs l v) (hn : l.length < 9223372036854775807) (h : AHeap) {f : FuncId} {caps : List AVal} {p : Bytes → Bool} (hp : ∀ a ∈ l, Ret cx f (.str a :: caps) h (.bool (p a)) h) :
    Ret cx 165 [v, .func (.func f) [] caps] h (.int .i64 (idxFrom p 0 l)) h := by
  rw [ret_iff, t165_eq, t165]
  have hlen : (l.map strRow).length = l.length := List.length_map ..
  simp only [opW_some, opW_none, cndW_true, cndW_false, cndW_dec, W_ret_iff, W_fail_iff, W_op_iff, W_cells_iff, W_cnd_iff, W_load_iff, W_store_iff, W_alloc_iff, W_frz_iff, W_frzAt_iff, W_objOf_iff, W_bytesObj_iff, W_mnew_iff, W_mset_iff, W_mget_iff, W_callv_iff, W_join_iff, pe_eql, pe_neq, pe_lss, pe_leq, pe_gtr, pe_geq, pe_not, pe_seql, pe_sneq, pe_slen, pe_part_none, pe_part_some, pe_ext, pe_nonnil_ptr, pe_nonnil_rptr, pe_nonnil_func, pe_faddr_rptr, pe_faddr_ptr, pe_peq_nn, pe_peq_sn, pe_peq_ns, pe_beq, pe_mkagg, hload_rptr, partOf_none, partOf_some, fillAt, List.getD_cons_zero, List.getD_cons_succ, List.getElem?_cons_zero, List.getElem?_cons_succ, List.drop_zero, List.drop_succ_cons, List.drop_nil, List.take_zero, List.take_succ_cons, List.length_cons, List.length_nil, List.cons_append, List.nil_append, List.zip_cons_cons, List.zip_nil_right, Option.map_some, Option.map_none, Nat.reduceAdd, Nat.reduceLeDiff, Nat.reduceEqDiff, Nat.zero_add, cells_agg, cells_int, cells_str, cells_bool, cells_ptr, cells_rptr, cells_slnil, cells_sl, cells_msl, cells_func, targetOf, and_self, and_true, true_and, if_true, if_false, ↓reduceIte, reduceCtorEq, LoopPost_exit, LoopPost_ret, IsSl.len hv]
  refine W_loop_st (fun n : Nat => [.int .i64 0, .int .i64 (n : Int)]) (fun n h1 => n ≤ l.length ∧ idxFrom p 0 l = idxFrom p n (l.drop n) ∧ h1 = h) (fun n => l.length - n) 0 rfl ⟨Nat.zero_le _, rfl, rfl⟩ ?_
  rintro n h1 ⟨hn', ha, rfl⟩
  rcases Nat.lt_or_ge n l.length with hlt | hge
  · have i1 : (n : Int) < ((l.map strRow).length : Int) := by rw [hlen]; omega
    have e1 : (l.map strRow)[n]'(by rw [hlen]; exact hlt) = strRow l[n] := by simp
    rw [List.drop_eq_getElem_cons hlt, idxFrom] at ha
    simp only [opW_some, opW_none, cndW_true, cndW_false, cndW_dec, W_ret_iff, W_fail_iff, W_op_iff, W_cells_iff, W_cnd_iff, W_load_iff, W_store_iff, W_alloc_iff, W_frz_iff, W_frzAt_iff, W_objOf_iff, W_bytesObj_iff, W_mnew_iff, W_mset_iff, W_mget_iff, W_callv_iff, W_join_iff, pe_eql, pe_neq, pe_lss, pe_leq, pe_gtr, pe_geq, pe_not, pe_seql, pe_sneq, pe_slen, pe_part_none, pe_part_some, pe_ext, pe_nonnil_ptr, pe_nonnil_rptr, pe_nonnil_func, pe_faddr_rptr, pe_faddr_ptr, pe_peq_nn, pe_peq_sn, pe_peq_ns, pe_beq, pe_mkagg, hload_rptr, partOf_none, partOf_some, fillAt, List.getD_cons_zero, List.getD_cons_succ, List.getElem?_cons_zero, List.getElem?_cons_succ, List.drop_zero, List.drop_succ_cons, List.drop_nil, List.take_zero, List.take_succ_cons, List.length_cons, List.length_nil, List.cons_append, List.nil_append, List.zip_cons_cons, List.zip_nil_right, Option.map_some, Option.map_none, Nat.reduceAdd, Nat.reduceLeDiff, Nat.reduceEqDiff, Nat.zero_add, cells_agg, cells_int, cells_str, cells_bool, cells_ptr, cells_rptr, cells_slnil, cells_sl, cells_msl, cells_func, targetOf, and_self, and_true, true_and, if_true, if_false, ↓reduceIte, reduceCtorEq, LoopPost_exit, LoopPost_ret, List.append_nil, i1, not_true_eq_false, true_implies, false_implies, IsSl.eaddr hv (show n < (l.map strRow).length by rw [hlen]; exact hlt), e1, strRow, (hp _ (List.getElem_mem hlt)).call]
    rw [cndW_iff]
    refine ⟨fun he => ?_, fun he => ?_⟩
    · rw [ha, if_pos he]
    · rw [if_neg (by simp [he])] at ha
      simp only [opW_some, opW_none, cndW_true, cndW_false, cndW_dec, W_ret_iff, W_fail_iff, W_op_iff, W_cells_iff, W_cnd_iff, W_load_iff, W_store_iff, W_alloc_iff, W_frz_iff, W_frzAt_iff, W_objOf_iff, W_bytesObj_iff, W_mnew_iff, W_mset_iff, W_mget_iff, W_callv_iff, W_join_iff, pe_eql, pe_neq, pe_lss, pe_leq, pe_gtr, pe_geq, pe_not, pe_seql, pe_sneq, pe_slen, pe_part_none, pe_part_some, pe_ext, pe_nonnil_ptr, pe_nonnil_rptr, pe_nonnil_func, pe_faddr_rptr, pe_faddr_ptr, pe_peq_nn, pe_peq_sn, pe_peq_ns, pe_beq, pe_mkagg, hload_rptr, partOf_none, partOf_some, fillAt, List.getD_cons_zero, List.getD_cons_succ, List.getElem?_cons_zero, List.getElem?_cons_succ, List.drop_zero, List.drop_succ_cons, List.drop_nil, List.take_zero, List.take_succ_cons, List.length_cons, List.length_nil, List.cons_append, List.nil_append, List.zip_cons_cons, List.zip_nil_right, Option.map_some, Option.map_none, Nat.reduceAdd, Nat.reduceLeDiff, Nat.reduceEqDiff, Nat.zero_add, cells_agg, cells_int, cells_str, cells_bool, cells_ptr, cells_rptr, cells_slnil, cells_sl, cells_msl, cells_func, targetOf, and_self, and_true, true_and, if_true, if_false, ↓reduceIte, reduceCtorEq, LoopPost_exit, LoopPost_ret, pe_inc (show n < 9223372036854775807 by omega)]
      exact LoopPost.next (n + 1) rfl ⟨hlt, ha, rfl⟩ (by omega)
  · have i1 : ¬ (n : Int) < ((l.map strRow).length : Int) := by rw [hlen]; omega
    rw [List.drop_of_length_le hge, idxFrom] at ha
    simp only [opW_some, opW_none, cndW_true, cndW_false, cndW_dec, W_ret_iff, W_fail_iff, W_op_iff, W_cells_iff, W_cnd_iff, W_load_iff, W_store_iff, W_alloc_iff, W_frz_iff, W_frzAt_iff, W_objOf_iff, W_bytesObj_iff, W_mnew_iff, W_mset_iff, W_mget_iff, W_callv_iff, W_join_iff, pe_eql, pe_neq, pe_lss, pe_leq, pe_gtr, pe_geq, pe_not, pe_seql, pe_sneq, pe_slen, pe_part_none, pe_part_some, pe_ext, pe_nonnil_ptr, pe_nonnil_rptr, pe_nonnil_func, pe_faddr_rptr, pe_faddr_ptr, pe_peq_nn, pe_peq_sn, pe_peq_ns, pe_beq, pe_mkagg, hload_rptr, partOf_none, partOf_some, fillAt, List.getD_cons_zero, List.getD_cons_succ, List.getElem?_cons_zero, List.getElem?_cons_succ, List.drop_zero, List.drop_succ_cons, List.drop_nil, List.take_zero, List.take_succ_cons, List.length_cons, List.length_nil, List.cons_append, List.nil_append, List.zip_cons_cons, List.zip_nil_right, Option.map_some, Option.map_none, Nat.reduceAdd, Nat.reduceLeDiff, Nat.reduceEqDiff, Nat.zero_add, cells_agg, cells_int, cells_str, cells_bool, cells_ptr, cells_rptr, cells_slnil, cells_sl, cells_msl, cells_func, targetOf, and_self, and_true, true_and, if_true, if_false, ↓reduceIte, reduceCtorEq, LoopPost_exit, LoopPost_ret, i1, not_false_eq_true, true_implies, false_implies, ha]

theorem idx_any {α : Type} {p : α → Bool} {l : List α} : decide (0 ≤ idxFrom p 0 l) = l.any p := by
  have : l.any p = (l.find? p).isSome := by rw [Bool.eq_iff_iff, List.find?_isSome, List.any_eq_true]
  rw [this]
  rcases idxFrom_find (p := p) (l := l) (k := 0) with ⟨h1, h2⟩ | ⟨n, a, h1, h2, h3⟩
  · rw [h1, h2]; simp
  · rw [h1, h3]; simp
theorem f128 {v : AVal} {l : List Bytes} (hv : IsStrs l v) (hn : l.length < 9223372036854775807) (h : AHeap) {f : FuncId} {caps : List AVal} {p : Bytes → Bool} (hp : ∀ a ∈ l, Ret cx f (.str a :: caps) h (.bool (p a)) h) :
    Ret cx 128 [v, .func (.func f) [] caps] h (.bool (l.any p)) h := by
  rw [ret_iff, t128_eq, t128]; simp only [opW_some, opW_none, cndW_true, cndW_false, cndW_dec, W_ret_iff, W_fail_iff, W_op_iff, W_cells_iff, W_cnd_iff, W_load_iff, W_store_iff, W_alloc_iff, W_frz_iff, W_frzAt_iff, W_objOf_iff, W_bytesObj_iff, W_mnew_iff, W_mset_iff, W_mget_iff, W_callv_iff, W_join_iff, pe_eql, pe_neq, pe_lss, pe_leq, pe_gtr, pe_geq, pe_not, pe_seql, pe_sneq, pe_slen, pe_part_none, pe_part_some, pe_ext, pe_nonnil_ptr, pe_nonnil_rptr, pe_nonnil_func, pe_faddr_rptr, pe_faddr_ptr, pe_peq_nn, pe_peq_sn, pe_peq_ns, pe_beq, pe_mkagg, hload_rptr, partOf_none, partOf_some, fillAt, List.getD_cons_zero, List.getD_cons_succ, List.getElem?_cons_zero, List.getElem?_cons_succ, List.drop_zero, List.drop_succ_cons, List.drop_nil, List.take_zero, List.take_succ_cons, List.length_cons, List.length_nil, List.cons_append, List.nil_append, List.zip_cons_cons, List.zip_nil_right, Option.map_some, Option.map_none, Nat.reduceAdd, Nat.reduceLeDiff, Nat.reduceEqDiff, Nat.zero_add, cells_agg, cells_int, cells_str, cells_bool, cells_ptr, cells_rptr, cells_slnil, cells_sl, cells_msl, cells_func, targetOf, and_self, and_true, true_and, if_true, if_false, ↓reduceIte, reduceCtorEq, LoopPost_exit, LoopPost_ret, (f165 hv hn h hp).call, idx_any]

theorem f127 (t : Token) (ht : t.pub.length ≤ maxBytes) (w : Bytes) (hw : w.length ≤ maxBytes) (h : AHeap) : Ret cx 127 [.str w, .rptr t.row] h (.bool (beginsLow t.pub w)) h := by
  have hc : (t.pub.take w.length).length ≤ maxBytes := by rw [List.length_take]; omega
  rw [ret_iff, t127_eq, t127, Token.row]; simp only [opW_some, opW_none, cndW_true, cndW_false, cndW_dec, W_ret_iff, W_fail_iff, W_op_iff, W_cells_iff, W_cnd_iff, W_load_iff, W_store_iff, W_alloc_iff, W_frz_iff, W_frzAt_iff, W_objOf_iff, W_bytesObj_iff, W_mnew_iff, W_mset_iff, W_mget_iff, W_callv_iff, W_join_iff, pe_eql, pe_neq, pe_lss, pe_leq, pe_gtr, pe_geq, pe_not, pe_seql, pe_sneq, pe_slen, pe_part_none, pe_part_some, pe_ext, pe_nonnil_ptr, pe_nonnil_rptr, pe_nonnil_func, pe_faddr_rptr, pe_faddr_ptr, pe_peq_nn, pe_peq_sn, pe_peq_ns, pe_beq, pe_mkagg, hload_rptr, partOf_none, partOf_some, fillAt, List.getD_cons_zero, List.getD_cons_succ, List.getElem?_cons_zero, List.getElem?_cons_succ, List.drop_zero, List.drop_succ_cons, List.drop_nil, List.take_zero, List.take_succ_cons, List.length_cons, List.length_nil, List.cons_append, List.nil_append, List.zip_cons_cons, List.zip_nil_right, Option.map_some, Option.map_none, Nat.reduceAdd, Nat.reduceLeDiff, Nat.reduceEqDiff, Nat.zero_add, cells_agg, cells_int, cells_str, cells_bool, cells_ptr, cells_rptr, cells_slnil, cells_sl, cells_msl, cells_func, targetOf, and_self, and_true, true_and, if_true, if_false, ↓reduceIte, reduceCtorEq, LoopPost_exit, LoopPost_ret]
  refine ⟨fun h => ?_, fun h => ?_⟩
  · have h : w.length ≤ t.pub.length := by omega
    simp only [opW_some, opW_none, cndW_true, cndW_false, cndW_dec, W_ret_iff, W_fail_iff, W_op_iff, W_cells_iff, W_cnd_iff, W_load_iff, W_store_iff, W_alloc_iff, W_frz_iff, W_frzAt_iff, W_objOf_iff, W_bytesObj_iff, W_mnew_iff, W_mset_iff, W_mget_iff, W_callv_iff, W_join_iff, pe_eql, pe_neq, pe_lss, pe_leq, pe_gtr, pe_geq, pe_not, pe_seql, pe_sneq, pe_slen, pe_part_none, pe_part_some, pe_ext, pe_nonnil_ptr, pe_nonnil_rptr, pe_nonnil_func, pe_faddr_rptr, pe_faddr_ptr, pe_peq_nn, pe_peq_sn, pe_peq_ns, pe_beq, pe_mkagg, hload_rptr, partOf_none, partOf_some, fillAt, List.getD_cons_zero, List.getD_cons_succ, List.getElem?_cons_zero, List.getElem?_cons_succ, List.drop_zero, List.drop_succ_cons, List.drop_nil, List.take_zero, List.take_succ_cons, List.length_cons, List.length_nil, List.cons_append, List.nil_append, List.zip_cons_cons, List.zip_nil_right, Option.map_some, Option.map_none, Nat.reduceAdd, Nat.reduceLeDiff, Nat.reduceEqDiff, Nat.zero_add, cells_agg, cells_int, cells_str, cells_bool, cells_ptr, cells_rptr, cells_slnil, cells_sl, cells_msl, cells_func, targetOf, and_self, and_true, true_and, if_true, if_false, ↓reduceIte, reduceCtorEq, LoopPost_exit, LoopPost_ret, pe_slc_hi h, (f112 _ _ hc hw).pcall rfl rfl, beginsLow, h]
  · have h : ¬ w.length ≤ t.pub.length := by omega
    simp [h, beginsLow]

/-- What Quirks returns. -/
def quirksOf (t : Token) : Bool :=
  if t.kind ≠ 1 then false else if t.quirks = true then true else if t.hasName = false then true else if t.name ≠ [104,116,109,108] then true else if t.hasPub = false then false
  else qExact.any (sameLow t.pub) || qPre.any (beginsLow t.pub) || (!t.hasSys && qPre2.any (beginsLow t.pub))
def q75 (v900 : AVal) : IT :=
 .cells 12 v900 fun c0 =>
 .op (.int .neq) [(g c0 0), (I 1)] fun v1 =>
 .cnd v1 (
  .ret .ret [ff]) (
  .cnd (g c0 7) (
   .ret .ret [tt]) (
   .op (.un .not) [(g c0 2)] fun v2 =>
   .cnd v2 (
    .ret .ret [tt]) (
    .op (.str .neq) [(g c0 1), (S [104,116,109,108])] fun v3 =>
    .cnd v3 (
     .ret .ret [tt]) (
     .op (.un .not) [(g c0 4)] fun v4 =>
     .cnd v4 (
      .ret .ret [ff]) (
      .op (.mksl 1) (qExact.map AVal.str) fun v5 =>
      .op (.len false) [v5] fun v6 =>
      .loop 8 [ff, (I 0)] (fun c7 =>
       .op (.int .lss) [(g c7 1), v6] fun v8 =>
       .cnd v8 (
        .op (.eaddr 1) [v5, (g c7 1)] fun v9 =>
        .load none v9 fun v10 =>
        .pcall 112 [(g c0 3), v10] fun v11 =>
        .cnd v11 (
         .ret .ret [tt, (g c7 1)]) (
         .op (.int .add) [(g c7 1), (I 1)] fun v12 =>
         .ret .normal [(g c7 0), v12])) (
        .ret (.exit 0) [(g c7 0), (g c7 1)])) (
      fun x c13 => match x with
      | .normal =>
       .op (.faddr 6) [(.rptr [(g c0 0), (g c0 1), (g c0 2), (g c0 3), (g c0 4), (g c0 5), (g c0 6), (g c0 7), (g c0 8), (g c0 9), (g c0 10), (g c0 11)])] fun v14 =>
       .load none v14 fun v15 =>
       .op (.un .not) [v15] fun v16 =>
       .cnd v16 (
        .callv (.func (.func 127) [] [(.rptr [(g c0 0), (g c0 1), (g c0 2), (g c0 3), (g c0 4), (g c0 5), (g c0 6), (g c0 7), (g c0 8), (g c0 9), (g c0 10), (g c0 11)])]) [(S qA)] fun v17 =>
        .cnd v17 (
         .ret .ret [tt]) (
         .callv (.func (.func 127) [] [(.rptr [(g c0 0), (g c0 1), (g c0 2), (g c0 3), (g c0 4), (g c0 5), (g c0 6), (g c0 7), (g c0 8), (g c0 9), (g c0 10), (g c0 11)])]) [(S qB)] fun v18 =>
         .cnd v18 (
          .ret .ret [tt]) (
          .op (.mksl 1) (qPre.map AVal.str) fun v19 =>
          .call 128 [v19, (.func (.func 127) [] [(.rptr [(g c0 0), (g c0 1), (g c0 2), (g c0 3), (g c0 4), (g c0 5), (g c0 6), (g c0 7), (g c0 8), (g c0 9), (g c0 10), (g c0 11)])])] fun v20 =>
          .ret .ret [v20]))) (
        .op (.mksl 1) (qPre.map AVal.str) fun v21 =>
        .call 128 [v21, (.func (.func 127) [] [(.rptr [(g c0 0), (g c0 1), (g c0 2), (g c0 3), (g c0 4), (g c0 5), (g c0 6), (g c0 7), (g c0 8), (g c0 9), (g c0 10), (g c0 11)])])] fun v22 =>
        .ret .ret [v22])
      | .exit i =>
       if i = 0 then
        .op (.faddr 6) [(.rptr [(g c0 0), (g c0 1), (g c0 2), (g c0 3), (g c0 4), (g c0 5), (g c0 6), (g c0 7), (g c0 8), (g c0 9), (g c0 10), (g c0 11)])] fun v23 =>
        .load none v23 fun v24 =>
        .op (.un .not) [v24] fun v25 =>
        .cnd v25 (
         .callv (.func (.func 127) [] [(.rptr [(g c0 0), (g c0 1), (g c0 2), (g c0 3), (g c0 4), (g c0 5), (g c0 6), (g c0 7), (g c0 8), (g c0 9), (g c0 10), (g c0 11)])]) [(S qA)] fun v26 =>
         .cnd v26 (
          .ret .ret [tt]) (
          .callv (.func (.func 127) [] [(.rptr [(g c0 0), (g c0 1), (g c0 2), (g c0 3), (g c0 4), (g c0 5), (g c0 6), (g c0 7), (g c0 8), (g c0 9), (g c0 10), (g c0 11)])]) [(S qB)] fun v27 =>
          .cnd v27 (
           .ret .ret [tt]) (
           .op (.mksl 1) (qPre.map AVal.str) fun v28 =>
           .call 128 [v28, (.func (.func 127) [] [(.rptr [(g c0 0), (g c0 1), (g c0 2), (g c0 3), (g c0 4), (g c0 5), (g c0 6), (g c0 7), (g c0 8), (g c0 9), (g c0 10), (g c0 11)])])] fun v29 =>
           .ret .ret [v29]))) (
         .op (.mksl 1) (qPre.map AVal.str) fun v30 =>
         .call 128 [v30, (.func (.func 127) [] [(.rptr [(g c0 0), (g c0 1), (g c0 2), (g c0 3), (g c0 4), (g c0 5), (g c0 6), (g c0 7), (g c0 8), (g c0 9), (g c0 10), (g c0 11)])])] fun v31 =>
         .ret .ret [v31])
       else
       .fail
      | .ret =>
       .ret .ret [(g c13 0)]))))))
theorem q75_eq {v : AVal} : t75 v = q75 v := rfl
def q76 (v900 : AVal) : IT :=
 .cells 12 v900 fun c0 =>
 .op (.int .neq) [(g c0 0), (I 1)] fun v1 =>
 .cnd v1 (
  .ret .ret [ff]) (
  .cnd (g c0 7) (
   .ret .ret [tt]) (
   .op (.un .not) [(g c0 2)] fun v2 =>
   .cnd v2 (
    .ret .ret [tt]) (
    .op (.str .neq) [(g c0 1), (S [104,116,109,108])] fun v3 =>
    .cnd v3 (
     .ret .ret [tt]) (
     .op (.un .not) [(g c0 4)] fun v4 =>
     .cnd v4 (
      .ret .ret [ff]) (
      .pcall 129 [(g c0 3), (S qE1)] fun v5 =>
      .cnd v5 (
       .ret .ret [tt]) (
       .pcall 129 [(g c0 3), (S qE2)] fun v6 =>
       .cnd v6 (
        .ret .ret [tt]) (
        .pcall 129 [(g c0 3), (S qE3)] fun v7 =>
        .cnd v7 (
         .ret .ret [tt]) (
         .op (.mksl 1) (qPre.map AVal.str) fun v8 =>
         .call 130 [(g c0 3), v8] fun v9 =>
         .cnd v9 (
          .ret .ret [tt]) (
          .op (.un .not) [(g c0 6)] fun v10 =>
          .cnd v10 (
           .op (.mksl 1) (qPre2.map AVal.str) fun v11 =>
           .call 130 [(g c0 3), v11] fun v12 =>
           .ret .ret [v12]) (
           .ret .ret [ff]))))))))))
theorem q76_eq {v : AVal} : t76 v = q76 v := rfl

theorem f76 (t : Token) (ht : t.pub.length ≤ maxBytes) (h : AHeap) : Ret cx 76 [.agg t.row] h (.bool (quirksOf t)) h := by
  have m1 := pe_mksl_strs (ws := qPre) (by decide)
  have m2 := pe_mksl_strs (ws := qPre2) (by decide)
  have w1 : ∀ w ∈ qPre, w.length ≤ maxBytes := by decide +kernel
  have w2 : ∀ w ∈ qPre2, w.length ≤ maxBytes := by decide +kernel
  rw [ret_iff, t76_eq, q76_eq, q76, Token.row]
  simp only [opW_some, opW_none, cndW_true, cndW_false, cndW_dec, W_ret_iff, W_fail_iff, W_op_iff, W_cells_iff, W_cnd_iff, W_load_iff, W_store_iff, W_alloc_iff, W_frz_iff, W_frzAt_iff, W_objOf_iff, W_bytesObj_iff, W_mnew_iff, W_mset_iff, W_mget_iff, W_callv_iff, W_join_iff, pe_eql, pe_neq, pe_lss, pe_leq, pe_gtr, pe_geq, pe_not, pe_seql, pe_sneq, pe_slen, pe_part_none, pe_part_some, pe_ext, pe_nonnil_ptr, pe_nonnil_rptr, pe_nonnil_func, pe_faddr_rptr, pe_faddr_ptr, pe_peq_nn, pe_peq_sn, pe_peq_ns, pe_beq, pe_mkagg, hload_rptr, partOf_none, partOf_some, fillAt, List.getD_cons_zero, List.getD_cons_succ, List.getElem?_cons_zero, List.getElem?_cons_succ, List.drop_zero, List.drop_succ_cons, List.drop_nil, List.take_zero, List.take_succ_cons, List.length_cons, List.length_nil, List.cons_append, List.nil_append, List.zip_cons_cons, List.zip_nil_right, Option.map_some, Option.map_none, Nat.reduceAdd, Nat.reduceLeDiff, Nat.reduceEqDiff, Nat.zero_add, cells_agg, cells_int, cells_str, cells_bool, cells_ptr, cells_rptr, cells_slnil, cells_sl, cells_msl, cells_func, targetOf, and_self, and_true, true_and, if_true, if_false, ↓reduceIte, reduceCtorEq, LoopPost_exit, LoopPost_ret, cndW_iff, m1, m2, (f129 t.pub qE1 ht (by decide +kernel)).pcall rfl rfl, (f129 t.pub qE2 ht (by decide +kernel)).pcall rfl rfl, (f129 t.pub qE3 ht (by decide +kernel)).pcall rfl rfl, (f130 (ws := qPre) .mk t.pub ht w1 (by decide) h).call, (f130 (ws := qPre2) .mk t.pub ht w2 (by decide) h).call]
  have e1 : qExact.any (sameLow t.pub) = (sameLow t.pub qE1 || (sameLow t.pub qE2 || sameLow t.pub qE3)) := by simp [qExact]
  unfold quirksOf
  rw [e1]
  generalize sameLow t.pub qE1 = b1
  generalize sameLow t.pub qE2 = b2
  generalize sameLow t.pub qE3 = b3
  generalize qPre.any (beginsLow t.pub) = b4
  generalize qPre2.any (beginsLow t.pub) = b5
  generalize t.quirks = b6
  generalize t.hasName = b7
  generalize t.hasPub = b8
  generalize t.hasSys = b9
  by_cases k1 : t.kind = 1 <;> by_cases k2 : t.name = [104,116,109,108] <;> simp [k1, k2] <;> cases b1 <;> cases b2 <;> cases b3 <;> cases b4 <;> cases b5 <;> cases b6 <;> cases b7 <;> cases b8 <;> cases b9 <;> simp

theorem f75 (t : Token) (ht : t.pub.length ≤ maxBytes) (h : AHeap) : Ret cx 75 [.agg t.row] h (.bool (quirksOf t)) h := by
  have m1 := pe_mksl_strs (ws := qPre) (by decide)
  have m2 := pe_mksl_strs (ws := qExact) (by decide)
  have w1 : ∀ w ∈ qPre, w.length ≤ maxBytes := by decide +kernel
  have w2 : ∀ w ∈ qPre2, w.length ≤ maxBytes := by decide +kernel
  have w3 : ∀ w ∈ qExact, w.length ≤ maxBytes := by decide +kernel
  have hv : IsStrs qExact (.sl 1 (qExact.map strRow)) := .mk
  have hlen : (qExact.map strRow).length = 3 := rfl
  have hlen2 : qExact.length = 3 := rfl
  have c1 := fun w hw => f127 t ht w hw h
  have c2 := fun k => (f128 (l := qPre) .mk (by decide) h (f := 127) (caps := [.rptr t.row]) (p := beginsLow t.pub) (fun a ha => f127 t ht a (w1 a ha) h)).call (k := k) (Q := fun x vs h1 => x = .ret ∧ vs = [.bool (quirksOf t)] ∧ h1 = h)
  have c3 := fun k => (c1 qA (w2 _ (by simp [qPre2]))).call (k := k) (Q := fun x vs h1 => x = .ret ∧ vs = [.bool (quirksOf t)] ∧ h1 = h)
  have c4 := fun k => (c1 qB (w2 _ (by simp [qPre2]))).call (k := k) (Q := fun x vs h1 => x = .ret ∧ vs = [.bool (quirksOf t)] ∧ h1 = h)
  have e1 : qPre2.any (beginsLow t.pub) = (beginsLow t.pub qA || beginsLow t.pub qB) := by simp [qPre2]
  have hq : quirksOf t = quirksOf t := rfl
  conv at hq => rhs; unfold quirksOf
  rw [e1] at hq
  rw [ret_iff, t75_eq, q75_eq, q75, Token.row]
  rw [Token.row] at c2 c3 c4
  simp only [W_cells_iff, cells_agg, List.length_cons, List.length_nil, Nat.reduceAdd, ↓reduceIte, opW_some, List.getD_cons_zero, List.getD_cons_succ]
  by_cases k1 : t.kind = 1
  rotate_left
  · rw [if_pos k1] at hq
    simp only [opW_some, opW_none, cndW_true, cndW_false, cndW_dec, W_ret_iff, W_fail_iff, W_op_iff, W_cells_iff, W_cnd_iff, W_load_iff, W_store_iff, W_alloc_iff, W_frz_iff, W_frzAt_iff, W_objOf_iff, W_bytesObj_iff, W_mnew_iff, W_mset_iff, W_mget_iff, W_callv_iff, W_join_iff, pe_eql, pe_neq, pe_lss, pe_leq, pe_gtr, pe_geq, pe_not, pe_seql, pe_sneq, pe_slen, pe_part_none, pe_part_some, pe_ext, pe_nonnil_ptr, pe_nonnil_rptr, pe_nonnil_func, pe_faddr_rptr, pe_faddr_ptr, pe_peq_nn, pe_peq_sn, pe_peq_ns, pe_beq, pe_mkagg, hload_rptr, partOf_none, partOf_some, fillAt, List.getD_cons_zero, List.getD_cons_succ, List.getElem?_cons_zero, List.getElem?_cons_succ, List.drop_zero, List.drop_succ_cons, List.drop_nil, List.take_zero, List.take_succ_cons, List.length_cons, List.length_nil, List.cons_append, List.nil_append, List.zip_cons_cons, List.zip_nil_right, Option.map_some, Option.map_none, Nat.reduceAdd, Nat.reduceLeDiff, Nat.reduceEqDiff, Nat.zero_add, cells_agg, cells_int, cells_str, cells_bool, cells_ptr, cells_rptr, cells_slnil, cells_sl, cells_msl, cells_func, targetOf, and_self, and_true, true_and, if_true, if_false, ↓reduceIte, reduceCtorEq, LoopPost_exit, LoopPost_ret, k1, not_false_eq_true, true_implies, false_implies, ne_eq, not_true_eq_false, hq]
  rw [if_neg (by simp [k1])] at hq
  simp only [opW_some, opW_none, cndW_true, cndW_false, cndW_dec, W_ret_iff, W_fail_iff, W_op_iff, W_cells_iff, W_cnd_iff, W_load_iff, W_store_iff, W_alloc_iff, W_frz_iff, W_frzAt_iff, W_objOf_iff, W_bytesObj_iff, W_mnew_iff, W_mset_iff, W_mget_iff, W_callv_iff, W_join_iff, pe_eql, pe_neq, pe_lss, pe_leq, pe_gtr, pe_geq, pe_not, pe_seql, pe_sneq, pe_slen, pe_part_none, pe_part_some, pe_ext, pe_nonnil_ptr, pe_nonnil_rptr, pe_nonnil_func, pe_faddr_rptr, pe_faddr_ptr, pe_peq_nn, pe_peq_sn, pe_peq_ns, pe_beq, pe_mkagg, hload_rptr, partOf_none, partOf_some, fillAt, List.getD_cons_zero, List.getD_cons_succ, List.getElem?_cons_zero, List.getElem?_cons_succ, List.drop_zero, List.drop_succ_cons, List.drop_nil, List.take_zero, List.take_succ_cons, List.length_cons, List.length_nil, List.cons_append, List.nil_append, List.zip_cons_cons, List.zip_nil_right, Option.map_some, Option.map_none, Nat.reduceAdd, Nat.reduceLeDiff, Nat.reduceEqDiff, Nat.zero_add, cells_agg, cells_int, cells_str, cells_bool, cells_ptr, cells_rptr, cells_slnil, cells_sl, cells_msl, cells_func, targetOf, and_self, and_true, true_and, if_true, if_false, ↓reduceIte, reduceCtorEq, LoopPost_exit, LoopPost_ret, k1, not_true_eq_false, false_implies, not_false_eq_true, true_implies, ne_eq]
  cases k2 : t.quirks with
  | true =>
    rw [if_pos k2] at hq
    simp only [opW_some, opW_none, cndW_true, cndW_false, cndW_dec, W_ret_iff, W_fail_iff, W_op_iff, W_cells_iff, W_cnd_iff, W_load_iff, W_store_iff, W_alloc_iff, W_frz_iff, W_frzAt_iff, W_objOf_iff, W_bytesObj_iff, W_mnew_iff, W_mset_iff, W_mget_iff, W_callv_iff, W_join_iff, pe_eql, pe_neq, pe_lss, pe_leq, pe_gtr, pe_geq, pe_not, pe_seql, pe_sneq, pe_slen, pe_part_none, pe_part_some, pe_ext, pe_nonnil_ptr, pe_nonnil_rptr, pe_nonnil_func, pe_faddr_rptr, pe_faddr_ptr, pe_peq_nn, pe_peq_sn, pe_peq_ns, pe_beq, pe_mkagg, hload_rptr, partOf_none, partOf_some, fillAt, List.getD_cons_zero, List.getD_cons_succ, List.getElem?_cons_zero, List.getElem?_cons_succ, List.drop_zero, List.drop_succ_cons, List.drop_nil, List.take_zero, List.take_succ_cons, List.length_cons, List.length_nil, List.cons_append, List.nil_append, List.zip_cons_cons, List.zip_nil_right, Option.map_some, Option.map_none, Nat.reduceAdd, Nat.reduceLeDiff, Nat.reduceEqDiff, Nat.zero_add, cells_agg, cells_int, cells_str, cells_bool, cells_ptr, cells_rptr, cells_slnil, cells_sl, cells_msl, cells_func, targetOf, and_self, and_true, true_and, if_true, if_false, ↓reduceIte, reduceCtorEq, LoopPost_exit, LoopPost_ret, hq]
  | false =>
    rw [if_neg (by simp [k2])] at hq
    simp only [opW_some, opW_none, cndW_true, cndW_false, cndW_dec, W_ret_iff, W_fail_iff, W_op_iff, W_cells_iff, W_cnd_iff, W_load_iff, W_store_iff, W_alloc_iff, W_frz_iff, W_frzAt_iff, W_objOf_iff, W_bytesObj_iff, W_mnew_iff, W_mset_iff, W_mget_iff, W_callv_iff, W_join_iff, pe_eql, pe_neq, pe_lss, pe_leq, pe_gtr, pe_geq, pe_not, pe_seql, pe_sneq, pe_slen, pe_part_none, pe_part_some, pe_ext, pe_nonnil_ptr, pe_nonnil_rptr, pe_nonnil_func, pe_faddr_rptr, pe_faddr_ptr, pe_peq_nn, pe_peq_sn, pe_peq_ns, pe_beq, pe_mkagg, hload_rptr, partOf_none, partOf_some, fillAt, List.getD_cons_zero, List.getD_cons_succ, List.getElem?_cons_zero, List.getElem?_cons_succ, List.drop_zero, List.drop_succ_cons, List.drop_nil, List.take_zero, List.take_succ_cons, List.length_cons, List.length_nil, List.cons_append, List.nil_append, List.zip_cons_cons, List.zip_nil_right, Option.map_some, Option.map_none, Nat.reduceAdd, Nat.reduceLeDiff, Nat.reduceEqDiff, Nat.zero_add, cells_agg, cells_int, cells_str, cells_bool, cells_ptr, cells_rptr, cells_slnil, cells_sl, cells_msl, cells_func, targetOf, and_self, and_true, true_and, if_true, if_false, ↓reduceIte, reduceCtorEq, LoopPost_exit, LoopPost_ret]
    cases k3 : t.hasName with
    | false =>
      rw [if_pos k3] at hq
      simp only [opW_some, opW_none, cndW_true, cndW_false, cndW_dec, W_ret_iff, W_fail_iff, W_op_iff, W_cells_iff, W_cnd_iff, W_load_iff, W_store_iff, W_alloc_iff, W_frz_iff, W_frzAt_iff, W_objOf_iff, W_bytesObj_iff, W_mnew_iff, W_mset_iff, W_mget_iff, W_callv_iff, W_join_iff, pe_eql, pe_neq, pe_lss, pe_leq, pe_gtr, pe_geq, pe_not, pe_seql, pe_sneq, pe_slen, pe_part_none, pe_part_some, pe_ext, pe_nonnil_ptr, pe_nonnil_rptr, pe_nonnil_func, pe_faddr_rptr, pe_faddr_ptr, pe_peq_nn, pe_peq_sn, pe_peq_ns, pe_beq, pe_mkagg, hload_rptr, partOf_none, partOf_some, fillAt, List.getD_cons_zero, List.getD_cons_succ, List.getElem?_cons_zero, List.getElem?_cons_succ, List.drop_zero, List.drop_succ_cons, List.drop_nil, List.take_zero, List.take_succ_cons, List.length_cons, List.length_nil, List.cons_append, List.nil_append, List.zip_cons_cons, List.zip_nil_right, Option.map_some, Option.map_none, Nat.reduceAdd, Nat.reduceLeDiff, Nat.reduceEqDiff, Nat.zero_add, cells_agg, cells_int, cells_str, cells_bool, cells_ptr, cells_rptr, cells_slnil, cells_sl, cells_msl, cells_func, targetOf, and_self, and_true, true_and, if_true, if_false, ↓reduceIte, reduceCtorEq, LoopPost_exit, LoopPost_ret, Bool.not_false, hq]
    | true =>
      rw [if_neg (by simp [k3])] at hq
      simp only [opW_some, opW_none, cndW_true, cndW_false, cndW_dec, W_ret_iff, W_fail_iff, W_op_iff, W_cells_iff, W_cnd_iff, W_load_iff, W_store_iff, W_alloc_iff, W_frz_iff, W_frzAt_iff, W_objOf_iff, W_bytesObj_iff, W_mnew_iff, W_mset_iff, W_mget_iff, W_callv_iff, W_join_iff, pe_eql, pe_neq, pe_lss, pe_leq, pe_gtr, pe_geq, pe_not, pe_seql, pe_sneq, pe_slen, pe_part_none, pe_part_some, pe_ext, pe_nonnil_ptr, pe_nonnil_rptr, pe_nonnil_func, pe_faddr_rptr, pe_faddr_ptr, pe_peq_nn, pe_peq_sn, pe_peq_ns, pe_beq, pe_mkagg, hload_rptr, partOf_none, partOf_some, fillAt, List.getD_cons_zero, List.getD_cons_succ, List.getElem?_cons_zero, List.getElem?_cons_succ, List.drop_zero, List.drop_succ_cons, List.drop_nil, List.take_zero, List.take_succ_cons, List.length_cons, List.length_nil, List.cons_append, List.nil_append, List.zip_cons_cons, List.zip_nil_right, Option.map_some, Option.map_none, Nat.reduceAdd, Nat.reduceLeDiff, Nat.reduceEqDiff, Nat.zero_add, cells_agg, cells_int, cells_str, cells_bool, cells_ptr, cells_rptr, cells_slnil, cells_sl, cells_msl, cells_func, targetOf, and_self, and_true, true_and, if_true, if_false, ↓reduceIte, reduceCtorEq, LoopPost_exit, LoopPost_ret, Bool.not_true]
      by_cases k4 : t.name = [104,116,109,108]
      rotate_left
      · rw [if_pos k4] at hq
        simp only [opW_some, opW_none, cndW_true, cndW_false, cndW_dec, W_ret_iff, W_fail_iff, W_op_iff, W_cells_iff, W_cnd_iff, W_load_iff, W_store_iff, W_alloc_iff, W_frz_iff, W_frzAt_iff, W_objOf_iff, W_bytesObj_iff, W_mnew_iff, W_mset_iff, W_mget_iff, W_callv_iff, W_join_iff, pe_eql, pe_neq, pe_lss, pe_leq, pe_gtr, pe_geq, pe_not, pe_seql, pe_sneq, pe_slen, pe_part_none, pe_part_some, pe_ext, pe_nonnil_ptr, pe_nonnil_rptr, pe_nonnil_func, pe_faddr_rptr, pe_faddr_ptr, pe_peq_nn, pe_peq_sn, pe_peq_ns, pe_beq, pe_mkagg, hload_rptr, partOf_none, partOf_some, fillAt, List.getD_cons_zero, List.getD_cons_succ, List.getElem?_cons_zero, List.getElem?_cons_succ, List.drop_zero, List.drop_succ_cons, List.drop_nil, List.take_zero, List.take_succ_cons, List.length_cons, List.length_nil, List.cons_append, List.nil_append, List.zip_cons_cons, List.zip_nil_right, Option.map_some, Option.map_none, Nat.reduceAdd, Nat.reduceLeDiff, Nat.reduceEqDiff, Nat.zero_add, cells_agg, cells_int, cells_str, cells_bool, cells_ptr, cells_rptr, cells_slnil, cells_sl, cells_msl, cells_func, targetOf, and_self, and_true, true_and, if_true, if_false, ↓reduceIte, reduceCtorEq, LoopPost_exit, LoopPost_ret, k4, not_false_eq_true, true_implies, false_implies, ne_eq, not_true_eq_false, hq]
      rw [if_neg (by simp [k4])] at hq
      simp only [opW_some, opW_none, cndW_true, cndW_false, cndW_dec, W_ret_iff, W_fail_iff, W_op_iff, W_cells_iff, W_cnd_iff, W_load_iff, W_store_iff, W_alloc_iff, W_frz_iff, W_frzAt_iff, W_objOf_iff, W_bytesObj_iff, W_mnew_iff, W_mset_iff, W_mget_iff, W_callv_iff, W_join_iff, pe_eql, pe_neq, pe_lss, pe_leq, pe_gtr, pe_geq, pe_not, pe_seql, pe_sneq, pe_slen, pe_part_none, pe_part_some, pe_ext, pe_nonnil_ptr, pe_nonnil_rptr, pe_nonnil_func, pe_faddr_rptr, pe_faddr_ptr, pe_peq_nn, pe_peq_sn, pe_peq_ns, pe_beq, pe_mkagg, hload_rptr, partOf_none, partOf_some, fillAt, List.getD_cons_zero, List.getD_cons_succ, List.getElem?_cons_zero, List.getElem?_cons_succ, List.drop_zero, List.drop_succ_cons, List.drop_nil, List.take_zero, List.take_succ_cons, List.length_cons, List.length_nil, List.cons_append, List.nil_append, List.zip_cons_cons, List.zip_nil_right, Option.map_some, Option.map_none, Nat.reduceAdd, Nat.reduceLeDiff, Nat.reduceEqDiff, Nat.zero_add, cells_agg, cells_int, cells_str, cells_bool, cells_ptr, cells_rptr, cells_slnil, cells_sl, cells_msl, cells_func, targetOf, and_self, and_true, true_and, if_true, if_false, ↓reduceIte, reduceCtorEq, LoopPost_exit, LoopPost_ret, k4, not_true_eq_false, false_implies, not_false_eq_true, true_implies, ne_eq]
      cases k5 : t.hasPub with
      | false =>
        rw [if_pos k5] at hq
        simp only [opW_some, opW_none, cndW_true, cndW_false, cndW_dec, W_ret_iff, W_fail_iff, W_op_iff, W_cells_iff, W_cnd_iff, W_load_iff, W_store_iff, W_alloc_iff, W_frz_iff, W_frzAt_iff, W_objOf_iff, W_bytesObj_iff, W_mnew_iff, W_mset_iff, W_mget_iff, W_callv_iff, W_join_iff, pe_eql, pe_neq, pe_lss, pe_leq, pe_gtr, pe_geq, pe_not, pe_seql, pe_sneq, pe_slen, pe_part_none, pe_part_some, pe_ext, pe_nonnil_ptr, pe_nonnil_rptr, pe_nonnil_func, pe_faddr_rptr, pe_faddr_ptr, pe_peq_nn, pe_peq_sn, pe_peq_ns, pe_beq, pe_mkagg, hload_rptr, partOf_none, partOf_some, fillAt, List.getD_cons_zero, List.getD_cons_succ, List.getElem?_cons_zero, List.getElem?_cons_succ, List.drop_zero, List.drop_succ_cons, List.drop_nil, List.take_zero, List.take_succ_cons, List.length_cons, List.length_nil, List.cons_append, List.nil_append, List.zip_cons_cons, List.zip_nil_right, Option.map_some, Option.map_none, Nat.reduceAdd, Nat.reduceLeDiff, Nat.reduceEqDiff, Nat.zero_add, cells_agg, cells_int, cells_str, cells_bool, cells_ptr, cells_rptr, cells_slnil, cells_sl, cells_msl, cells_func, targetOf, and_self, and_true, true_and, if_true, if_false, ↓reduceIte, reduceCtorEq, LoopPost_exit, LoopPost_ret, Bool.not_false, hq]
      | true =>
        rw [if_neg (by simp [k5])] at hq
        simp only [opW_some, opW_none, cndW_true, cndW_false, cndW_dec, W_ret_iff, W_fail_iff, W_op_iff, W_cells_iff, W_cnd_iff, W_load_iff, W_store_iff, W_alloc_iff, W_frz_iff, W_frzAt_iff, W_objOf_iff, W_bytesObj_iff, W_mnew_iff, W_mset_iff, W_mget_iff, W_callv_iff, W_join_iff, pe_eql, pe_neq, pe_lss, pe_leq, pe_gtr, pe_geq, pe_not, pe_seql, pe_sneq, pe_slen, pe_part_none, pe_part_some, pe_ext, pe_nonnil_ptr, pe_nonnil_rptr, pe_nonnil_func, pe_faddr_rptr, pe_faddr_ptr, pe_peq_nn, pe_peq_sn, pe_peq_ns, pe_beq, pe_mkagg, hload_rptr, partOf_none, partOf_some, fillAt, List.getD_cons_zero, List.getD_cons_succ, List.getElem?_cons_zero, List.getElem?_cons_succ, List.drop_zero, List.drop_succ_cons, List.drop_nil, List.take_zero, List.take_succ_cons, List.length_cons, List.length_nil, List.cons_append, List.nil_append, List.zip_cons_cons, List.zip_nil_right, Option.map_some, Option.map_none, Nat.reduceAdd, Nat.reduceLeDiff, Nat.reduceEqDiff, Nat.zero_add, cells_agg, cells_int, cells_str, cells_bool, cells_ptr, cells_rptr, cells_slnil, cells_sl, cells_msl, cells_func, targetOf, and_self, and_true, true_and, if_true, if_false, ↓reduceIte, reduceCtorEq, LoopPost_exit, LoopPost_ret, Bool.not_true, m2, IsSl.len hv, hlen]
        refine W_loop_st (fun n : Nat => [.bool false, .int .i64 (n : Int)]) (fun n h1 => n ≤ qExact.length ∧ qExact.any (sameLow t.pub) = (qExact.drop n).any (sameLow t.pub) ∧ h1 = h) (fun n => qExact.length - n) 0 rfl ⟨Nat.zero_le _, rfl, rfl⟩ ?_
        rintro n h1 ⟨hn', ha, rfl⟩
        rcases Nat.lt_or_ge n qExact.length with hlt | hge
        · have i1 : (n : Int) < ((3 : Nat) : Int) := by omega
          have e1 : (qExact.map strRow)[n]'(by rw [hlen]; omega) = strRow qExact[n] := by simp
          have e2 : decide (lower t.pub = lower qExact[n]) = sameLow t.pub qExact[n] := rfl
          rw [List.drop_eq_getElem_cons hlt, List.any_cons] at ha
          simp only [opW_some, opW_none, cndW_true, cndW_false, cndW_dec, W_ret_iff, W_fail_iff, W_op_iff, W_cells_iff, W_cnd_iff, W_load_iff, W_store_iff, W_alloc_iff, W_frz_iff, W_frzAt_iff, W_objOf_iff, W_bytesObj_iff, W_mnew_iff, W_mset_iff, W_mget_iff, W_callv_iff, W_join_iff, pe_eql, pe_neq, pe_lss, pe_leq, pe_gtr, pe_geq, pe_not, pe_seql, pe_sneq, pe_slen, pe_part_none, pe_part_some, pe_ext, pe_nonnil_ptr, pe_nonnil_rptr, pe_nonnil_func, pe_faddr_rptr, pe_faddr_ptr, pe_peq_nn, pe_peq_sn, pe_peq_ns, pe_beq, pe_mkagg, hload_rptr, partOf_none, partOf_some, fillAt, List.getD_cons_zero, List.getD_cons_succ, List.getElem?_cons_zero, List.getElem?_cons_succ, List.drop_zero, List.drop_succ_cons, List.drop_nil, List.take_zero, List.take_succ_cons, List.length_cons, List.length_nil, List.cons_append, List.nil_append, List.zip_cons_cons, List.zip_nil_right, Option.map_some, Option.map_none, Nat.reduceAdd, Nat.reduceLeDiff, Nat.reduceEqDiff, Nat.zero_add, cells_agg, cells_int, cells_str, cells_bool, cells_ptr, cells_rptr, cells_slnil, cells_sl, cells_msl, cells_func, targetOf, and_self, and_true, true_and, if_true, if_false, ↓reduceIte, reduceCtorEq, LoopPost_exit, LoopPost_ret, i1, not_true_eq_false, true_implies, false_implies, IsSl.eaddr hv (show n < (qExact.map strRow).length by rw [hlen]; omega), e1, strRow, (f112 _ _ ht (w3 _ (List.getElem_mem hlt))).pcall rfl rfl, e2, pe_inc (show n < 9223372036854775807 by omega)]
          rw [cndW_iff]
          refine ⟨fun h6 => ?_, fun h6 => ?_⟩
          · rw [h6, Bool.true_or] at ha
            rw [ha, Bool.true_or, Bool.true_or] at hq
            rw [hq]
          · rw [h6, Bool.false_or] at ha
            exact LoopPost.next (n + 1) rfl ⟨hlt, ha, rfl⟩ (by omega)
        · have i1 : ¬ (n : Int) < ((3 : Nat) : Int) := by omega
          rw [List.drop_of_length_le hge, List.any_nil] at ha
          rw [ha, Bool.false_or] at hq
          simp only [opW_some, opW_none, cndW_true, cndW_false, cndW_dec, W_ret_iff, W_fail_iff, W_op_iff, W_cells_iff, W_cnd_iff, W_load_iff, W_store_iff, W_alloc_iff, W_frz_iff, W_frzAt_iff, W_objOf_iff, W_bytesObj_iff, W_mnew_iff, W_mset_iff, W_mget_iff, W_callv_iff, W_join_iff, pe_eql, pe_neq, pe_lss, pe_leq, pe_gtr, pe_geq, pe_not, pe_seql, pe_sneq, pe_slen, pe_part_none, pe_part_some, pe_ext, pe_nonnil_ptr, pe_nonnil_rptr, pe_nonnil_func, pe_faddr_rptr, pe_faddr_ptr, pe_peq_nn, pe_peq_sn, pe_peq_ns, pe_beq, pe_mkagg, hload_rptr, partOf_none, partOf_some, fillAt, List.getD_cons_zero, List.getD_cons_succ, List.getElem?_cons_zero, List.getElem?_cons_succ, List.drop_zero, List.drop_succ_cons, List.drop_nil, List.take_zero, List.take_succ_cons, List.length_cons, List.length_nil, List.cons_append, List.nil_append, List.zip_cons_cons, List.zip_nil_right, Option.map_some, Option.map_none, Nat.reduceAdd, Nat.reduceLeDiff, Nat.reduceEqDiff, Nat.zero_add, cells_agg, cells_int, cells_str, cells_bool, cells_ptr, cells_rptr, cells_slnil, cells_sl, cells_msl, cells_func, targetOf, and_self, and_true, true_and, if_true, if_false, ↓reduceIte, reduceCtorEq, LoopPost_exit, LoopPost_ret, i1, not_false_eq_true, true_implies, false_implies]
          cases k6 : t.hasSys with
          | true =>
            rw [k6] at hq
            rw [k1, k2, k3, k4, k5, k6] at c2
            simp only [opW_some, opW_none, cndW_true, cndW_false, cndW_dec, W_ret_iff, W_fail_iff, W_op_iff, W_cells_iff, W_cnd_iff, W_load_iff, W_store_iff, W_alloc_iff, W_frz_iff, W_frzAt_iff, W_objOf_iff, W_bytesObj_iff, W_mnew_iff, W_mset_iff, W_mget_iff, W_callv_iff, W_join_iff, pe_eql, pe_neq, pe_lss, pe_leq, pe_gtr, pe_geq, pe_not, pe_seql, pe_sneq, pe_slen, pe_part_none, pe_part_some, pe_ext, pe_nonnil_ptr, pe_nonnil_rptr, pe_nonnil_func, pe_faddr_rptr, pe_faddr_ptr, pe_peq_nn, pe_peq_sn, pe_peq_ns, pe_beq, pe_mkagg, hload_rptr, partOf_none, partOf_some, fillAt, List.getD_cons_zero, List.getD_cons_succ, List.getElem?_cons_zero, List.getElem?_cons_succ, List.drop_zero, List.drop_succ_cons, List.drop_nil, List.take_zero, List.take_succ_cons, List.length_cons, List.length_nil, List.cons_append, List.nil_append, List.zip_cons_cons, List.zip_nil_right, Option.map_some, Option.map_none, Nat.reduceAdd, Nat.reduceLeDiff, Nat.reduceEqDiff, Nat.zero_add, cells_agg, cells_int, cells_str, cells_bool, cells_ptr, cells_rptr, cells_slnil, cells_sl, cells_msl, cells_func, targetOf, and_self, and_true, true_and, if_true, if_false, ↓reduceIte, reduceCtorEq, LoopPost_exit, LoopPost_ret, Bool.not_true, m1, c2]
            rw [hq]; simp
          | false =>
            rw [k6] at hq
            rw [k1, k2, k3, k4, k5, k6] at c2 c3 c4
            simp only [opW_some, opW_none, cndW_true, cndW_false, cndW_dec, W_ret_iff, W_fail_iff, W_op_iff, W_cells_iff, W_cnd_iff, W_load_iff, W_store_iff, W_alloc_iff, W_frz_iff, W_frzAt_iff, W_objOf_iff, W_bytesObj_iff, W_mnew_iff, W_mset_iff, W_mget_iff, W_callv_iff, W_join_iff, pe_eql, pe_neq, pe_lss, pe_leq, pe_gtr, pe_geq, pe_not, pe_seql, pe_sneq, pe_slen, pe_part_none, pe_part_some, pe_ext, pe_nonnil_ptr, pe_nonnil_rptr, pe_nonnil_func, pe_faddr_rptr, pe_faddr_ptr, pe_peq_nn, pe_peq_sn, pe_peq_ns, pe_beq, pe_mkagg, hload_rptr, partOf_none, partOf_some, fillAt, List.getD_cons_zero, List.getD_cons_succ, List.getElem?_cons_zero, List.getElem?_cons_succ, List.drop_zero, List.drop_succ_cons, List.drop_nil, List.take_zero, List.take_succ_cons, List.length_cons, List.length_nil, List.cons_append, List.nil_append, List.zip_cons_cons, List.zip_nil_right, Option.map_some, Option.map_none, Nat.reduceAdd, Nat.reduceLeDiff, Nat.reduceEqDiff, Nat.zero_add, cells_agg, cells_int, cells_str, cells_bool, cells_ptr, cells_rptr, cells_slnil, cells_sl, cells_msl, cells_func, targetOf, and_self, and_true, true_and, if_true, if_false, ↓reduceIte, reduceCtorEq, LoopPost_exit, LoopPost_ret, Bool.not_false, m1, c2, c3, c4, List.append_nil]
            rw [cndW_iff, cndW_iff]
            refine ⟨fun h6 => ?_, fun h6 => ⟨fun h7 => ?_, fun h7 => ?_⟩⟩
            · rw [hq, h6]; simp
            · rw [hq, h7]; simp
            · rw [hq, h6, h7]; simp
theorem ev_quirks (t : Token) {l : List Attr} (hv : IsAttrs l t.attrs) : Ev cx 13 [.agg t.row] [] fun r _ => r = .bool true := by
  unfold Ev
  rw [t13_eq, t13, Token.row]
  simp only [opW_some, opW_none, cndW_true, cndW_false, cndW_dec, W_ret_iff, W_fail_iff, W_op_iff, W_cells_iff, W_cnd_iff, W_load_iff, W_store_iff, W_alloc_iff, W_frz_iff, W_frzAt_iff, W_objOf_iff, W_bytesObj_iff, W_mnew_iff, W_mset_iff, W_mget_iff, W_callv_iff, W_join_iff, pe_eql, pe_neq, pe_lss, pe_leq, pe_gtr, pe_geq, pe_not, pe_seql, pe_sneq, pe_slen, pe_part_none, pe_part_some, pe_ext, pe_nonnil_ptr, pe_nonnil_rptr, pe_nonnil_func, pe_faddr_rptr, pe_faddr_ptr, pe_peq_nn, pe_peq_sn, pe_peq_ns, pe_beq, pe_mkagg, hload_rptr, partOf_none, partOf_some, fillAt, List.getD_cons_zero, List.getD_cons_succ, List.getElem?_cons_zero, List.getElem?_cons_succ, List.drop_zero, List.drop_succ_cons, List.drop_nil, List.take_zero, List.take_succ_cons, List.length_cons, List.length_nil, List.cons_append, List.nil_append, List.zip_cons_cons, List.zip_nil_right, Option.map_some, Option.map_none, Nat.reduceAdd, Nat.reduceLeDiff, Nat.reduceEqDiff, Nat.zero_add, cells_agg, cells_int, cells_str, cells_bool, cells_ptr, cells_rptr, cells_slnil, cells_sl, cells_msl, cells_func, targetOf, and_self, and_true, true_and, if_true, if_false, ↓reduceIte, reduceCtorEq, LoopPost_exit, LoopPost_ret, known_iff]
  refine ⟨fun _ => ⟨_, rfl, rfl⟩, fun h0 => ⟨fun _ => ⟨_, rfl, rfl⟩, fun h1 => ⟨fun _ => ⟨_, rfl, rfl⟩, fun h2 => ?_⟩⟩⟩
  have ht : t.pub.length ≤ maxBytes := by have : maxBytes = 140737488355328 := rfl; omega
  have e75 := fun k => (f75 t ht []).call (k := k) (Q := fun x vs h' => x = .ret ∧ ∃ r, vs = [r] ∧ r = .bool true)
  have e76 := fun k => (f76 t ht []).call (k := k) (Q := fun x vs h' => x = .ret ∧ ∃ r, vs = [r] ∧ r = .bool true)
  rw [Token.row] at e75 e76
  simp only [opW_some, opW_none, cndW_true, cndW_false, cndW_dec, W_ret_iff, W_fail_iff, W_op_iff, W_cells_iff, W_cnd_iff, W_load_iff, W_store_iff, W_alloc_iff, W_frz_iff, W_frzAt_iff, W_objOf_iff, W_bytesObj_iff, W_mnew_iff, W_mset_iff, W_mget_iff, W_callv_iff, W_join_iff, pe_eql, pe_neq, pe_lss, pe_leq, pe_gtr, pe_geq, pe_not, pe_seql, pe_sneq, pe_slen, pe_part_none, pe_part_some, pe_ext, pe_nonnil_ptr, pe_nonnil_rptr, pe_nonnil_func, pe_faddr_rptr, pe_faddr_ptr, pe_peq_nn, pe_peq_sn, pe_peq_ns, pe_beq, pe_mkagg, hload_rptr, partOf_none, partOf_some, fillAt, List.getD_cons_zero, List.getD_cons_succ, List.getElem?_cons_zero, List.getElem?_cons_succ, List.drop_zero, List.drop_succ_cons, List.drop_nil, List.take_zero, List.take_succ_cons, List.length_cons, List.length_nil, List.cons_append, List.nil_append, List.zip_cons_cons, List.zip_nil_right, Option.map_some, Option.map_none, Nat.reduceAdd, Nat.reduceLeDiff, Nat.reduceEqDiff, Nat.zero_add, cells_agg, cells_int, cells_str, cells_bool, cells_ptr, cells_rptr, cells_slnil, cells_sl, cells_msl, cells_func, targetOf, and_self, and_true, true_and, if_true, if_false, ↓reduceIte, reduceCtorEq, LoopPost_exit, LoopPost_ret, known_iff, e75, e76, beq_self_eq_true, bne_self_eq_false, Bool.bne_true, Bool.bne_false]
  exact ⟨_, rfl, rfl⟩
theorem all_quirks : ∀ l, HasArgs [tToken] l → Ev cx 13 l [] fun r _ => r = .bool true := by
  rintro _ ⟨_, _, rfl, ⟨r, rfl, h⟩, rfl⟩
  obtain ⟨t, rfl, l, hv⟩ := has_token r h
  exact ev_quirks t hv
end Go.Am
