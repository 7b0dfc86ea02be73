/-
  StackNests as the abstract machine runs it: it returns true. No law is claimed here.
-/
import Derived.Test.YtejpjabbdkpmiaaDoorLScopes
namespace Go.Am
open Go
set_option maxRecDepth 100000
set_option linter.unusedSimpArgs false
set_option linter.unusedVariables false

/-- What a round of a loop that is unrolled must come to. -/
def StepPost (C : Ctx) (key : Nat) (body : List AVal → IT) (k : AExit → List AVal → IT) (Q : Post) : Post :=
  fun x vs h1 => (x = .normal ∧ W C (.loop key vs body k) Q h1) ∨ (x ≠ .normal ∧ W C (k x vs) Q h1)
section
variable {C : Ctx} {key : Nat} {body : List AVal → IT} {k : AExit → List AVal → IT} {Q : Post} {vs : List AVal} {h : AHeap}
theorem W_unroll (hw : W C (body vs) (StepPost C key body k Q) h) : W C (.loop key vs body k) Q h := W_loop_step hw
theorem StepPost_normal : StepPost C key body k Q .normal vs h ↔ W C (.loop key vs body k) Q h := by simp [StepPost]
theorem StepPost_exit {i : Nat} : StepPost C key body k Q (.exit i) vs h ↔ W C (k (.exit i) vs) Q h := by simp [StepPost]
theorem StepPost_ret : StepPost C key body k Q .ret vs h ↔ W C (k .ret vs) Q h := by simp [StepPost]
end
theorem inSc_mono {α : Type} {q e1 e2 : α → Bool} (h : ∀ a, e1 a = true → e2 a = true) : ∀ {l : List α}, inSc q e2 l = true → inSc q e1 l = true
  | [], h1 => h1
  | a :: l, h1 => by
    unfold inSc at h1 ⊢
    by_cases hq : q a = true
    · simp [hq]
    · rw [if_neg hq] at h1 ⊢
      by_cases h2 : e2 a = true
      · rw [if_pos h2] at h1; cases h1
      · rw [if_neg h2] at h1
        rw [if_neg (fun h3 => h2 (h a h3))]
        exact inSc_mono h h1
theorem inSc_some {α : Type} {q e : α → Bool} : ∀ {l : List α}, inSc q e l = true → ∃ a ∈ l, q a = true
  | [], h1 => by cases h1
  | a :: l, h1 => by
    unfold inSc at h1
    by_cases hq : q a = true
    · exact ⟨a, by simp, hq⟩
    · rw [if_neg hq] at h1
      by_cases h2 : e a = true
      · rw [if_pos h2] at h1; cases h1
      · rw [if_neg h2] at h1
        obtain ⟨b, hb, h⟩ := inSc_some h1
        exact ⟨b, by simp [hb], h⟩
theorem inSc_last {α : Type} {q e : α → Bool} {l : List α} (h : inSc q e l.reverse = true) : 0 ≤ lastIdx q l := by
  obtain ⟨a, ha, hq⟩ := inSc_some h
  rcases lastIdx_spec (q := q) (l := l) with ⟨h1, h2⟩ | ⟨n, hn, h1, _⟩
  · rw [h2 a (by simpa using ha)] at hq; cases hq
  · omega
theorem ends_sub1 (a : Item) (n : Int) (hn : n = 2 ∨ n = 3) (h : ends 1 a = true) : ends n a = true := by
  unfold ends at h ⊢
  rw [if_neg (by decide), if_neg (by decide)] at h
  rw [if_neg (by omega), if_neg (by omega)]
  by_cases h3 : a.space = 3 ∨ a.space = 2
  · rw [if_pos h3] at h ⊢; exact h
  · rw [if_neg h3] at h ⊢
    simp at h
    simp [h]
theorem ends_sub4 (a : Item) (n : Int) (hn : n = 1 ∨ n = 5) (h : ends 4 a = true) : ends n a = true := by
  have h1 : isOne rTables a = true := by simpa [ends] using h
  have h2 : a.space = 1 ∧ a.name ∈ rTables := by simpa [isOne] using h1
  rcases hn with rfl | rfl
  · have : a.name ∈ rBounds := (show ∀ w ∈ rTables, w ∈ rBounds by decide +kernel) _ h2.2
    simp [ends, isOne, h2.1, this]
  · have : a.name ∉ rSelects := (show ∀ w ∈ rTables, w ∉ rSelects by decide +kernel) _ h2.2
    simp [ends, isOne, this]

def nestsOk (x : Int → Bool) : Bool := (!x 2 && !x 3 || x 1) && (!x 1 && !x 5 || x 4)
theorem nests_ok {q : Item → Bool} {l : List Item} : nestsOk (fun n => inSc q (ends n) l) = true := by
  have h2 := inSc_mono (q := q) (l := l) (fun a => ends_sub1 a 2 (.inl rfl))
  have h3 := inSc_mono (q := q) (l := l) (fun a => ends_sub1 a 3 (.inr rfl))
  have h1 := inSc_mono (q := q) (l := l) (fun a => ends_sub4 a 1 (.inl rfl))
  have h5 := inSc_mono (q := q) (l := l) (fun a => ends_sub4 a 5 (.inr rfl))
  unfold nestsOk
  simp only
  cases e1 : inSc q (ends 1) l <;> cases e2 : inSc q (ends 2) l <;> cases e3 : inSc q (ends 3) l <;> cases e4 : inSc q (ends 4) l <;> cases e5 : inSc q (ends 5) l <;> simp_all

abbrev bools (b1 b2 b3 b4 b5 : Bool) : List AVal := [.bool false, .bool b1, .bool b2, .bool b3, .bool b4, .bool b5]
theorem aa1 {id : Nat} : peval (.aaddr 6 1) [.ptr (some (id, 0)), I 1] = some (.ptr (some (id, 1))) := rfl
theorem aa2 {id : Nat} : peval (.aaddr 6 1) [.ptr (some (id, 0)), I 2] = some (.ptr (some (id, 2))) := rfl
theorem aa3 {id : Nat} : peval (.aaddr 6 1) [.ptr (some (id, 0)), I 3] = some (.ptr (some (id, 3))) := rfl
theorem aa4 {id : Nat} : peval (.aaddr 6 1) [.ptr (some (id, 0)), I 4] = some (.ptr (some (id, 4))) := rfl
theorem aa5 {id : Nat} : peval (.aaddr 6 1) [.ptr (some (id, 0)), I 5] = some (.ptr (some (id, 5))) := rfl
theorem hload_last {h : AHeap} {cs : List AVal} {n : Option Nat} {o : Nat} : hload (h ++ [.cells cs]) n (.ptr (some (h.length, o))) = partOf cs o n := by simp [hload]
theorem f38 (x : Int → Bool) (h : AHeap) : Ret cx 38 [.agg (bools (x 1) (x 2) (x 3) (x 4) (x 5))] h (.bool (nestsOk x)) (h ++ [.cells (bools (x 1) (x 2) (x 3) (x 4) (x 5))]) := by
  rw [ret_iff, t38_eq, t38]
  simp only [opW_some, opW_none, cndW_true, cndW_false, cndW_dec, W_ret_iff, W_fail_iff, W_op_iff, W_cells_iff, W_cnd_iff, W_load_iff, W_store_iff, W_alloc_iff, W_frz_iff, W_frzAt_iff, W_objOf_iff, W_bytesObj_iff, W_mnew_iff, W_mset_iff, W_mget_iff, W_callv_iff, W_join_iff, pe_eql, pe_neq, pe_lss, pe_leq, pe_gtr, pe_geq, pe_not, pe_seql, pe_sneq, pe_slen, pe_part_none, pe_part_some, pe_ext, pe_nonnil_ptr, pe_nonnil_rptr, pe_nonnil_func, pe_faddr_rptr, pe_faddr_ptr, pe_peq_nn, pe_peq_sn, pe_peq_ns, pe_beq, pe_mkagg, hload_rptr, partOf_none, partOf_some, fillAt, List.getD_cons_zero, List.getD_cons_succ, List.getElem?_cons_zero, List.getElem?_cons_succ, List.drop_zero, List.drop_succ_cons, List.drop_nil, List.take_zero, List.take_succ_cons, List.length_cons, List.length_nil, List.cons_append, List.nil_append, List.zip_cons_cons, List.zip_nil_right, Option.map_some, Option.map_none, Nat.reduceAdd, Nat.reduceLeDiff, Nat.reduceEqDiff, Nat.zero_add, cells_agg, cells_int, cells_str, cells_bool, cells_ptr, cells_rptr, cells_slnil, cells_sl, cells_msl, cells_func, targetOf, and_self, and_true, true_and, if_true, if_false, ↓reduceIte, reduceCtorEq, LoopPost_exit, LoopPost_ret, nestsOk, aa1, aa2, aa3, aa4, aa5, hload_last]
  cases x 1 <;> cases x 2 <;> cases x 3 <;> cases x 4 <;> cases x 5 <;> simp

theorem ev_nests {v : AVal} {l : List Item} (hv : IsItems l v) (s : Bytes) (node : Int) : Ev cx 5 [v, .str s, .int .i64 node] [] fun r _ => r = .bool true := by
  unfold Ev
  rw [t5_eq, t5]
  simp only [opW_some, opW_none, cndW_true, cndW_false, cndW_dec, W_ret_iff, W_fail_iff, W_op_iff, W_cells_iff, W_cnd_iff, W_load_iff, W_store_iff, W_alloc_iff, W_frz_iff, W_frzAt_iff, W_objOf_iff, W_bytesObj_iff, W_mnew_iff, W_mset_iff, W_mget_iff, W_callv_iff, W_join_iff, pe_eql, pe_neq, pe_lss, pe_leq, pe_gtr, pe_geq, pe_not, pe_seql, pe_sneq, pe_slen, pe_part_none, pe_part_some, pe_ext, pe_nonnil_ptr, pe_nonnil_rptr, pe_nonnil_func, pe_faddr_rptr, pe_faddr_ptr, pe_peq_nn, pe_peq_sn, pe_peq_ns, pe_beq, pe_mkagg, hload_rptr, partOf_none, partOf_some, fillAt, List.getD_cons_zero, List.getD_cons_succ, List.getElem?_cons_zero, List.getElem?_cons_succ, List.drop_zero, List.drop_succ_cons, List.drop_nil, List.take_zero, List.take_succ_cons, List.length_cons, List.length_nil, List.cons_append, List.nil_append, List.zip_cons_cons, List.zip_nil_right, Option.map_some, Option.map_none, Nat.reduceAdd, Nat.reduceLeDiff, Nat.reduceEqDiff, Nat.zero_add, cells_agg, cells_int, cells_str, cells_bool, cells_ptr, cells_rptr, cells_slnil, cells_sl, cells_msl, cells_func, targetOf, and_self, and_true, true_and, if_true, if_false, ↓reduceIte, reduceCtorEq, LoopPost_exit, LoopPost_ret, (f21' hv []).call, known_iff]
  rw [cndW_iff]
  refine ⟨fun _ => ⟨_, rfl, rfl⟩, fun h1 => ⟨fun _ => ⟨_, rfl, rfl⟩, fun h2 => ?_⟩⟩
  have h1 : itemsOk l := by simpa using h1
  refine W_call (Ev.mono (f24 hv h1.few) ?_)
  rintro _ _ ⟨u, rfl, rfl, hu⟩
  have hs : ∀ t, SAt (AObj.cells [u] :: t) (.ptr (some (0, 0))) l := fun t => SObj.at ⟨u, rfl, hu⟩
  have e25 := fun t n => f25 (hs t) h1.few n (ws := [s]) isStrs_of (show [s].length ≤ 100000 by simp)
  have e27 := fun t n => f27 (hs t) h1.few n node
  have m1 := mk_strs (ws := [s]) (args := [.str s]) rfl (by simp)
  have f38i := fun h => f38 (fun n => inSc (isOne [s]) (ends n) l.reverse) h
  have f38n := fun h => f38 (fun n => inSc (isNode node) (ends n) l.reverse) h
  simp only [nests_ok] at f38i f38n
  have li : inSc (isOne [s]) (ends 4) l.reverse = true → 0 ≤ lastIdx (isOne [s]) l := inSc_last
  have ln : inSc (isNode node) (ends 4) l.reverse = true → 0 ≤ lastIdx (isNode node) l := inSc_last
  have e39 := fun t => f39 (hs t) h1.few s
  have e40 := fun t => f40 (hs t) h1.few node
  have d1 : (1 : Int) ≤ 5 := by decide
  have d2 : (2 : Int) ≤ 5 := by decide
  have d3 : (3 : Int) ≤ 5 := by decide
  have d4 : (4 : Int) ≤ 5 := by decide
  have d5 : (5 : Int) ≤ 5 := by decide
  have d6 : ¬ (6 : Int) ≤ 5 := by decide
  have step : ∀ n : Int, 0 ≤ n → n ≤ 10 → peval (.int .add) [.int .i64 n, .int .i64 1] = some (.int .i64 (n + 1)) := fun n h1 h2 => pe_addI (by omega) (by omega)
  have s1 : peval (.int .add) [.int .i64 1, .int .i64 1] = some (.int .i64 2) := step 1 (by omega) (by omega)
  have s2 : peval (.int .add) [.int .i64 2, .int .i64 1] = some (.int .i64 3) := step 2 (by omega) (by omega)
  have s3 : peval (.int .add) [.int .i64 3, .int .i64 1] = some (.int .i64 4) := step 3 (by omega) (by omega)
  have s4 : peval (.int .add) [.int .i64 4, .int .i64 1] = some (.int .i64 5) := step 4 (by omega) (by omega)
  have s5 : peval (.int .add) [.int .i64 5, .int .i64 1] = some (.int .i64 6) := step 5 (by omega) (by omega)
  simp only [opW_some, opW_none, cndW_true, cndW_false, cndW_dec, W_ret_iff, W_fail_iff, W_op_iff, W_cells_iff, W_cnd_iff, W_load_iff, W_store_iff, W_alloc_iff, W_frz_iff, W_frzAt_iff, W_objOf_iff, W_bytesObj_iff, W_mnew_iff, W_mset_iff, W_mget_iff, W_callv_iff, W_join_iff, pe_eql, pe_neq, pe_lss, pe_leq, pe_gtr, pe_geq, pe_not, pe_seql, pe_sneq, pe_slen, pe_part_none, pe_part_some, pe_ext, pe_nonnil_ptr, pe_nonnil_rptr, pe_nonnil_func, pe_faddr_rptr, pe_faddr_ptr, pe_peq_nn, pe_peq_sn, pe_peq_ns, pe_beq, pe_mkagg, hload_rptr, partOf_none, partOf_some, fillAt, List.getD_cons_zero, List.getD_cons_succ, List.getElem?_cons_zero, List.getElem?_cons_succ, List.drop_zero, List.drop_succ_cons, List.drop_nil, List.take_zero, List.take_succ_cons, List.length_cons, List.length_nil, List.cons_append, List.nil_append, List.zip_cons_cons, List.zip_nil_right, Option.map_some, Option.map_none, Nat.reduceAdd, Nat.reduceLeDiff, Nat.reduceEqDiff, Nat.zero_add, cells_agg, cells_int, cells_str, cells_bool, cells_ptr, cells_rptr, cells_slnil, cells_sl, cells_msl, cells_func, targetOf, and_self, and_true, true_and, if_true, if_false, ↓reduceIte, reduceCtorEq, LoopPost_exit, LoopPost_ret, Item.len_row, Item.g0, Item.g1, Item.g2, Item.g3, Item.at0, Item.take_row, Item.drop1, Item.drop2, Item.drop3, Item.fold, Nat.zero_lt_one, List.append_nil, List.length_singleton]
  refine W_unroll ?_
  simp only [opW_some, opW_none, cndW_true, cndW_false, cndW_dec, W_ret_iff, W_fail_iff, W_op_iff, W_cells_iff, W_cnd_iff, W_load_iff, W_store_iff, W_alloc_iff, W_frz_iff, W_frzAt_iff, W_objOf_iff, W_bytesObj_iff, W_mnew_iff, W_mset_iff, W_mget_iff, W_callv_iff, W_join_iff, pe_eql, pe_neq, pe_lss, pe_leq, pe_gtr, pe_geq, pe_not, pe_seql, pe_sneq, pe_slen, pe_part_none, pe_part_some, pe_ext, pe_nonnil_ptr, pe_nonnil_rptr, pe_nonnil_func, pe_faddr_rptr, pe_faddr_ptr, pe_peq_nn, pe_peq_sn, pe_peq_ns, pe_beq, pe_mkagg, hload_rptr, partOf_none, partOf_some, fillAt, List.getD_cons_zero, List.getD_cons_succ, List.getElem?_cons_zero, List.getElem?_cons_succ, List.drop_zero, List.drop_succ_cons, List.drop_nil, List.take_zero, List.take_succ_cons, List.length_cons, List.length_nil, List.cons_append, List.nil_append, List.zip_cons_cons, List.zip_nil_right, Option.map_some, Option.map_none, Nat.reduceAdd, Nat.reduceLeDiff, Nat.reduceEqDiff, Nat.zero_add, cells_agg, cells_int, cells_str, cells_bool, cells_ptr, cells_rptr, cells_slnil, cells_sl, cells_msl, cells_func, targetOf, and_self, and_true, true_and, if_true, if_false, ↓reduceIte, reduceCtorEq, LoopPost_exit, LoopPost_ret, Item.len_row, Item.g0, Item.g1, Item.g2, Item.g3, Item.at0, Item.take_row, Item.drop1, Item.drop2, Item.drop3, Item.fold, Nat.zero_lt_one, List.append_nil, StepPost_normal, not_true_eq_false, true_implies, false_implies, d1, m1, (e25 _ _).call, (e27 _ _).call, aa1, s1, hstore, List.set_cons_zero, List.set_cons_succ]
  refine W_unroll ?_
  simp only [opW_some, opW_none, cndW_true, cndW_false, cndW_dec, W_ret_iff, W_fail_iff, W_op_iff, W_cells_iff, W_cnd_iff, W_load_iff, W_store_iff, W_alloc_iff, W_frz_iff, W_frzAt_iff, W_objOf_iff, W_bytesObj_iff, W_mnew_iff, W_mset_iff, W_mget_iff, W_callv_iff, W_join_iff, pe_eql, pe_neq, pe_lss, pe_leq, pe_gtr, pe_geq, pe_not, pe_seql, pe_sneq, pe_slen, pe_part_none, pe_part_some, pe_ext, pe_nonnil_ptr, pe_nonnil_rptr, pe_nonnil_func, pe_faddr_rptr, pe_faddr_ptr, pe_peq_nn, pe_peq_sn, pe_peq_ns, pe_beq, pe_mkagg, hload_rptr, partOf_none, partOf_some, fillAt, List.getD_cons_zero, List.getD_cons_succ, List.getElem?_cons_zero, List.getElem?_cons_succ, List.drop_zero, List.drop_succ_cons, List.drop_nil, List.take_zero, List.take_succ_cons, List.length_cons, List.length_nil, List.cons_append, List.nil_append, List.zip_cons_cons, List.zip_nil_right, Option.map_some, Option.map_none, Nat.reduceAdd, Nat.reduceLeDiff, Nat.reduceEqDiff, Nat.zero_add, cells_agg, cells_int, cells_str, cells_bool, cells_ptr, cells_rptr, cells_slnil, cells_sl, cells_msl, cells_func, targetOf, and_self, and_true, true_and, if_true, if_false, ↓reduceIte, reduceCtorEq, LoopPost_exit, LoopPost_ret, Item.len_row, Item.g0, Item.g1, Item.g2, Item.g3, Item.at0, Item.take_row, Item.drop1, Item.drop2, Item.drop3, Item.fold, Nat.zero_lt_one, List.append_nil, StepPost_normal, not_true_eq_false, true_implies, false_implies, d2, m1, (e25 _ _).call, (e27 _ _).call, aa2, s2, hstore, List.set_cons_zero, List.set_cons_succ]
  refine W_unroll ?_
  simp only [opW_some, opW_none, cndW_true, cndW_false, cndW_dec, W_ret_iff, W_fail_iff, W_op_iff, W_cells_iff, W_cnd_iff, W_load_iff, W_store_iff, W_alloc_iff, W_frz_iff, W_frzAt_iff, W_objOf_iff, W_bytesObj_iff, W_mnew_iff, W_mset_iff, W_mget_iff, W_callv_iff, W_join_iff, pe_eql, pe_neq, pe_lss, pe_leq, pe_gtr, pe_geq, pe_not, pe_seql, pe_sneq, pe_slen, pe_part_none, pe_part_some, pe_ext, pe_nonnil_ptr, pe_nonnil_rptr, pe_nonnil_func, pe_faddr_rptr, pe_faddr_ptr, pe_peq_nn, pe_peq_sn, pe_peq_ns, pe_beq, pe_mkagg, hload_rptr, partOf_none, partOf_some, fillAt, List.getD_cons_zero, List.getD_cons_succ, List.getElem?_cons_zero, List.getElem?_cons_succ, List.drop_zero, List.drop_succ_cons, List.drop_nil, List.take_zero, List.take_succ_cons, List.length_cons, List.length_nil, List.cons_append, List.nil_append, List.zip_cons_cons, List.zip_nil_right, Option.map_some, Option.map_none, Nat.reduceAdd, Nat.reduceLeDiff, Nat.reduceEqDiff, Nat.zero_add, cells_agg, cells_int, cells_str, cells_bool, cells_ptr, cells_rptr, cells_slnil, cells_sl, cells_msl, cells_func, targetOf, and_self, and_true, true_and, if_true, if_false, ↓reduceIte, reduceCtorEq, LoopPost_exit, LoopPost_ret, Item.len_row, Item.g0, Item.g1, Item.g2, Item.g3, Item.at0, Item.take_row, Item.drop1, Item.drop2, Item.drop3, Item.fold, Nat.zero_lt_one, List.append_nil, StepPost_normal, not_true_eq_false, true_implies, false_implies, d3, m1, (e25 _ _).call, (e27 _ _).call, aa3, s3, hstore, List.set_cons_zero, List.set_cons_succ]
  refine W_unroll ?_
  simp only [opW_some, opW_none, cndW_true, cndW_false, cndW_dec, W_ret_iff, W_fail_iff, W_op_iff, W_cells_iff, W_cnd_iff, W_load_iff, W_store_iff, W_alloc_iff, W_frz_iff, W_frzAt_iff, W_objOf_iff, W_bytesObj_iff, W_mnew_iff, W_mset_iff, W_mget_iff, W_callv_iff, W_join_iff, pe_eql, pe_neq, pe_lss, pe_leq, pe_gtr, pe_geq, pe_not, pe_seql, pe_sneq, pe_slen, pe_part_none, pe_part_some, pe_ext, pe_nonnil_ptr, pe_nonnil_rptr, pe_nonnil_func, pe_faddr_rptr, pe_faddr_ptr, pe_peq_nn, pe_peq_sn, pe_peq_ns, pe_beq, pe_mkagg, hload_rptr, partOf_none, partOf_some, fillAt, List.getD_cons_zero, List.getD_cons_succ, List.getElem?_cons_zero, List.getElem?_cons_succ, List.drop_zero, List.drop_succ_cons, List.drop_nil, List.take_zero, List.take_succ_cons, List.length_cons, List.length_nil, List.cons_append, List.nil_append, List.zip_cons_cons, List.zip_nil_right, Option.map_some, Option.map_none, Nat.reduceAdd, Nat.reduceLeDiff, Nat.reduceEqDiff, Nat.zero_add, cells_agg, cells_int, cells_str, cells_bool, cells_ptr, cells_rptr, cells_slnil, cells_sl, cells_msl, cells_func, targetOf, and_self, and_true, true_and, if_true, if_false, ↓reduceIte, reduceCtorEq, LoopPost_exit, LoopPost_ret, Item.len_row, Item.g0, Item.g1, Item.g2, Item.g3, Item.at0, Item.take_row, Item.drop1, Item.drop2, Item.drop3, Item.fold, Nat.zero_lt_one, List.append_nil, StepPost_normal, not_true_eq_false, true_implies, false_implies, d4, m1, (e25 _ _).call, (e27 _ _).call, aa4, s4, hstore, List.set_cons_zero, List.set_cons_succ]
  refine W_unroll ?_
  simp only [opW_some, opW_none, cndW_true, cndW_false, cndW_dec, W_ret_iff, W_fail_iff, W_op_iff, W_cells_iff, W_cnd_iff, W_load_iff, W_store_iff, W_alloc_iff, W_frz_iff, W_frzAt_iff, W_objOf_iff, W_bytesObj_iff, W_mnew_iff, W_mset_iff, W_mget_iff, W_callv_iff, W_join_iff, pe_eql, pe_neq, pe_lss, pe_leq, pe_gtr, pe_geq, pe_not, pe_seql, pe_sneq, pe_slen, pe_part_none, pe_part_some, pe_ext, pe_nonnil_ptr, pe_nonnil_rptr, pe_nonnil_func, pe_faddr_rptr, pe_faddr_ptr, pe_peq_nn, pe_peq_sn, pe_peq_ns, pe_beq, pe_mkagg, hload_rptr, partOf_none, partOf_some, fillAt, List.getD_cons_zero, List.getD_cons_succ, List.getElem?_cons_zero, List.getElem?_cons_succ, List.drop_zero, List.drop_succ_cons, List.drop_nil, List.take_zero, List.take_succ_cons, List.length_cons, List.length_nil, List.cons_append, List.nil_append, List.zip_cons_cons, List.zip_nil_right, Option.map_some, Option.map_none, Nat.reduceAdd, Nat.reduceLeDiff, Nat.reduceEqDiff, Nat.zero_add, cells_agg, cells_int, cells_str, cells_bool, cells_ptr, cells_rptr, cells_slnil, cells_sl, cells_msl, cells_func, targetOf, and_self, and_true, true_and, if_true, if_false, ↓reduceIte, reduceCtorEq, LoopPost_exit, LoopPost_ret, Item.len_row, Item.g0, Item.g1, Item.g2, Item.g3, Item.at0, Item.take_row, Item.drop1, Item.drop2, Item.drop3, Item.fold, Nat.zero_lt_one, List.append_nil, StepPost_normal, not_true_eq_false, true_implies, false_implies, d5, m1, (e25 _ _).call, (e27 _ _).call, aa5, s5, hstore, List.set_cons_zero, List.set_cons_succ]
  refine W_unroll ?_
  simp only [opW_some, opW_none, cndW_true, cndW_false, cndW_dec, W_ret_iff, W_fail_iff, W_op_iff, W_cells_iff, W_cnd_iff, W_load_iff, W_store_iff, W_alloc_iff, W_frz_iff, W_frzAt_iff, W_objOf_iff, W_bytesObj_iff, W_mnew_iff, W_mset_iff, W_mget_iff, W_callv_iff, W_join_iff, pe_eql, pe_neq, pe_lss, pe_leq, pe_gtr, pe_geq, pe_not, pe_seql, pe_sneq, pe_slen, pe_part_none, pe_part_some, pe_ext, pe_nonnil_ptr, pe_nonnil_rptr, pe_nonnil_func, pe_faddr_rptr, pe_faddr_ptr, pe_peq_nn, pe_peq_sn, pe_peq_ns, pe_beq, pe_mkagg, hload_rptr, partOf_none, partOf_some, fillAt, List.getD_cons_zero, List.getD_cons_succ, List.getElem?_cons_zero, List.getElem?_cons_succ, List.drop_zero, List.drop_succ_cons, List.drop_nil, List.take_zero, List.take_succ_cons, List.length_cons, List.length_nil, List.cons_append, List.nil_append, List.zip_cons_cons, List.zip_nil_right, Option.map_some, Option.map_none, Nat.reduceAdd, Nat.reduceLeDiff, Nat.reduceEqDiff, Nat.zero_add, cells_agg, cells_int, cells_str, cells_bool, cells_ptr, cells_rptr, cells_slnil, cells_sl, cells_msl, cells_func, targetOf, and_self, and_true, true_and, if_true, if_false, ↓reduceIte, reduceCtorEq, LoopPost_exit, LoopPost_ret, Item.len_row, Item.g0, Item.g1, Item.g2, Item.g3, Item.at0, Item.take_row, Item.drop1, Item.drop2, Item.drop3, Item.fold, Nat.zero_lt_one, List.append_nil, StepPost_exit, not_false_eq_true, true_implies, false_implies, d6, m1, hload, aa4, (f38i _).call, (f38n _).call]
  cases hb1 : inSc (isOne [s]) (ends 4) l.reverse <;> cases hb2 : inSc (isNode node) (ends 4) l.reverse
  · simp only [opW_some, opW_none, cndW_true, cndW_false, cndW_dec, W_ret_iff, W_fail_iff, W_op_iff, W_cells_iff, W_cnd_iff, W_load_iff, W_store_iff, W_alloc_iff, W_frz_iff, W_frzAt_iff, W_objOf_iff, W_bytesObj_iff, W_mnew_iff, W_mset_iff, W_mget_iff, W_callv_iff, W_join_iff, pe_eql, pe_neq, pe_lss, pe_leq, pe_gtr, pe_geq, pe_not, pe_seql, pe_sneq, pe_slen, pe_part_none, pe_part_some, pe_ext, pe_nonnil_ptr, pe_nonnil_rptr, pe_nonnil_func, pe_faddr_rptr, pe_faddr_ptr, pe_peq_nn, pe_peq_sn, pe_peq_ns, pe_beq, pe_mkagg, hload_rptr, partOf_none, partOf_some, fillAt, List.getD_cons_zero, List.getD_cons_succ, List.getElem?_cons_zero, List.getElem?_cons_succ, List.drop_zero, List.drop_succ_cons, List.drop_nil, List.take_zero, List.take_succ_cons, List.length_cons, List.length_nil, List.cons_append, List.nil_append, List.zip_cons_cons, List.zip_nil_right, Option.map_some, Option.map_none, Nat.reduceAdd, Nat.reduceLeDiff, Nat.reduceEqDiff, Nat.zero_add, cells_agg, cells_int, cells_str, cells_bool, cells_ptr, cells_rptr, cells_slnil, cells_sl, cells_msl, cells_func, targetOf, and_self, and_true, true_and, if_true, if_false, ↓reduceIte, reduceCtorEq, LoopPost_exit, LoopPost_ret, Item.len_row, Item.g0, Item.g1, Item.g2, Item.g3, Item.at0, Item.take_row, Item.drop1, Item.drop2, Item.drop3, Item.fold, Nat.zero_lt_one, List.append_nil, Bool.not_false, hload, aa4, known_iff]
    exact ⟨_, rfl, rfl⟩
  · simp only [opW_some, opW_none, cndW_true, cndW_false, cndW_dec, W_ret_iff, W_fail_iff, W_op_iff, W_cells_iff, W_cnd_iff, W_load_iff, W_store_iff, W_alloc_iff, W_frz_iff, W_frzAt_iff, W_objOf_iff, W_bytesObj_iff, W_mnew_iff, W_mset_iff, W_mget_iff, W_callv_iff, W_join_iff, pe_eql, pe_neq, pe_lss, pe_leq, pe_gtr, pe_geq, pe_not, pe_seql, pe_sneq, pe_slen, pe_part_none, pe_part_some, pe_ext, pe_nonnil_ptr, pe_nonnil_rptr, pe_nonnil_func, pe_faddr_rptr, pe_faddr_ptr, pe_peq_nn, pe_peq_sn, pe_peq_ns, pe_beq, pe_mkagg, hload_rptr, partOf_none, partOf_some, fillAt, List.getD_cons_zero, List.getD_cons_succ, List.getElem?_cons_zero, List.getElem?_cons_succ, List.drop_zero, List.drop_succ_cons, List.drop_nil, List.take_zero, List.take_succ_cons, List.length_cons, List.length_nil, List.cons_append, List.nil_append, List.zip_cons_cons, List.zip_nil_right, Option.map_some, Option.map_none, Nat.reduceAdd, Nat.reduceLeDiff, Nat.reduceEqDiff, Nat.zero_add, cells_agg, cells_int, cells_str, cells_bool, cells_ptr, cells_rptr, cells_slnil, cells_sl, cells_msl, cells_func, targetOf, and_self, and_true, true_and, if_true, if_false, ↓reduceIte, reduceCtorEq, LoopPost_exit, LoopPost_ret, Item.len_row, Item.g0, Item.g1, Item.g2, Item.g3, Item.at0, Item.take_row, Item.drop1, Item.drop2, Item.drop3, Item.fold, Nat.zero_lt_one, List.append_nil, Bool.not_false, Bool.not_true, hload, aa4, known_iff, (e40 _).call, ln hb2, not_true_eq_false, true_implies, false_implies]
    exact ⟨_, rfl, rfl⟩
  · simp only [opW_some, opW_none, cndW_true, cndW_false, cndW_dec, W_ret_iff, W_fail_iff, W_op_iff, W_cells_iff, W_cnd_iff, W_load_iff, W_store_iff, W_alloc_iff, W_frz_iff, W_frzAt_iff, W_objOf_iff, W_bytesObj_iff, W_mnew_iff, W_mset_iff, W_mget_iff, W_callv_iff, W_join_iff, pe_eql, pe_neq, pe_lss, pe_leq, pe_gtr, pe_geq, pe_not, pe_seql, pe_sneq, pe_slen, pe_part_none, pe_part_some, pe_ext, pe_nonnil_ptr, pe_nonnil_rptr, pe_nonnil_func, pe_faddr_rptr, pe_faddr_ptr, pe_peq_nn, pe_peq_sn, pe_peq_ns, pe_beq, pe_mkagg, hload_rptr, partOf_none, partOf_some, fillAt, List.getD_cons_zero, List.getD_cons_succ, List.getElem?_cons_zero, List.getElem?_cons_succ, List.drop_zero, List.drop_succ_cons, List.drop_nil, List.take_zero, List.take_succ_cons, List.length_cons, List.length_nil, List.cons_append, List.nil_append, List.zip_cons_cons, List.zip_nil_right, Option.map_some, Option.map_none, Nat.reduceAdd, Nat.reduceLeDiff, Nat.reduceEqDiff, Nat.zero_add, cells_agg, cells_int, cells_str, cells_bool, cells_ptr, cells_rptr, cells_slnil, cells_sl, cells_msl, cells_func, targetOf, and_self, and_true, true_and, if_true, if_false, ↓reduceIte, reduceCtorEq, LoopPost_exit, LoopPost_ret, Item.len_row, Item.g0, Item.g1, Item.g2, Item.g3, Item.at0, Item.take_row, Item.drop1, Item.drop2, Item.drop3, Item.fold, Nat.zero_lt_one, List.append_nil, Bool.not_false, Bool.not_true, hload, aa4, known_iff, (e39 _).call, li hb1, not_true_eq_false, true_implies, false_implies]
    exact ⟨_, rfl, rfl⟩
  · simp only [opW_some, opW_none, cndW_true, cndW_false, cndW_dec, W_ret_iff, W_fail_iff, W_op_iff, W_cells_iff, W_cnd_iff, W_load_iff, W_store_iff, W_alloc_iff, W_frz_iff, W_frzAt_iff, W_objOf_iff, W_bytesObj_iff, W_mnew_iff, W_mset_iff, W_mget_iff, W_callv_iff, W_join_iff, pe_eql, pe_neq, pe_lss, pe_leq, pe_gtr, pe_geq, pe_not, pe_seql, pe_sneq, pe_slen, pe_part_none, pe_part_some, pe_ext, pe_nonnil_ptr, pe_nonnil_rptr, pe_nonnil_func, pe_faddr_rptr, pe_faddr_ptr, pe_peq_nn, pe_peq_sn, pe_peq_ns, pe_beq, pe_mkagg, hload_rptr, partOf_none, partOf_some, fillAt, List.getD_cons_zero, List.getD_cons_succ, List.getElem?_cons_zero, List.getElem?_cons_succ, List.drop_zero, List.drop_succ_cons, List.drop_nil, List.take_zero, List.take_succ_cons, List.length_cons, List.length_nil, List.cons_append, List.nil_append, List.zip_cons_cons, List.zip_nil_right, Option.map_some, Option.map_none, Nat.reduceAdd, Nat.reduceLeDiff, Nat.reduceEqDiff, Nat.zero_add, cells_agg, cells_int, cells_str, cells_bool, cells_ptr, cells_rptr, cells_slnil, cells_sl, cells_msl, cells_func, targetOf, and_self, and_true, true_and, if_true, if_false, ↓reduceIte, reduceCtorEq, LoopPost_exit, LoopPost_ret, Item.len_row, Item.g0, Item.g1, Item.g2, Item.g3, Item.at0, Item.take_row, Item.drop1, Item.drop2, Item.drop3, Item.fold, Nat.zero_lt_one, List.append_nil, Bool.not_false, Bool.not_true, hload, aa4, known_iff, (e39 _).call, (e40 _).call, li hb1, ln hb2, not_true_eq_false, true_implies, false_implies]
    exact ⟨_, rfl, rfl⟩
theorem all_nests : ∀ l, HasArgs [.sl tItem, .str, .int .i64] l → Ev cx 5 l [] fun r _ => r = .bool true := by
  rintro _ ⟨a, _, rfl, ha, b, _, rfl, hb, c, _, rfl, hc, rfl⟩
  obtain ⟨l, hv⟩ := has_items ha
  obtain ⟨s, rfl⟩ := hasV_str hb
  obtain ⟨m, rfl⟩ := hasV_int hc
  exact ev_nests hv _ _
end Go.Am
