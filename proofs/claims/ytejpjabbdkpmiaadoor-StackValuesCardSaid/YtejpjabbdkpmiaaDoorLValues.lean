/-
  StackValues as the abstract machine runs it: it returns true. No law is claimed here.
-/
import Derived.Test.YtejpjabbdkpmiaaDoorLAdjusts
namespace Go.Am
open Go
set_option maxRecDepth 100000
set_option linter.unusedSimpArgs false
set_option linter.unusedVariables false

theorem adjAttr_value (sp : Int) (a : Attr) : (adjAttr sp a).value = a.value := by
  unfold adjAttr
  split
  · split <;> rfl
  · rfl
theorem adjAttr_other {sp : Int} (h3 : ¬ sp = 3) (h2 : ¬ sp = 2) (a : Attr) : adjAttr sp a = ⟨0, a.name, a.value⟩ := by
  unfold adjAttr
  rw [if_neg (by rintro (h | h) <;> contradiction)]
theorem svg_nolow : ∀ w ∈ rSvgNames, ∀ s ∈ rSvgNames, lower w ≠ s := by decide +kernel
theorem adjusted_twice (n : Bytes) : adjustedIn (adjustedIn n rSvgNames) rSvgNames = adjustedIn n rSvgNames := by
  rcases adjustedIn_spec n rSvgNames with h | ⟨h1, _⟩
  · rw [h, h]
  · rcases adjustedIn_spec (adjustedIn n rSvgNames) rSvgNames with h | ⟨h2, h3⟩
    · exact h
    · exact absurd h3 (svg_nolow _ h2 _ h1)
theorem adjusted_byte (n : Bytes) (ws : List Bytes) {i : Nat} (h1 : i < (adjustedIn n ws).length) (h2 : i < n.length) (hne : (adjustedIn n ws)[i] ≠ n[i]) :
    65 ≤ (adjustedIn n ws)[i].toNat ∧ (adjustedIn n ws)[i].toNat ≤ 90 ∧ n[i].toNat = (adjustedIn n ws)[i].toNat + 32 := by
  rcases adjustedIn_spec n ws with h | ⟨_, h⟩
  · exact absurd (by simp only [h]) hne
  · have e : n[i] = (lower (adjustedIn n ws))[i]'(by rw [h]; exact h2) := by simp only [h]
    rw [e] at hne ⊢
    unfold lower at hne ⊢
    rw [List.getElem_map] at hne ⊢
    unfold lowerByte at hne ⊢
    by_cases hc : 65 ≤ (adjustedIn n ws)[i].toNat ∧ (adjustedIn n ws)[i].toNat ≤ 90
    · rw [if_pos hc]
      refine ⟨hc.1, hc.2, ?_⟩
      rw [UInt8.toNat_add]
      have : (32 : UInt8).toNat = 32 := rfl
      omega
    · rw [if_neg hc] at hne
      exact absurd rfl hne

theorem ev_values {v : AVal} {l : List Attr} (hv : IsAttrs l v) (sp : Int) (s : Bytes) : Ev cx 17 [.int .i64 sp, v, .str s] [] fun r _ => r = .bool true := by
  have hv' : IsSl 3 (l.map Attr.row) v := hv
  unfold Ev
  rw [t17_eq, t17]
  simp only [opW_some, opW_none, cndW_true, cndW_false, cndW_dec, W_ret_iff, W_fail_iff, W_op_iff, W_cells_iff, W_cnd_iff, W_load_iff, W_store_iff, W_alloc_iff, W_frz_iff, W_frzAt_iff, W_grow_iff, W_appendM_iff, W_objOf_iff, W_bytesObj_iff, W_mnew_iff, W_mset_iff, W_mget_iff, W_callv_iff, W_join_iff, pe_eql, pe_neq, pe_lss, pe_leq, pe_gtr, pe_geq, pe_not, pe_seql, pe_sneq, pe_slen, pe_part_none, pe_part_some, pe_ext, pe_nonnil_ptr, pe_nonnil_rptr, pe_nonnil_func, pe_faddr_rptr, pe_faddr_ptr, pe_peq_nn, pe_peq_sn, pe_peq_ns, pe_beq, pe_mkagg, hload_rptr, partOf_none, partOf_some, fillAt, List.getD_cons_zero, List.getD_cons_succ, List.getElem?_cons_zero, List.getElem?_cons_succ, List.drop_zero, List.drop_succ_cons, List.drop_nil, List.take_zero, List.take_succ_cons, List.length_cons, List.length_nil, List.cons_append, List.nil_append, List.zip_cons_cons, List.zip_nil_right, Option.map_some, Option.map_none, Nat.reduceAdd, Nat.reduceLeDiff, Nat.reduceEqDiff, Nat.zero_add, cells_agg, cells_int, cells_str, cells_bool, cells_ptr, cells_rptr, cells_slnil, cells_sl, cells_msl, cells_func, targetOf, and_self, and_true, true_and, if_true, if_false, ↓reduceIte, reduceCtorEq, LoopPost_exit, LoopPost_ret, (f41' hv []).call, known_iff]
  rw [cndW_iff]
  refine ⟨fun _ => ⟨_, rfl, rfl⟩, fun h0 => ⟨fun _ => ⟨_, rfl, rfl⟩, fun h1 => ?_⟩⟩
  have h0 : attrsOk l := by simpa using h0
  have hb : l.length ≤ 1000 := by have := h0.1; omega
  obtain ⟨u, r1, hu⟩ := f85 (h := []) hv hb sp
  have hu' : IsSl 3 ((l.map (adjAttr sp)).map Attr.row) u := hu
  have hlen : (l.map (adjAttr sp)).length = l.length := List.length_map ..
  simp only [opW_some, opW_none, cndW_true, cndW_false, cndW_dec, W_ret_iff, W_fail_iff, W_op_iff, W_cells_iff, W_cnd_iff, W_load_iff, W_store_iff, W_alloc_iff, W_frz_iff, W_frzAt_iff, W_grow_iff, W_appendM_iff, W_objOf_iff, W_bytesObj_iff, W_mnew_iff, W_mset_iff, W_mget_iff, W_callv_iff, W_join_iff, pe_eql, pe_neq, pe_lss, pe_leq, pe_gtr, pe_geq, pe_not, pe_seql, pe_sneq, pe_slen, pe_part_none, pe_part_some, pe_ext, pe_nonnil_ptr, pe_nonnil_rptr, pe_nonnil_func, pe_faddr_rptr, pe_faddr_ptr, pe_peq_nn, pe_peq_sn, pe_peq_ns, pe_beq, pe_mkagg, hload_rptr, partOf_none, partOf_some, fillAt, List.getD_cons_zero, List.getD_cons_succ, List.getElem?_cons_zero, List.getElem?_cons_succ, List.drop_zero, List.drop_succ_cons, List.drop_nil, List.take_zero, List.take_succ_cons, List.length_cons, List.length_nil, List.cons_append, List.nil_append, List.zip_cons_cons, List.zip_nil_right, Option.map_some, Option.map_none, Nat.reduceAdd, Nat.reduceLeDiff, Nat.reduceEqDiff, Nat.zero_add, cells_agg, cells_int, cells_str, cells_bool, cells_ptr, cells_rptr, cells_slnil, cells_sl, cells_msl, cells_func, targetOf, and_self, and_true, true_and, if_true, if_false, ↓reduceIte, reduceCtorEq, LoopPost_exit, LoopPost_ret, r1.call, hu'.lenM, hv'.lenM, hlen, ne_eq, not_true_eq_false, not_false_eq_true, true_implies, false_implies]
  refine W_loop_st (fun n : Nat => [.bool false, .int .i64 (n : Int)]) (fun n h1 => n ≤ l.length) (fun n => l.length - n) 0 rfl (Nat.zero_le _) ?_
  rintro n h1 hn
  rcases Nat.lt_or_ge n l.length with hlt | hge
  · have i1 : (n : Int) < (l.length : Int) := by omega
    have hlt2 : n < (l.map (adjAttr sp)).length := by rw [hlen]; exact hlt
    have inc := pe_inc (show n < 9223372036854775807 by omega)
    by_cases s3 : sp = 3
    · simp only [opW_some, opW_none, cndW_true, cndW_false, cndW_dec, W_ret_iff, W_fail_iff, W_op_iff, W_cells_iff, W_cnd_iff, W_load_iff, W_store_iff, W_alloc_iff, W_frz_iff, W_frzAt_iff, W_grow_iff, W_appendM_iff, W_objOf_iff, W_bytesObj_iff, W_mnew_iff, W_mset_iff, W_mget_iff, W_callv_iff, W_join_iff, pe_eql, pe_neq, pe_lss, pe_leq, pe_gtr, pe_geq, pe_not, pe_seql, pe_sneq, pe_slen, pe_part_none, pe_part_some, pe_ext, pe_nonnil_ptr, pe_nonnil_rptr, pe_nonnil_func, pe_faddr_rptr, pe_faddr_ptr, pe_peq_nn, pe_peq_sn, pe_peq_ns, pe_beq, pe_mkagg, hload_rptr, partOf_none, partOf_some, fillAt, List.getD_cons_zero, List.getD_cons_succ, List.getElem?_cons_zero, List.getElem?_cons_succ, List.drop_zero, List.drop_succ_cons, List.drop_nil, List.take_zero, List.take_succ_cons, List.length_cons, List.length_nil, List.cons_append, List.nil_append, List.zip_cons_cons, List.zip_nil_right, Option.map_some, Option.map_none, Nat.reduceAdd, Nat.reduceLeDiff, Nat.reduceEqDiff, Nat.zero_add, cells_agg, cells_int, cells_str, cells_bool, cells_ptr, cells_rptr, cells_slnil, cells_sl, cells_msl, cells_func, targetOf, and_self, and_true, true_and, if_true, if_false, ↓reduceIte, reduceCtorEq, LoopPost_exit, LoopPost_ret, hv'.lenM, i1, hv'.eaddrM hlt, hu'.eaddrM hlt2, List.getElem_map, Attr.row, adjAttr_value, s3, ne_eq, not_true_eq_false, not_false_eq_true, true_implies, false_implies, inc]
      exact LoopPost.next (n + 1) rfl hlt (by omega)
    by_cases s2 : sp = 2
    · simp only [opW_some, opW_none, cndW_true, cndW_false, cndW_dec, W_ret_iff, W_fail_iff, W_op_iff, W_cells_iff, W_cnd_iff, W_load_iff, W_store_iff, W_alloc_iff, W_frz_iff, W_frzAt_iff, W_grow_iff, W_appendM_iff, W_objOf_iff, W_bytesObj_iff, W_mnew_iff, W_mset_iff, W_mget_iff, W_callv_iff, W_join_iff, pe_eql, pe_neq, pe_lss, pe_leq, pe_gtr, pe_geq, pe_not, pe_seql, pe_sneq, pe_slen, pe_part_none, pe_part_some, pe_ext, pe_nonnil_ptr, pe_nonnil_rptr, pe_nonnil_func, pe_faddr_rptr, pe_faddr_ptr, pe_peq_nn, pe_peq_sn, pe_peq_ns, pe_beq, pe_mkagg, hload_rptr, partOf_none, partOf_some, fillAt, List.getD_cons_zero, List.getD_cons_succ, List.getElem?_cons_zero, List.getElem?_cons_succ, List.drop_zero, List.drop_succ_cons, List.drop_nil, List.take_zero, List.take_succ_cons, List.length_cons, List.length_nil, List.cons_append, List.nil_append, List.zip_cons_cons, List.zip_nil_right, Option.map_some, Option.map_none, Nat.reduceAdd, Nat.reduceLeDiff, Nat.reduceEqDiff, Nat.zero_add, cells_agg, cells_int, cells_str, cells_bool, cells_ptr, cells_rptr, cells_slnil, cells_sl, cells_msl, cells_func, targetOf, and_self, and_true, true_and, if_true, if_false, ↓reduceIte, reduceCtorEq, LoopPost_exit, LoopPost_ret, hv'.lenM, i1, hv'.eaddrM hlt, hu'.eaddrM hlt2, List.getElem_map, Attr.row, adjAttr_value, s2, show ¬ (2 : Int) = 3 by decide, ne_eq, not_true_eq_false, not_false_eq_true, true_implies, false_implies, inc]
      exact LoopPost.next (n + 1) rfl hlt (by omega)
    · simp only [opW_some, opW_none, cndW_true, cndW_false, cndW_dec, W_ret_iff, W_fail_iff, W_op_iff, W_cells_iff, W_cnd_iff, W_load_iff, W_store_iff, W_alloc_iff, W_frz_iff, W_frzAt_iff, W_grow_iff, W_appendM_iff, W_objOf_iff, W_bytesObj_iff, W_mnew_iff, W_mset_iff, W_mget_iff, W_callv_iff, W_join_iff, pe_eql, pe_neq, pe_lss, pe_leq, pe_gtr, pe_geq, pe_not, pe_seql, pe_sneq, pe_slen, pe_part_none, pe_part_some, pe_ext, pe_nonnil_ptr, pe_nonnil_rptr, pe_nonnil_func, pe_faddr_rptr, pe_faddr_ptr, pe_peq_nn, pe_peq_sn, pe_peq_ns, pe_beq, pe_mkagg, hload_rptr, partOf_none, partOf_some, fillAt, List.getD_cons_zero, List.getD_cons_succ, List.getElem?_cons_zero, List.getElem?_cons_succ, List.drop_zero, List.drop_succ_cons, List.drop_nil, List.take_zero, List.take_succ_cons, List.length_cons, List.length_nil, List.cons_append, List.nil_append, List.zip_cons_cons, List.zip_nil_right, Option.map_some, Option.map_none, Nat.reduceAdd, Nat.reduceLeDiff, Nat.reduceEqDiff, Nat.zero_add, cells_agg, cells_int, cells_str, cells_bool, cells_ptr, cells_rptr, cells_slnil, cells_sl, cells_msl, cells_func, targetOf, and_self, and_true, true_and, if_true, if_false, ↓reduceIte, reduceCtorEq, LoopPost_exit, LoopPost_ret, hv'.lenM, i1, hv'.eaddrM hlt, hu'.eaddrM hlt2, List.getElem_map, Attr.row, adjAttr_other s3 s2, s3, s2, ne_eq, not_true_eq_false, not_false_eq_true, true_implies, false_implies, inc]
      exact LoopPost.next (n + 1) rfl hlt (by omega)
  · have i1 : ¬ (n : Int) < (l.length : Int) := by omega
    have tw := adjusted_twice s
    have al := adjustedIn_length s rSvgNames
    have ab := @adjusted_byte s rSvgNames
    have p2 := fun {Q : Post} {h : AHeap} {k : AVal → IT} => (f64 (adjustedIn s rSvgNames)).pcall (Q := Q) (h := h) (k := k) rfl rfl
    rw [tw] at p2
    simp only [opW_some, opW_none, cndW_true, cndW_false, cndW_dec, W_ret_iff, W_fail_iff, W_op_iff, W_cells_iff, W_cnd_iff, W_load_iff, W_store_iff, W_alloc_iff, W_frz_iff, W_frzAt_iff, W_grow_iff, W_appendM_iff, W_objOf_iff, W_bytesObj_iff, W_mnew_iff, W_mset_iff, W_mget_iff, W_callv_iff, W_join_iff, pe_eql, pe_neq, pe_lss, pe_leq, pe_gtr, pe_geq, pe_not, pe_seql, pe_sneq, pe_slen, pe_part_none, pe_part_some, pe_ext, pe_nonnil_ptr, pe_nonnil_rptr, pe_nonnil_func, pe_faddr_rptr, pe_faddr_ptr, pe_peq_nn, pe_peq_sn, pe_peq_ns, pe_beq, pe_mkagg, hload_rptr, partOf_none, partOf_some, fillAt, List.getD_cons_zero, List.getD_cons_succ, List.getElem?_cons_zero, List.getElem?_cons_succ, List.drop_zero, List.drop_succ_cons, List.drop_nil, List.take_zero, List.take_succ_cons, List.length_cons, List.length_nil, List.cons_append, List.nil_append, List.zip_cons_cons, List.zip_nil_right, Option.map_some, Option.map_none, Nat.reduceAdd, Nat.reduceLeDiff, Nat.reduceEqDiff, Nat.zero_add, cells_agg, cells_int, cells_str, cells_bool, cells_ptr, cells_rptr, cells_slnil, cells_sl, cells_msl, cells_func, targetOf, and_self, and_true, true_and, if_true, if_false, ↓reduceIte, reduceCtorEq, LoopPost_exit, LoopPost_ret, hv'.lenM, i1, not_false_eq_true, true_implies, false_implies, (f64 s).pcall rfl rfl, al, not_true_eq_false, ne_eq]
    generalize adjustedIn s rSvgNames = t at *
    refine W_loop_st (fun n : Nat => [.bool false, .int .i64 (n : Int)]) (fun n h1 => n ≤ s.length) (fun n => s.length - n) 0 rfl (Nat.zero_le _) ?_
    rintro n h1 hn
    rcases Nat.lt_or_ge n t.length with hlt | hge
    · have i1 : (n : Int) < (s.length : Int) := by omega
      have hls : n < s.length := by omega
      have inc := pe_inc (show n < 9223372036854775807 by omega)
      simp only [opW_some, opW_none, cndW_true, cndW_false, cndW_dec, W_ret_iff, W_fail_iff, W_op_iff, W_cells_iff, W_cnd_iff, W_load_iff, W_store_iff, W_alloc_iff, W_frz_iff, W_frzAt_iff, W_grow_iff, W_appendM_iff, W_objOf_iff, W_bytesObj_iff, W_mnew_iff, W_mset_iff, W_mget_iff, W_callv_iff, W_join_iff, pe_eql, pe_neq, pe_lss, pe_leq, pe_gtr, pe_geq, pe_not, pe_seql, pe_sneq, pe_slen, pe_part_none, pe_part_some, pe_ext, pe_nonnil_ptr, pe_nonnil_rptr, pe_nonnil_func, pe_faddr_rptr, pe_faddr_ptr, pe_peq_nn, pe_peq_sn, pe_peq_ns, pe_beq, pe_mkagg, hload_rptr, partOf_none, partOf_some, fillAt, List.getD_cons_zero, List.getD_cons_succ, List.getElem?_cons_zero, List.getElem?_cons_succ, List.drop_zero, List.drop_succ_cons, List.drop_nil, List.take_zero, List.take_succ_cons, List.length_cons, List.length_nil, List.cons_append, List.nil_append, List.zip_cons_cons, List.zip_nil_right, Option.map_some, Option.map_none, Nat.reduceAdd, Nat.reduceLeDiff, Nat.reduceEqDiff, Nat.zero_add, cells_agg, cells_int, cells_str, cells_bool, cells_ptr, cells_rptr, cells_slnil, cells_sl, cells_msl, cells_func, targetOf, and_self, and_true, true_and, if_true, if_false, ↓reduceIte, reduceCtorEq, LoopPost_exit, LoopPost_ret, al, i1, pe_sidx_nat hlt, pe_sidx_nat hls, not_false_eq_true, not_true_eq_false, true_implies, false_implies, ne_eq, inc]
      refine ⟨fun hne => ?_, fun _ => LoopPost.next (n + 1) rfl hls (by omega)⟩
      have hne' : t[n] ≠ s[n] := fun e => hne (by rw [e])
      obtain ⟨b1, b2, b3⟩ := ab hlt hls hne'
      have w8 : IntKind.u8.wrap ((t[n].toNat : Int) + 32) = (s[n].toNat : Int) := by rw [wrap_u8 (by omega)]; omega
      simp only [opW_some, opW_none, cndW_true, cndW_false, cndW_dec, W_ret_iff, W_fail_iff, W_op_iff, W_cells_iff, W_cnd_iff, W_load_iff, W_store_iff, W_alloc_iff, W_frz_iff, W_frzAt_iff, W_grow_iff, W_appendM_iff, W_objOf_iff, W_bytesObj_iff, W_mnew_iff, W_mset_iff, W_mget_iff, W_callv_iff, W_join_iff, pe_eql, pe_neq, pe_lss, pe_leq, pe_gtr, pe_geq, pe_not, pe_seql, pe_sneq, pe_slen, pe_part_none, pe_part_some, pe_ext, pe_nonnil_ptr, pe_nonnil_rptr, pe_nonnil_func, pe_faddr_rptr, pe_faddr_ptr, pe_peq_nn, pe_peq_sn, pe_peq_ns, pe_beq, pe_mkagg, hload_rptr, partOf_none, partOf_some, fillAt, List.getD_cons_zero, List.getD_cons_succ, List.getElem?_cons_zero, List.getElem?_cons_succ, List.drop_zero, List.drop_succ_cons, List.drop_nil, List.take_zero, List.take_succ_cons, List.length_cons, List.length_nil, List.cons_append, List.nil_append, List.zip_cons_cons, List.zip_nil_right, Option.map_some, Option.map_none, Nat.reduceAdd, Nat.reduceLeDiff, Nat.reduceEqDiff, Nat.zero_add, cells_agg, cells_int, cells_str, cells_bool, cells_ptr, cells_rptr, cells_slnil, cells_sl, cells_msl, cells_func, targetOf, and_self, and_true, true_and, if_true, if_false, ↓reduceIte, reduceCtorEq, LoopPost_exit, LoopPost_ret, show ¬ (t[n].toNat : Int) < 65 by omega, show ¬ (90 : Int) < (t[n].toNat : Int) by omega, pe_add, w8, not_false_eq_true, not_true_eq_false, true_implies, false_implies, ne_eq]
      exact LoopPost.next (n + 1) rfl hls (by omega)
    · have i1 : ¬ (n : Int) < (s.length : Int) := by omega
      simp only [opW_some, opW_none, cndW_true, cndW_false, cndW_dec, W_ret_iff, W_fail_iff, W_op_iff, W_cells_iff, W_cnd_iff, W_load_iff, W_store_iff, W_alloc_iff, W_frz_iff, W_frzAt_iff, W_grow_iff, W_appendM_iff, W_objOf_iff, W_bytesObj_iff, W_mnew_iff, W_mset_iff, W_mget_iff, W_callv_iff, W_join_iff, pe_eql, pe_neq, pe_lss, pe_leq, pe_gtr, pe_geq, pe_not, pe_seql, pe_sneq, pe_slen, pe_part_none, pe_part_some, pe_ext, pe_nonnil_ptr, pe_nonnil_rptr, pe_nonnil_func, pe_faddr_rptr, pe_faddr_ptr, pe_peq_nn, pe_peq_sn, pe_peq_ns, pe_beq, pe_mkagg, hload_rptr, partOf_none, partOf_some, fillAt, List.getD_cons_zero, List.getD_cons_succ, List.getElem?_cons_zero, List.getElem?_cons_succ, List.drop_zero, List.drop_succ_cons, List.drop_nil, List.take_zero, List.take_succ_cons, List.length_cons, List.length_nil, List.cons_append, List.nil_append, List.zip_cons_cons, List.zip_nil_right, Option.map_some, Option.map_none, Nat.reduceAdd, Nat.reduceLeDiff, Nat.reduceEqDiff, Nat.zero_add, cells_agg, cells_int, cells_str, cells_bool, cells_ptr, cells_rptr, cells_slnil, cells_sl, cells_msl, cells_func, targetOf, and_self, and_true, true_and, if_true, if_false, ↓reduceIte, reduceCtorEq, LoopPost_exit, LoopPost_ret, al, i1, not_false_eq_true, true_implies, false_implies, p2, not_true_eq_false, known_iff]
      exact ⟨_, rfl, rfl⟩
theorem all_values : ∀ l, HasArgs [.int .i64, .sl tAttr, .str] l → Ev cx 17 l [] fun r _ => r = .bool true := by
  rintro _ ⟨a, _, rfl, ha, b, _, rfl, hb, c, _, rfl, hc, rfl⟩
  obtain ⟨n, rfl⟩ := hasV_int ha
  obtain ⟨l, hv⟩ := has_attrs hb
  obtain ⟨s, rfl⟩ := hasV_str hc
  exact ev_values hv n s
end Go.Am
