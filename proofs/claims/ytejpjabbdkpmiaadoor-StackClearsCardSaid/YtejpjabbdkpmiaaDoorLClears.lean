/-
  StackClears as the abstract machine runs it: it returns true. No law is claimed here.
-/
import Derived.Test.YtejpjabbdkpmiaaDoorSPops
import Derived.Test.YtejpjabbdkpmiaaDoorLScopes
namespace Go.Am
open Go
set_option maxRecDepth 100000
set_option linter.unusedSimpArgs false
set_option linter.unusedVariables false

theorem clear_top {q : Item → Bool} {l : List Item} (h : 1 < (pops q never l).length) : q (topOf (pops q never l)) = true := by
  rw [pops_clear] at h ⊢
  unfold cutL at h ⊢
  rcases lastIdx_spec (q := q) (l := l) with ⟨e1, _⟩ | ⟨n, hn, e1, e2, _⟩
  · rw [e1, List.length_take] at h; omega
  · rw [e1] at h ⊢
    have e3 : max 1 ((n : Int) + 1).toNat = n + 1 := by omega
    rw [e3, topOf_take hn]; exact e2
theorem until_at {q : Item → Bool} {l : List Item} (h : 1 < (pops never q l).length) : (pops never q l).length < l.length ∧ q (itemAt l ((pops never q l).length : Int)) = true := by
  rw [pops_until] at h ⊢
  unfold cutL at h ⊢
  rcases lastIdx_spec (q := q) (l := l) with ⟨e1, _⟩ | ⟨n, hn, e1, e2, _⟩
  · rw [e1, List.length_take] at h; omega
  · rw [e1] at h ⊢
    rw [List.length_take] at h ⊢
    have e3 : min (max 1 (n : Int).toNat) l.length = n := by omega
    rw [e3, itemAt_lt hn]; exact ⟨hn, e2⟩
theorem set0 {a b c x : AObj} : List.set [a, b, c] 0 x = [x, b, c] := rfl
theorem set1 {a b c x : AObj} : List.set [a, b, c] 1 x = [a, x, c] := rfl
theorem set2 {a b c x : AObj} : List.set [a, b, c] 2 x = [a, b, x] := rfl

theorem ev_clears {v w : AVal} {l : List Item} {ws : List Bytes} (hv : IsItems l v) (hw : IsStrs ws w) : Ev cx 4 [v, w] [] fun r _ => r = .bool true := by
  unfold Ev
  rw [t4_eq, t4]
  simp only [opW_some, opW_none, cndW_true, cndW_false, cndW_dec, W_ret_iff, W_fail_iff, W_op_iff, W_cells_iff, W_cnd_iff, W_load_iff, W_store_iff, W_alloc_iff, W_frz_iff, W_frzAt_iff, W_objOf_iff, W_bytesObj_iff, W_mnew_iff, W_mset_iff, W_mget_iff, W_callv_iff, W_join_iff, pe_eql, pe_neq, pe_lss, pe_leq, pe_gtr, pe_geq, pe_not, pe_seql, pe_sneq, pe_slen, pe_part_none, pe_part_some, pe_ext, pe_nonnil_ptr, pe_nonnil_rptr, pe_nonnil_func, pe_faddr_rptr, pe_faddr_ptr, pe_peq_nn, pe_peq_sn, pe_peq_ns, pe_beq, pe_mkagg, hload_rptr, partOf_none, partOf_some, fillAt, List.getD_cons_zero, List.getD_cons_succ, List.getElem?_cons_zero, List.getElem?_cons_succ, List.drop_zero, List.drop_succ_cons, List.drop_nil, List.take_zero, List.take_succ_cons, List.length_cons, List.length_nil, List.cons_append, List.nil_append, List.zip_cons_cons, List.zip_nil_right, Option.map_some, Option.map_none, Nat.reduceAdd, Nat.reduceLeDiff, Nat.reduceEqDiff, Nat.zero_add, cells_agg, cells_int, cells_str, cells_bool, cells_ptr, cells_rptr, cells_slnil, cells_sl, cells_msl, cells_func, targetOf, and_self, and_true, true_and, if_true, if_false, ↓reduceIte, reduceCtorEq, LoopPost_exit, LoopPost_ret, (f21' hv []).call, (f22' hw []).call, known_iff]
  rw [cndW_iff, cndW_iff]
  refine ⟨fun _ => ⟨_, rfl, rfl⟩, fun h1 => ⟨fun _ => ⟨_, rfl, rfl⟩, fun h2 => ?_⟩⟩
  have h1 : itemsOk l := by simpa using h1
  have h2 : strsOk ws := by simpa using h2
  have hw' : IsSl 1 (ws.map strRow) w := hw
  simp only [opW_some, opW_none, cndW_true, cndW_false, cndW_dec, W_ret_iff, W_fail_iff, W_op_iff, W_cells_iff, W_cnd_iff, W_load_iff, W_store_iff, W_alloc_iff, W_frz_iff, W_frzAt_iff, W_objOf_iff, W_bytesObj_iff, W_mnew_iff, W_mset_iff, W_mget_iff, W_callv_iff, W_join_iff, pe_eql, pe_neq, pe_lss, pe_leq, pe_gtr, pe_geq, pe_not, pe_seql, pe_sneq, pe_slen, pe_part_none, pe_part_some, pe_ext, pe_nonnil_ptr, pe_nonnil_rptr, pe_nonnil_func, pe_faddr_rptr, pe_faddr_ptr, pe_peq_nn, pe_peq_sn, pe_peq_ns, pe_beq, pe_mkagg, hload_rptr, partOf_none, partOf_some, fillAt, List.getD_cons_zero, List.getD_cons_succ, List.getElem?_cons_zero, List.getElem?_cons_succ, List.drop_zero, List.drop_succ_cons, List.drop_nil, List.take_zero, List.take_succ_cons, List.length_cons, List.length_nil, List.cons_append, List.nil_append, List.zip_cons_cons, List.zip_nil_right, Option.map_some, Option.map_none, Nat.reduceAdd, Nat.reduceLeDiff, Nat.reduceEqDiff, Nat.zero_add, cells_agg, cells_int, cells_str, cells_bool, cells_ptr, cells_rptr, cells_slnil, cells_sl, cells_msl, cells_func, targetOf, and_self, and_true, true_and, if_true, if_false, ↓reduceIte, reduceCtorEq, LoopPost_exit, LoopPost_ret, hw'.lenM]
  refine ⟨fun h0 => ?_, fun h0 => ?_⟩
  · have hpos : 0 < ws.length := by omega
    have e0 : peval (.eaddr 1) [w, I 0] = some (.rptr (strRow ws[0])) := IsSl.eaddrM hw' (k := .i64) (n := 0) hpos
    generalize ws[0] = s at e0
    simp only [opW_some, opW_none, cndW_true, cndW_false, cndW_dec, W_ret_iff, W_fail_iff, W_op_iff, W_cells_iff, W_cnd_iff, W_load_iff, W_store_iff, W_alloc_iff, W_frz_iff, W_frzAt_iff, W_objOf_iff, W_bytesObj_iff, W_mnew_iff, W_mset_iff, W_mget_iff, W_callv_iff, W_join_iff, pe_eql, pe_neq, pe_lss, pe_leq, pe_gtr, pe_geq, pe_not, pe_seql, pe_sneq, pe_slen, pe_part_none, pe_part_some, pe_ext, pe_nonnil_ptr, pe_nonnil_rptr, pe_nonnil_func, pe_faddr_rptr, pe_faddr_ptr, pe_peq_nn, pe_peq_sn, pe_peq_ns, pe_beq, pe_mkagg, hload_rptr, partOf_none, partOf_some, fillAt, List.getD_cons_zero, List.getD_cons_succ, List.getElem?_cons_zero, List.getElem?_cons_succ, List.drop_zero, List.drop_succ_cons, List.drop_nil, List.take_zero, List.take_succ_cons, List.length_cons, List.length_nil, List.cons_append, List.nil_append, List.zip_cons_cons, List.zip_nil_right, Option.map_some, Option.map_none, Nat.reduceAdd, Nat.reduceLeDiff, Nat.reduceEqDiff, Nat.zero_add, cells_agg, cells_int, cells_str, cells_bool, cells_ptr, cells_rptr, cells_slnil, cells_sl, cells_msl, cells_func, targetOf, and_self, and_true, true_and, if_true, if_false, ↓reduceIte, reduceCtorEq, LoopPost_exit, LoopPost_ret, e0, strRow]
    refine W_call (Ev.mono (f24 hv h1.few) ?_)
    rintro _ _ ⟨u1, rfl, rfl, hu1⟩
    refine W_call (Ev.mono (f24 hv h1.few) ?_)
    rintro _ _ ⟨u2, rfl, rfl, hu2⟩
    refine W_call (Ev.mono (f24 hv h1.few) ?_)
    rintro _ _ ⟨u3, rfl, rfl, hu3⟩
    obtain ⟨a, ra, ha⟩ := f29 (h := [AObj.cells [u1], .cells [u2], .cells [u3]]) (id := 0) ⟨u1, rfl, hu1⟩ h1.few hw h2.few
    obtain ⟨b, rb, hb⟩ := f30 (h := [AObj.cells [a], .cells [u2], .cells [u3]]) (id := 1) ⟨u2, rfl, hu2⟩ h1.few s
    obtain ⟨c, rc, hc⟩ := f31 (h := [AObj.cells [a], .cells [b], .cells [u3]]) (id := 2) ⟨u3, rfl, hu3⟩ h1.few hw h2.few
    rw [set0] at ra
    rw [set1] at rb
    rw [set2] at rc
    have la := pops_le (b := isOne ws) (a := never) (l := l)
    have lb := pops_le (b := unimplied s) (a := never) (l := l)
    have lc := pops_le (b := never) (a := isOne ws) (l := l)
    have fa := clear_top (q := isOne ws) (l := l)
    have fb := clear_top (q := unimplied s) (l := l)
    have fc := until_at (q := isOne ws) (l := l)
    generalize pops (isOne ws) never l = LA at ra ha la fa
    generalize pops (unimplied s) never l = LB at rb hb lb fb
    generalize pops never (isOne ws) l = LC at rc hc lc fc
    have hf := h1.few
    have sa : SAt [AObj.cells [a], .cells [b], .cells [c]] (.ptr (some (0, 0))) LA := SObj.at ⟨a, rfl, ha⟩
    have sb : SAt [AObj.cells [a], .cells [b], .cells [c]] (.ptr (some (1, 0))) LB := SObj.at ⟨b, rfl, hb⟩
    have sc : SAt [AObj.cells [a], .cells [b], .cells [c]] (.ptr (some (2, 0))) LC := SObj.at ⟨c, rfl, hc⟩
    simp only [opW_some, opW_none, cndW_true, cndW_false, cndW_dec, W_ret_iff, W_fail_iff, W_op_iff, W_cells_iff, W_cnd_iff, W_load_iff, W_store_iff, W_alloc_iff, W_frz_iff, W_frzAt_iff, W_objOf_iff, W_bytesObj_iff, W_mnew_iff, W_mset_iff, W_mget_iff, W_callv_iff, W_join_iff, pe_eql, pe_neq, pe_lss, pe_leq, pe_gtr, pe_geq, pe_not, pe_seql, pe_sneq, pe_slen, pe_part_none, pe_part_some, pe_ext, pe_nonnil_ptr, pe_nonnil_rptr, pe_nonnil_func, pe_faddr_rptr, pe_faddr_ptr, pe_peq_nn, pe_peq_sn, pe_peq_ns, pe_beq, pe_mkagg, hload_rptr, partOf_none, partOf_some, fillAt, List.getD_cons_zero, List.getD_cons_succ, List.getElem?_cons_zero, List.getElem?_cons_succ, List.drop_zero, List.drop_succ_cons, List.drop_nil, List.take_zero, List.take_succ_cons, List.length_cons, List.length_nil, List.cons_append, List.nil_append, List.zip_cons_cons, List.zip_nil_right, Option.map_some, Option.map_none, Nat.reduceAdd, Nat.reduceLeDiff, Nat.reduceEqDiff, Nat.zero_add, cells_agg, cells_int, cells_str, cells_bool, cells_ptr, cells_rptr, cells_slnil, cells_sl, cells_msl, cells_func, targetOf, and_self, and_true, true_and, if_true, if_false, ↓reduceIte, reduceCtorEq, LoopPost_exit, LoopPost_ret, Item.len_row, Item.g0, Item.g1, Item.g2, Item.g3, Item.at0, Item.take_row, Item.drop1, Item.drop2, Item.drop3, Item.fold, Nat.zero_lt_one, List.append_nil, ra.call, rb.call, rc.call, (f33 sa (Nat.le_trans la hf)).call, (f32 _).call, (f33 sb (Nat.le_trans lb hf)).call, (f34 sa).call]
    have iA : ¬ (l.length : Int) < (LA.length : Int) := by omega
    have end3 : W cx (.call 34 [.ptr (some (2, 0))] fun v33 => .op (.int .leq) [v33, (I 1)] fun v34 => .cnd v34 (.pcall 23 [] fun v35 => .ret .ret [v35]) (
            .call 34 [.ptr (some (2, 0))] fun v36 => .op (.len false) [v] fun v37 => .op (.int .lss) [v36, v37] fun v38 => .cnd v38 (
             .call 34 [.ptr (some (2, 0))] fun v39 => .call 37 [v, v39] fun v40 => .call 35 [v40, w] fun v41 => .cnd v41 (.pcall 23 [] fun v42 => .ret .ret [v42]) (.ret .ret [ff])) (.ret .ret [ff])))
        (fun x vs h' => x = AExit.ret ∧ ∃ r, vs = [r] ∧ r = AVal.bool true) [AObj.cells [a], .cells [b], .cells [c]] := by
      simp only [opW_some, opW_none, cndW_true, cndW_false, cndW_dec, W_ret_iff, W_fail_iff, W_op_iff, W_cells_iff, W_cnd_iff, W_load_iff, W_store_iff, W_alloc_iff, W_frz_iff, W_frzAt_iff, W_objOf_iff, W_bytesObj_iff, W_mnew_iff, W_mset_iff, W_mget_iff, W_callv_iff, W_join_iff, pe_eql, pe_neq, pe_lss, pe_leq, pe_gtr, pe_geq, pe_not, pe_seql, pe_sneq, pe_slen, pe_part_none, pe_part_some, pe_ext, pe_nonnil_ptr, pe_nonnil_rptr, pe_nonnil_func, pe_faddr_rptr, pe_faddr_ptr, pe_peq_nn, pe_peq_sn, pe_peq_ns, pe_beq, pe_mkagg, hload_rptr, partOf_none, partOf_some, fillAt, List.getD_cons_zero, List.getD_cons_succ, List.getElem?_cons_zero, List.getElem?_cons_succ, List.drop_zero, List.drop_succ_cons, List.drop_nil, List.take_zero, List.take_succ_cons, List.length_cons, List.length_nil, List.cons_append, List.nil_append, List.zip_cons_cons, List.zip_nil_right, Option.map_some, Option.map_none, Nat.reduceAdd, Nat.reduceLeDiff, Nat.reduceEqDiff, Nat.zero_add, cells_agg, cells_int, cells_str, cells_bool, cells_ptr, cells_rptr, cells_slnil, cells_sl, cells_msl, cells_func, targetOf, and_self, and_true, true_and, if_true, if_false, ↓reduceIte, reduceCtorEq, LoopPost_exit, LoopPost_ret, Item.len_row, Item.g0, Item.g1, Item.g2, Item.g3, Item.at0, Item.take_row, Item.drop1, Item.drop2, Item.drop3, Item.fold, Nat.zero_lt_one, List.append_nil, (f34 sc).call, known_iff]
      refine ⟨fun _ => ⟨_, rfl, rfl⟩, fun hC => ?_⟩
      obtain ⟨c1, c2⟩ := fc (by omega)
      simp only [opW_some, opW_none, cndW_true, cndW_false, cndW_dec, W_ret_iff, W_fail_iff, W_op_iff, W_cells_iff, W_cnd_iff, W_load_iff, W_store_iff, W_alloc_iff, W_frz_iff, W_frzAt_iff, W_objOf_iff, W_bytesObj_iff, W_mnew_iff, W_mset_iff, W_mget_iff, W_callv_iff, W_join_iff, pe_eql, pe_neq, pe_lss, pe_leq, pe_gtr, pe_geq, pe_not, pe_seql, pe_sneq, pe_slen, pe_part_none, pe_part_some, pe_ext, pe_nonnil_ptr, pe_nonnil_rptr, pe_nonnil_func, pe_faddr_rptr, pe_faddr_ptr, pe_peq_nn, pe_peq_sn, pe_peq_ns, pe_beq, pe_mkagg, hload_rptr, partOf_none, partOf_some, fillAt, List.getD_cons_zero, List.getD_cons_succ, List.getElem?_cons_zero, List.getElem?_cons_succ, List.drop_zero, List.drop_succ_cons, List.drop_nil, List.take_zero, List.take_succ_cons, List.length_cons, List.length_nil, List.cons_append, List.nil_append, List.zip_cons_cons, List.zip_nil_right, Option.map_some, Option.map_none, Nat.reduceAdd, Nat.reduceLeDiff, Nat.reduceEqDiff, Nat.zero_add, cells_agg, cells_int, cells_str, cells_bool, cells_ptr, cells_rptr, cells_slnil, cells_sl, cells_msl, cells_func, targetOf, and_self, and_true, true_and, if_true, if_false, ↓reduceIte, reduceCtorEq, LoopPost_exit, LoopPost_ret, Item.len_row, Item.g0, Item.g1, Item.g2, Item.g3, Item.at0, Item.take_row, Item.drop1, Item.drop2, Item.drop3, Item.fold, Nat.zero_lt_one, List.append_nil, (f34 sc).call, IsSl.lenM hv, show (LC.length : Int) < (l.length : Int) by omega, not_true_eq_false, true_implies, false_implies, (f37 hv _).call, (f35 _ hw h2.few).call, c2, known_iff]
      exact ⟨_, rfl, rfl⟩
    have end2 : W cx (.call 34 [.ptr (some (1, 0))] fun v28 => .op (.int .gtr) [v28, (I 1)] fun v29 => .cnd v29 (
        .op (.int .eql) [.int .i64 (topOf LB).space, (I 1)] fun v30 => .cnd v30 (
         .op (.str .neq) [.str (topOf LB).name, .str s] fun v31 => .cnd v31 (
          .pcall 36 [.str (topOf LB).name] fun v32 => .cnd v32 (.ret .ret [ff]) (
           .call 34 [.ptr (some (2, 0))] fun v33 => .op (.int .leq) [v33, (I 1)] fun v34 => .cnd v34 (.pcall 23 [] fun v35 => .ret .ret [v35]) (
            .call 34 [.ptr (some (2, 0))] fun v36 => .op (.len false) [v] fun v37 => .op (.int .lss) [v36, v37] fun v38 => .cnd v38 (
             .call 34 [.ptr (some (2, 0))] fun v39 => .call 37 [v, v39] fun v40 => .call 35 [v40, w] fun v41 => .cnd v41 (.pcall 23 [] fun v42 => .ret .ret [v42]) (.ret .ret [ff])) (.ret .ret [ff]))))
          (.call 34 [.ptr (some (2, 0))] fun v33 => .op (.int .leq) [v33, (I 1)] fun v34 => .cnd v34 (.pcall 23 [] fun v35 => .ret .ret [v35]) (
            .call 34 [.ptr (some (2, 0))] fun v36 => .op (.len false) [v] fun v37 => .op (.int .lss) [v36, v37] fun v38 => .cnd v38 (
             .call 34 [.ptr (some (2, 0))] fun v39 => .call 37 [v, v39] fun v40 => .call 35 [v40, w] fun v41 => .cnd v41 (.pcall 23 [] fun v42 => .ret .ret [v42]) (.ret .ret [ff])) (.ret .ret [ff]))))
         (.call 34 [.ptr (some (2, 0))] fun v33 => .op (.int .leq) [v33, (I 1)] fun v34 => .cnd v34 (.pcall 23 [] fun v35 => .ret .ret [v35]) (
            .call 34 [.ptr (some (2, 0))] fun v36 => .op (.len false) [v] fun v37 => .op (.int .lss) [v36, v37] fun v38 => .cnd v38 (
             .call 34 [.ptr (some (2, 0))] fun v39 => .call 37 [v, v39] fun v40 => .call 35 [v40, w] fun v41 => .cnd v41 (.pcall 23 [] fun v42 => .ret .ret [v42]) (.ret .ret [ff])) (.ret .ret [ff]))))
        (.call 34 [.ptr (some (2, 0))] fun v33 => .op (.int .leq) [v33, (I 1)] fun v34 => .cnd v34 (.pcall 23 [] fun v35 => .ret .ret [v35]) (
            .call 34 [.ptr (some (2, 0))] fun v36 => .op (.len false) [v] fun v37 => .op (.int .lss) [v36, v37] fun v38 => .cnd v38 (
             .call 34 [.ptr (some (2, 0))] fun v39 => .call 37 [v, v39] fun v40 => .call 35 [v40, w] fun v41 => .cnd v41 (.pcall 23 [] fun v42 => .ret .ret [v42]) (.ret .ret [ff])) (.ret .ret [ff]))))
        (fun x vs h' => x = AExit.ret ∧ ∃ r, vs = [r] ∧ r = AVal.bool true) [AObj.cells [a], .cells [b], .cells [c]] := by
      rw [(f34 sb).call]
      simp only [W_op_iff, pe_gtr, opW_some, W_cnd_iff, cndW_dec]
      refine ⟨fun hB => ?_, fun hB => end3⟩
      have hb := fb (by omega)
      simp only [W_op_iff, pe_eql, opW_some, W_cnd_iff, cndW_dec]
      refine ⟨fun hS => ?_, fun hS => end3⟩
      simp only [W_op_iff, pe_sneq, opW_some, W_cnd_iff, cndW_dec]
      refine ⟨fun hN => ?_, fun hN => end3⟩
      simp only [f36_iff, W_cnd_iff, cndW_dec]
      refine ⟨fun hI => ?_, fun hI => end3⟩
      exfalso
      simp [unimplied, hS, hI] at hb
      exact hN hb
    refine ⟨fun hA => ?_, fun hA => ?_⟩
    · simp only [opW_some, opW_none, cndW_true, cndW_false, cndW_dec, W_ret_iff, W_fail_iff, W_op_iff, W_cells_iff, W_cnd_iff, W_load_iff, W_store_iff, W_alloc_iff, W_frz_iff, W_frzAt_iff, W_objOf_iff, W_bytesObj_iff, W_mnew_iff, W_mset_iff, W_mget_iff, W_callv_iff, W_join_iff, pe_eql, pe_neq, pe_lss, pe_leq, pe_gtr, pe_geq, pe_not, pe_seql, pe_sneq, pe_slen, pe_part_none, pe_part_some, pe_ext, pe_nonnil_ptr, pe_nonnil_rptr, pe_nonnil_func, pe_faddr_rptr, pe_faddr_ptr, pe_peq_nn, pe_peq_sn, pe_peq_ns, pe_beq, pe_mkagg, hload_rptr, partOf_none, partOf_some, fillAt, List.getD_cons_zero, List.getD_cons_succ, List.getElem?_cons_zero, List.getElem?_cons_succ, List.drop_zero, List.drop_succ_cons, List.drop_nil, List.take_zero, List.take_succ_cons, List.length_cons, List.length_nil, List.cons_append, List.nil_append, List.zip_cons_cons, List.zip_nil_right, Option.map_some, Option.map_none, Nat.reduceAdd, Nat.reduceLeDiff, Nat.reduceEqDiff, Nat.zero_add, cells_agg, cells_int, cells_str, cells_bool, cells_ptr, cells_rptr, cells_slnil, cells_sl, cells_msl, cells_func, targetOf, and_self, and_true, true_and, if_true, if_false, ↓reduceIte, reduceCtorEq, LoopPost_exit, LoopPost_ret, Item.len_row, Item.g0, Item.g1, Item.g2, Item.g3, Item.at0, Item.take_row, Item.drop1, Item.drop2, Item.drop3, Item.fold, Nat.zero_lt_one, List.append_nil, (f35 _ hw h2.few).call, fa (by omega), (f34 sa).call, IsSl.lenM hv, iA, Bool.not_true, not_false_eq_true, true_implies, false_implies]
      exact end2
    · simp only [opW_some, opW_none, cndW_true, cndW_false, cndW_dec, W_ret_iff, W_fail_iff, W_op_iff, W_cells_iff, W_cnd_iff, W_load_iff, W_store_iff, W_alloc_iff, W_frz_iff, W_frzAt_iff, W_objOf_iff, W_bytesObj_iff, W_mnew_iff, W_mset_iff, W_mget_iff, W_callv_iff, W_join_iff, pe_eql, pe_neq, pe_lss, pe_leq, pe_gtr, pe_geq, pe_not, pe_seql, pe_sneq, pe_slen, pe_part_none, pe_part_some, pe_ext, pe_nonnil_ptr, pe_nonnil_rptr, pe_nonnil_func, pe_faddr_rptr, pe_faddr_ptr, pe_peq_nn, pe_peq_sn, pe_peq_ns, pe_beq, pe_mkagg, hload_rptr, partOf_none, partOf_some, fillAt, List.getD_cons_zero, List.getD_cons_succ, List.getElem?_cons_zero, List.getElem?_cons_succ, List.drop_zero, List.drop_succ_cons, List.drop_nil, List.take_zero, List.take_succ_cons, List.length_cons, List.length_nil, List.cons_append, List.nil_append, List.zip_cons_cons, List.zip_nil_right, Option.map_some, Option.map_none, Nat.reduceAdd, Nat.reduceLeDiff, Nat.reduceEqDiff, Nat.zero_add, cells_agg, cells_int, cells_str, cells_bool, cells_ptr, cells_rptr, cells_slnil, cells_sl, cells_msl, cells_func, targetOf, and_self, and_true, true_and, if_true, if_false, ↓reduceIte, reduceCtorEq, LoopPost_exit, LoopPost_ret, Item.len_row, Item.g0, Item.g1, Item.g2, Item.g3, Item.at0, Item.take_row, Item.drop1, Item.drop2, Item.drop3, Item.fold, Nat.zero_lt_one, List.append_nil, (f34 sa).call, IsSl.lenM hv, iA, not_false_eq_true, true_implies, false_implies]
      exact end2
  · have e1 : ws = [] := by
      cases ws with
      | nil => rfl
      | cons s ws' => exact absurd h0 (by simp)
    refine W_call (Ev.mono (f24 hv h1.few) ?_)
    rintro _ _ ⟨u1, rfl, rfl, hu1⟩
    refine W_call (Ev.mono (f24 hv h1.few) ?_)
    rintro _ _ ⟨u2, rfl, rfl, hu2⟩
    refine W_call (Ev.mono (f24 hv h1.few) ?_)
    rintro _ _ ⟨u3, rfl, rfl, hu3⟩
    obtain ⟨a, ra, ha⟩ := f29 (h := [AObj.cells [u1], .cells [u2], .cells [u3]]) (id := 0) ⟨u1, rfl, hu1⟩ h1.few hw h2.few
    obtain ⟨b, rb, hb⟩ := f30 (h := [AObj.cells [a], .cells [u2], .cells [u3]]) (id := 1) ⟨u2, rfl, hu2⟩ h1.few []
    obtain ⟨c, rc, hc⟩ := f31 (h := [AObj.cells [a], .cells [b], .cells [u3]]) (id := 2) ⟨u3, rfl, hu3⟩ h1.few hw h2.few
    rw [set0] at ra
    rw [set1] at rb
    rw [set2] at rc
    have la := pops_le (b := isOne ws) (a := never) (l := l)
    have lb := pops_le (b := unimplied []) (a := never) (l := l)
    have lc := pops_le (b := never) (a := isOne ws) (l := l)
    have fa := clear_top (q := isOne ws) (l := l)
    have fb := clear_top (q := unimplied []) (l := l)
    have fc := until_at (q := isOne ws) (l := l)
    generalize pops (isOne ws) never l = LA at ra ha la fa
    generalize pops (unimplied []) never l = LB at rb hb lb fb
    generalize pops never (isOne ws) l = LC at rc hc lc fc
    have hf := h1.few
    have sa : SAt [AObj.cells [a], .cells [b], .cells [c]] (.ptr (some (0, 0))) LA := SObj.at ⟨a, rfl, ha⟩
    have sb : SAt [AObj.cells [a], .cells [b], .cells [c]] (.ptr (some (1, 0))) LB := SObj.at ⟨b, rfl, hb⟩
    have sc : SAt [AObj.cells [a], .cells [b], .cells [c]] (.ptr (some (2, 0))) LC := SObj.at ⟨c, rfl, hc⟩
    simp only [opW_some, opW_none, cndW_true, cndW_false, cndW_dec, W_ret_iff, W_fail_iff, W_op_iff, W_cells_iff, W_cnd_iff, W_load_iff, W_store_iff, W_alloc_iff, W_frz_iff, W_frzAt_iff, W_objOf_iff, W_bytesObj_iff, W_mnew_iff, W_mset_iff, W_mget_iff, W_callv_iff, W_join_iff, pe_eql, pe_neq, pe_lss, pe_leq, pe_gtr, pe_geq, pe_not, pe_seql, pe_sneq, pe_slen, pe_part_none, pe_part_some, pe_ext, pe_nonnil_ptr, pe_nonnil_rptr, pe_nonnil_func, pe_faddr_rptr, pe_faddr_ptr, pe_peq_nn, pe_peq_sn, pe_peq_ns, pe_beq, pe_mkagg, hload_rptr, partOf_none, partOf_some, fillAt, List.getD_cons_zero, List.getD_cons_succ, List.getElem?_cons_zero, List.getElem?_cons_succ, List.drop_zero, List.drop_succ_cons, List.drop_nil, List.take_zero, List.take_succ_cons, List.length_cons, List.length_nil, List.cons_append, List.nil_append, List.zip_cons_cons, List.zip_nil_right, Option.map_some, Option.map_none, Nat.reduceAdd, Nat.reduceLeDiff, Nat.reduceEqDiff, Nat.zero_add, cells_agg, cells_int, cells_str, cells_bool, cells_ptr, cells_rptr, cells_slnil, cells_sl, cells_msl, cells_func, targetOf, and_self, and_true, true_and, if_true, if_false, ↓reduceIte, reduceCtorEq, LoopPost_exit, LoopPost_ret, Item.len_row, Item.g0, Item.g1, Item.g2, Item.g3, Item.at0, Item.take_row, Item.drop1, Item.drop2, Item.drop3, Item.fold, Nat.zero_lt_one, List.append_nil, ra.call, rb.call, rc.call, (f33 sa (Nat.le_trans la hf)).call, (f32 _).call, (f33 sb (Nat.le_trans lb hf)).call, (f34 sa).call]
    have iA : ¬ (l.length : Int) < (LA.length : Int) := by omega
    have end3 : W cx (.call 34 [.ptr (some (2, 0))] fun v33 => .op (.int .leq) [v33, (I 1)] fun v34 => .cnd v34 (.pcall 23 [] fun v35 => .ret .ret [v35]) (
            .call 34 [.ptr (some (2, 0))] fun v36 => .op (.len false) [v] fun v37 => .op (.int .lss) [v36, v37] fun v38 => .cnd v38 (
             .call 34 [.ptr (some (2, 0))] fun v39 => .call 37 [v, v39] fun v40 => .call 35 [v40, w] fun v41 => .cnd v41 (.pcall 23 [] fun v42 => .ret .ret [v42]) (.ret .ret [ff])) (.ret .ret [ff])))
        (fun x vs h' => x = AExit.ret ∧ ∃ r, vs = [r] ∧ r = AVal.bool true) [AObj.cells [a], .cells [b], .cells [c]] := by
      simp only [opW_some, opW_none, cndW_true, cndW_false, cndW_dec, W_ret_iff, W_fail_iff, W_op_iff, W_cells_iff, W_cnd_iff, W_load_iff, W_store_iff, W_alloc_iff, W_frz_iff, W_frzAt_iff, W_objOf_iff, W_bytesObj_iff, W_mnew_iff, W_mset_iff, W_mget_iff, W_callv_iff, W_join_iff, pe_eql, pe_neq, pe_lss, pe_leq, pe_gtr, pe_geq, pe_not, pe_seql, pe_sneq, pe_slen, pe_part_none, pe_part_some, pe_ext, pe_nonnil_ptr, pe_nonnil_rptr, pe_nonnil_func, pe_faddr_rptr, pe_faddr_ptr, pe_peq_nn, pe_peq_sn, pe_peq_ns, pe_beq, pe_mkagg, hload_rptr, partOf_none, partOf_some, fillAt, List.getD_cons_zero, List.getD_cons_succ, List.getElem?_cons_zero, List.getElem?_cons_succ, List.drop_zero, List.drop_succ_cons, List.drop_nil, List.take_zero, List.take_succ_cons, List.length_cons, List.length_nil, List.cons_append, List.nil_append, List.zip_cons_cons, List.zip_nil_right, Option.map_some, Option.map_none, Nat.reduceAdd, Nat.reduceLeDiff, Nat.reduceEqDiff, Nat.zero_add, cells_agg, cells_int, cells_str, cells_bool, cells_ptr, cells_rptr, cells_slnil, cells_sl, cells_msl, cells_func, targetOf, and_self, and_true, true_and, if_true, if_false, ↓reduceIte, reduceCtorEq, LoopPost_exit, LoopPost_ret, Item.len_row, Item.g0, Item.g1, Item.g2, Item.g3, Item.at0, Item.take_row, Item.drop1, Item.drop2, Item.drop3, Item.fold, Nat.zero_lt_one, List.append_nil, (f34 sc).call, known_iff]
      refine ⟨fun _ => ⟨_, rfl, rfl⟩, fun hC => ?_⟩
      obtain ⟨c1, c2⟩ := fc (by omega)
      simp only [opW_some, opW_none, cndW_true, cndW_false, cndW_dec, W_ret_iff, W_fail_iff, W_op_iff, W_cells_iff, W_cnd_iff, W_load_iff, W_store_iff, W_alloc_iff, W_frz_iff, W_frzAt_iff, W_objOf_iff, W_bytesObj_iff, W_mnew_iff, W_mset_iff, W_mget_iff, W_callv_iff, W_join_iff, pe_eql, pe_neq, pe_lss, pe_leq, pe_gtr, pe_geq, pe_not, pe_seql, pe_sneq, pe_slen, pe_part_none, pe_part_some, pe_ext, pe_nonnil_ptr, pe_nonnil_rptr, pe_nonnil_func, pe_faddr_rptr, pe_faddr_ptr, pe_peq_nn, pe_peq_sn, pe_peq_ns, pe_beq, pe_mkagg, hload_rptr, partOf_none, partOf_some, fillAt, List.getD_cons_zero, List.getD_cons_succ, List.getElem?_cons_zero, List.getElem?_cons_succ, List.drop_zero, List.drop_succ_cons, List.drop_nil, List.take_zero, List.take_succ_cons, List.length_cons, List.length_nil, List.cons_append, List.nil_append, List.zip_cons_cons, List.zip_nil_right, Option.map_some, Option.map_none, Nat.reduceAdd, Nat.reduceLeDiff, Nat.reduceEqDiff, Nat.zero_add, cells_agg, cells_int, cells_str, cells_bool, cells_ptr, cells_rptr, cells_slnil, cells_sl, cells_msl, cells_func, targetOf, and_self, and_true, true_and, if_true, if_false, ↓reduceIte, reduceCtorEq, LoopPost_exit, LoopPost_ret, Item.len_row, Item.g0, Item.g1, Item.g2, Item.g3, Item.at0, Item.take_row, Item.drop1, Item.drop2, Item.drop3, Item.fold, Nat.zero_lt_one, List.append_nil, (f34 sc).call, IsSl.lenM hv, show (LC.length : Int) < (l.length : Int) by omega, not_true_eq_false, true_implies, false_implies, (f37 hv _).call, (f35 _ hw h2.few).call, c2, known_iff]
      exact ⟨_, rfl, rfl⟩
    have end2 : W cx (.call 34 [.ptr (some (1, 0))] fun v28 => .op (.int .gtr) [v28, (I 1)] fun v29 => .cnd v29 (
        .op (.int .eql) [.int .i64 (topOf LB).space, (I 1)] fun v30 => .cnd v30 (
         .op (.str .neq) [.str (topOf LB).name, .str []] fun v31 => .cnd v31 (
          .pcall 36 [.str (topOf LB).name] fun v32 => .cnd v32 (.ret .ret [ff]) (
           .call 34 [.ptr (some (2, 0))] fun v33 => .op (.int .leq) [v33, (I 1)] fun v34 => .cnd v34 (.pcall 23 [] fun v35 => .ret .ret [v35]) (
            .call 34 [.ptr (some (2, 0))] fun v36 => .op (.len false) [v] fun v37 => .op (.int .lss) [v36, v37] fun v38 => .cnd v38 (
             .call 34 [.ptr (some (2, 0))] fun v39 => .call 37 [v, v39] fun v40 => .call 35 [v40, w] fun v41 => .cnd v41 (.pcall 23 [] fun v42 => .ret .ret [v42]) (.ret .ret [ff])) (.ret .ret [ff]))))
          (.call 34 [.ptr (some (2, 0))] fun v33 => .op (.int .leq) [v33, (I 1)] fun v34 => .cnd v34 (.pcall 23 [] fun v35 => .ret .ret [v35]) (
            .call 34 [.ptr (some (2, 0))] fun v36 => .op (.len false) [v] fun v37 => .op (.int .lss) [v36, v37] fun v38 => .cnd v38 (
             .call 34 [.ptr (some (2, 0))] fun v39 => .call 37 [v, v39] fun v40 => .call 35 [v40, w] fun v41 => .cnd v41 (.pcall 23 [] fun v42 => .ret .ret [v42]) (.ret .ret [ff])) (.ret .ret [ff]))))
         (.call 34 [.ptr (some (2, 0))] fun v33 => .op (.int .leq) [v33, (I 1)] fun v34 => .cnd v34 (.pcall 23 [] fun v35 => .ret .ret [v35]) (
            .call 34 [.ptr (some (2, 0))] fun v36 => .op (.len false) [v] fun v37 => .op (.int .lss) [v36, v37] fun v38 => .cnd v38 (
             .call 34 [.ptr (some (2, 0))] fun v39 => .call 37 [v, v39] fun v40 => .call 35 [v40, w] fun v41 => .cnd v41 (.pcall 23 [] fun v42 => .ret .ret [v42]) (.ret .ret [ff])) (.ret .ret [ff]))))
        (.call 34 [.ptr (some (2, 0))] fun v33 => .op (.int .leq) [v33, (I 1)] fun v34 => .cnd v34 (.pcall 23 [] fun v35 => .ret .ret [v35]) (
            .call 34 [.ptr (some (2, 0))] fun v36 => .op (.len false) [v] fun v37 => .op (.int .lss) [v36, v37] fun v38 => .cnd v38 (
             .call 34 [.ptr (some (2, 0))] fun v39 => .call 37 [v, v39] fun v40 => .call 35 [v40, w] fun v41 => .cnd v41 (.pcall 23 [] fun v42 => .ret .ret [v42]) (.ret .ret [ff])) (.ret .ret [ff]))))
        (fun x vs h' => x = AExit.ret ∧ ∃ r, vs = [r] ∧ r = AVal.bool true) [AObj.cells [a], .cells [b], .cells [c]] := by
      rw [(f34 sb).call]
      simp only [W_op_iff, pe_gtr, opW_some, W_cnd_iff, cndW_dec]
      refine ⟨fun hB => ?_, fun hB => end3⟩
      have hb := fb (by omega)
      simp only [W_op_iff, pe_eql, opW_some, W_cnd_iff, cndW_dec]
      refine ⟨fun hS => ?_, fun hS => end3⟩
      simp only [W_op_iff, pe_sneq, opW_some, W_cnd_iff, cndW_dec]
      refine ⟨fun hN => ?_, fun hN => end3⟩
      simp only [f36_iff, W_cnd_iff, cndW_dec]
      refine ⟨fun hI => ?_, fun hI => end3⟩
      exfalso
      simp [unimplied, hS, hI] at hb
      exact hN hb
    refine ⟨fun hA => ?_, fun hA => ?_⟩
    · simp only [opW_some, opW_none, cndW_true, cndW_false, cndW_dec, W_ret_iff, W_fail_iff, W_op_iff, W_cells_iff, W_cnd_iff, W_load_iff, W_store_iff, W_alloc_iff, W_frz_iff, W_frzAt_iff, W_objOf_iff, W_bytesObj_iff, W_mnew_iff, W_mset_iff, W_mget_iff, W_callv_iff, W_join_iff, pe_eql, pe_neq, pe_lss, pe_leq, pe_gtr, pe_geq, pe_not, pe_seql, pe_sneq, pe_slen, pe_part_none, pe_part_some, pe_ext, pe_nonnil_ptr, pe_nonnil_rptr, pe_nonnil_func, pe_faddr_rptr, pe_faddr_ptr, pe_peq_nn, pe_peq_sn, pe_peq_ns, pe_beq, pe_mkagg, hload_rptr, partOf_none, partOf_some, fillAt, List.getD_cons_zero, List.getD_cons_succ, List.getElem?_cons_zero, List.getElem?_cons_succ, List.drop_zero, List.drop_succ_cons, List.drop_nil, List.take_zero, List.take_succ_cons, List.length_cons, List.length_nil, List.cons_append, List.nil_append, List.zip_cons_cons, List.zip_nil_right, Option.map_some, Option.map_none, Nat.reduceAdd, Nat.reduceLeDiff, Nat.reduceEqDiff, Nat.zero_add, cells_agg, cells_int, cells_str, cells_bool, cells_ptr, cells_rptr, cells_slnil, cells_sl, cells_msl, cells_func, targetOf, and_self, and_true, true_and, if_true, if_false, ↓reduceIte, reduceCtorEq, LoopPost_exit, LoopPost_ret, Item.len_row, Item.g0, Item.g1, Item.g2, Item.g3, Item.at0, Item.take_row, Item.drop1, Item.drop2, Item.drop3, Item.fold, Nat.zero_lt_one, List.append_nil, (f35 _ hw h2.few).call, fa (by omega), (f34 sa).call, IsSl.lenM hv, iA, Bool.not_true, not_false_eq_true, true_implies, false_implies]
      exact end2
    · simp only [opW_some, opW_none, cndW_true, cndW_false, cndW_dec, W_ret_iff, W_fail_iff, W_op_iff, W_cells_iff, W_cnd_iff, W_load_iff, W_store_iff, W_alloc_iff, W_frz_iff, W_frzAt_iff, W_objOf_iff, W_bytesObj_iff, W_mnew_iff, W_mset_iff, W_mget_iff, W_callv_iff, W_join_iff, pe_eql, pe_neq, pe_lss, pe_leq, pe_gtr, pe_geq, pe_not, pe_seql, pe_sneq, pe_slen, pe_part_none, pe_part_some, pe_ext, pe_nonnil_ptr, pe_nonnil_rptr, pe_nonnil_func, pe_faddr_rptr, pe_faddr_ptr, pe_peq_nn, pe_peq_sn, pe_peq_ns, pe_beq, pe_mkagg, hload_rptr, partOf_none, partOf_some, fillAt, List.getD_cons_zero, List.getD_cons_succ, List.getElem?_cons_zero, List.getElem?_cons_succ, List.drop_zero, List.drop_succ_cons, List.drop_nil, List.take_zero, List.take_succ_cons, List.length_cons, List.length_nil, List.cons_append, List.nil_append, List.zip_cons_cons, List.zip_nil_right, Option.map_some, Option.map_none, Nat.reduceAdd, Nat.reduceLeDiff, Nat.reduceEqDiff, Nat.zero_add, cells_agg, cells_int, cells_str, cells_bool, cells_ptr, cells_rptr, cells_slnil, cells_sl, cells_msl, cells_func, targetOf, and_self, and_true, true_and, if_true, if_false, ↓reduceIte, reduceCtorEq, LoopPost_exit, LoopPost_ret, Item.len_row, Item.g0, Item.g1, Item.g2, Item.g3, Item.at0, Item.take_row, Item.drop1, Item.drop2, Item.drop3, Item.fold, Nat.zero_lt_one, List.append_nil, (f34 sa).call, IsSl.lenM hv, iA, not_false_eq_true, true_implies, false_implies]
      exact end2
theorem all_clears : ∀ l, HasArgs [.sl tItem, .sl .str] l → Ev cx 4 l [] fun r _ => r = .bool true := by
  rintro _ ⟨a, _, rfl, ha, b, _, rfl, hb, rfl⟩
  obtain ⟨l, hv⟩ := has_items ha
  obtain ⟨ws, hw⟩ := has_strs hb
  exact ev_clears hv hw
end Go.Am
