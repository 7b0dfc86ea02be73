/-
  Lower case: what the program's Lower and the specification's Lower return. No law is claimed here.
-/
import Derived.Test.YtejpjabbdkpmiaaDoorRefKinds
namespace Go.Am
open Go
set_option maxRecDepth 100000
set_option linter.unusedSimpArgs false
set_option linter.unusedVariables false

def lowerByte (c : UInt8) : UInt8 := if 65 ≤ c.toNat ∧ c.toNat ≤ 90 then c + 32 else c
def lower (s : Bytes) : Bytes := s.map lowerByte

theorem f159 (c : UInt8) : PRet cx 159 [.int .u8 (c.toNat : Int)] (.bool (decide (65 ≤ c.toNat ∧ c.toNat ≤ 90))) := by
  rw [wout, t159_eq, t159]; simp only [amS, Nat.reduceAdd, Nat.reduceLeDiff, Nat.reduceEqDiff, ↓reduceIte, reduceCtorEq, fillAt, targetOf]
  refine ⟨fun h => ?_, fun h => ?_⟩
  · have e : 65 ≤ c.toNat := by omega
    have e2 : ((c.toNat : Int) ≤ 90) = (c.toNat ≤ 90) := by rw [eq_iff_iff]; omega
    simp [e, e2]
  · have e : ¬ 65 ≤ c.toNat := by omega
    simp [e]

theorem lowerByte_up {c : UInt8} (h : 65 ≤ c.toNat ∧ c.toNat ≤ 90) : ((lowerByte c).toNat : Int) = (c.toNat : Int) + 32 := by
  unfold lowerByte
  rw [if_pos h, UInt8.toNat_add]
  have : UInt8.toNat 32 = 32 := by decide
  rw [this]
  omega
theorem lowerByte_no {c : UInt8} (h : ¬ (65 ≤ c.toNat ∧ c.toNat ≤ 90)) : lowerByte c = c := by unfold lowerByte; rw [if_neg h]

theorem lower_snoc {s : Bytes} {n : Nat} (hn : n < s.length) : lower (s.take (n + 1)) = lower (s.take n) ++ [lowerByte s[n]] := by
  rw [List.take_succ_eq_append_getElem hn]; unfold lower; rw [List.map_append]; rfl

theorem f113 (s : Bytes) (hs : s.length ≤ maxBytes) : PRet cx 113 [.str s] (.str (lower s)) := by
  have hs' : s.length ≤ 140737488355328 := hs
  rw [wout, t113_eq, t113]
  refine W_loop_st (fun p : Nat × AVal => [p.2, .int .i64 (p.1 : Int)]) (fun p _ => p.1 ≤ s.length ∧ IsSl 1 (rowsOf (lower (s.take p.1))) p.2) (fun p => s.length - p.1) (0, .slnil) rfl ⟨Nat.zero_le _, .nil⟩ ?_
  rintro ⟨n, v⟩ h ⟨hn, hv⟩
  simp only at hn hv
  rcases Nat.lt_or_ge n s.length with hlt | hge
  · have i1 : (n : Int) < (s.length : Int) := by omega
    have hb : ((rowsOf (lower (s.take n))).length + 1) * 1 ≤ maxBytes := by
      rw [rowsOf_length]; simp [lower, maxBytes]; omega
    simp only [amS, Nat.reduceAdd, Nat.reduceLeDiff, Nat.reduceEqDiff, ↓reduceIte, reduceCtorEq, fillAt, targetOf, i1, not_true_eq_false, true_implies, false_implies, pe_sidx_nat hlt, (f159 _).pcall rfl rfl, pe_inc (show n < 9223372036854775807 by omega)]
    refine ⟨fun he => ?_, fun he => ?_⟩
    · simp only [amS, Nat.reduceAdd, Nat.reduceLeDiff, Nat.reduceEqDiff, ↓reduceIte, reduceCtorEq, fillAt, targetOf, pe_add, wrap_u8 (show 0 ≤ ((s[n].toNat : Int) + 32) ∧ ((s[n].toNat : Int) + 32) ≤ 255 by omega), pe_mksl1 (a := .int .u8 ((s[n].toNat : Int) + 32)) (z := 1) rfl (by decide), hv.app1 hb]
      refine LoopPost.next (n + 1, _) rfl ⟨hlt, ?_⟩ (by simp only; omega)
      rw [lower_snoc hlt, rowsOf_append]
      have e : rowsOf [lowerByte s[n]] = [[.int .u8 ((s[n].toNat : Int) + 32)]] := by simp [rowsOf, lowerByte_up he]
      rw [e]
      exact .mk
    · simp only [amS, Nat.reduceAdd, Nat.reduceLeDiff, Nat.reduceEqDiff, ↓reduceIte, reduceCtorEq, fillAt, targetOf, pe_mksl1 (a := .int .u8 (s[n].toNat : Int)) (z := 1) rfl (by decide), hv.app1 hb]
      refine LoopPost.next (n + 1, _) rfl ⟨hlt, ?_⟩ (by simp only; omega)
      rw [lower_snoc hlt, rowsOf_append, lowerByte_no he]
      exact .mk
  · have i1 : ¬ (n : Int) < (s.length : Int) := by omega
    have e : s.take n = s := List.take_of_length_le hge
    rw [e] at hv
    simp only [amS, Nat.reduceAdd, Nat.reduceLeDiff, Nat.reduceEqDiff, ↓reduceIte, reduceCtorEq, fillAt, targetOf, i1, not_false_eq_true, true_implies, false_implies, hv.frz, hv.b2s]

theorem f179 (a b : Int) (h : AHeap) : Ret cx 179 [.int .i32 a, .int .i32 b] h (.func (.func 181) [] [.rptr [.int .i32 a], .rptr [.int .i32 b]]) h := by
  rw [ret_iff, t179_eq, t179]; simp only [amS, Nat.reduceAdd, Nat.reduceLeDiff, Nat.reduceEqDiff, ↓reduceIte, reduceCtorEq, fillAt, targetOf]
theorem f181 (c a b : Int) (h : AHeap) : Ret cx 181 [.int .i32 c, .rptr [.int .i32 a], .rptr [.int .i32 b]] h (.bool (decide (a ≤ c ∧ c ≤ b))) h := by
  rw [ret_iff, t181_eq, t181]; simp only [amS, Nat.reduceAdd, Nat.reduceLeDiff, Nat.reduceEqDiff, ↓reduceIte, reduceCtorEq, fillAt, targetOf]
  refine ⟨fun h => by simp [h], fun h => by simp [h]⟩
theorem f175 (c : Int) : PRet cx 175 [.int .i32 c] (.bool (decide (65 ≤ c ∧ c ≤ 90))) := by
  rw [wout, t175_eq, t175]; simp only [amS, Nat.reduceAdd, Nat.reduceLeDiff, Nat.reduceEqDiff, ↓reduceIte, reduceCtorEq, fillAt, targetOf, (f179 _ _ _).call, targetOf, (f181 _ _ _ _).call]

def byteV (b : UInt8) : AVal := .int .u8 (b.toNat : Int)
/-- Bytes of which the first n are in lower case. -/
def halfLow (s : Bytes) (n : Nat) : Bytes := lower (s.take n) ++ s.drop n
theorem halfLow_length (s : Bytes) (n : Nat) : (halfLow s n).length = s.length := by simp [halfLow, lower]; omega
theorem halfLow_at {s : Bytes} {n : Nat} (hn : n < s.length) : (halfLow s n)[n]? = some s[n] := by
  unfold halfLow lower
  rw [List.getElem?_append_right (by simp; omega)]
  simp only [List.length_map, List.length_take, Nat.min_eq_left (Nat.le_of_lt hn), Nat.sub_self]
  rw [List.drop_eq_getElem_cons hn]; rfl
theorem halfLow_succ {s : Bytes} {n : Nat} (hn : n < s.length) : halfLow s (n + 1) = (halfLow s n).set n (lowerByte s[n]) := by
  unfold halfLow
  rw [lower_snoc hn, List.set_append_right _ _ (by simp [lower]; omega)]
  have e : n - (lower (s.take n)).length = 0 := by simp [lower]; omega
  rw [e, List.drop_eq_getElem_cons hn, List.set_cons_zero, List.append_assoc]; rfl
theorem halfLow_all (s : Bytes) : halfLow s s.length = lower s := by simp [halfLow, lower]

theorem set_same {α : Type} {l : List α} {i : Nat} {v : α} (h : l[i]? = some v) : l.set i v = l := by
  apply List.ext_getElem?
  intro j
  rw [List.getElem?_set]
  split
  · rename_i e; subst e; split
    · exact h.symm
    · rename_i hl; rw [List.getElem?_eq_none (by omega)]
  · rfl
theorem hload_cell {cs : List AVal} {i : Nat} {v : AVal} (h : cs[i]? = some v) : hload [.cells cs] none (.ptr (some (0, i))) = some v := by simpa [hload] using h
theorem set_take_drop {α : Type} {l : List α} {i : Nat} {v : α} (h : i < l.length) : l.take i ++ v :: l.drop (i + 1) = l.set i v := by
  rw [List.set_eq_take_append_cons_drop, if_pos h]
theorem hstore_cell {cs : List AVal} {i : Nat} {v : AVal} (h : i < cs.length) (hv : v.cells = [v]) : hstore [.cells cs] 1 (.ptr (some (0, i))) v = some [.cells (cs.set i v)] := by
  simp only [hstore, hv, List.getElem?_cons_zero, List.length_singleton]
  rw [if_pos ⟨trivial, by omega⟩, ← set_take_drop h]
  simp
theorem rowsFrom_bytes (s : Bytes) : ∀ (n o : Nat), o + n = s.length → rowsFrom (s.map byteV) 1 o n = rowsOf (s.drop o)
  | 0, o, h => by rw [List.drop_of_length_le (by omega)]; rfl
  | n + 1, o, h => by
    have ho : o < s.length := by omega
    have e : (s.map byteV).drop o = byteV s[o] :: (s.map byteV).drop (o + 1) := by
      rw [List.drop_eq_getElem_cons (by simpa using ho)]; simp
    rw [rowsFrom, rowsFrom_bytes s n (o + 1) (by omega), List.drop_eq_getElem_cons ho, e]
    rfl

theorem f158 (s : Bytes) (hs : s.length ≤ maxBytes) : PRet cx 158 [.str s] (.str (lower s)) := by
  have hs' : s.length ≤ 140737488355328 := hs
  rw [wout, t158_eq, t158]
  have e1 : hbytesObj [] (.str s) = some ([.cells ((halfLow s 0).map byteV)], .msl 0 0 s.length 1) := by
    simp only [hbytesObj, hs, if_true]; rfl
  have e2 : peval (.len false) [.msl 0 0 s.length 1] = some (.int .i64 (s.length : Int)) := rfl
  simp only [amS, Nat.reduceAdd, Nat.reduceLeDiff, Nat.reduceEqDiff, ↓reduceIte, reduceCtorEq, fillAt, targetOf, e1, e2]
  refine W_loop_st (fun n : Nat => [.int .i64 (n : Int)]) (fun n h => n ≤ s.length ∧ h = [.cells ((halfLow s n).map byteV)]) (fun n => s.length - n) 0 rfl ⟨Nat.zero_le _, rfl⟩ ?_
  rintro n h ⟨hn, rfl⟩
  rcases Nat.lt_or_ge n s.length with hlt | hge
  · have i1 : (n : Int) < (s.length : Int) := by omega
    have e3 : peval (.eaddr 1) [.msl 0 0 s.length 1, .int .i64 (n : Int)] = some (.ptr (some (0, n))) := by simp [peval, elemOf, idxOf, hlt]
    have e4 : hload [.cells ((halfLow s n).map byteV)] none (.ptr (some (0, n))) = some (.int .u8 (s[n].toNat : Int)) := hload_cell (by rw [List.getElem?_map, halfLow_at hlt]; rfl)
    have e5 : IntKind.i32.wrap (s[n].toNat : Int) = (s[n].toNat : Int) := wrap_i32 (by have := s[n].toNat_lt; omega)
    simp only [amS, Nat.reduceAdd, Nat.reduceLeDiff, Nat.reduceEqDiff, ↓reduceIte, reduceCtorEq, fillAt, targetOf, i1, not_true_eq_false, true_implies, false_implies, e3, e4, pe_conv, e5, (f175 _).pcall rfl rfl, pe_inc (show n < 9223372036854775807 by omega)]
    refine ⟨fun he => ?_, fun he => ?_⟩
    · have hup : 65 ≤ s[n].toNat ∧ s[n].toNat ≤ 90 := by omega
      have e6 : hstore [.cells ((halfLow s n).map byteV)] 1 (.ptr (some (0, n))) (.int .u8 ((s[n].toNat : Int) - 65 + 97)) = some [.cells (((halfLow s n).map byteV).set n (.int .u8 ((s[n].toNat : Int) - 65 + 97)))] := hstore_cell (by rw [List.length_map, halfLow_length]; exact hlt) rfl
      simp only [amS, Nat.reduceAdd, Nat.reduceLeDiff, Nat.reduceEqDiff, ↓reduceIte, reduceCtorEq, fillAt, targetOf, pe_sub, pe_add, wrap_u8 (show 0 ≤ ((s[n].toNat : Int) - 65) ∧ ((s[n].toNat : Int) - 65) ≤ 255 by omega), wrap_u8 (show 0 ≤ ((s[n].toNat : Int) - 65 + 97) ∧ ((s[n].toNat : Int) - 65 + 97) ≤ 255 by omega), e6]
      refine LoopPost.next (n + 1) rfl ⟨hlt, ?_⟩ (by omega)
      rw [halfLow_succ hlt, List.map_set]
      have e7 : byteV (lowerByte s[n]) = .int .u8 ((s[n].toNat : Int) - 65 + 97) := by
        unfold byteV; rw [lowerByte_up hup]; congr 1; omega
      rw [e7]
    · have hno : ¬ (65 ≤ s[n].toNat ∧ s[n].toNat ≤ 90) := by omega
      refine LoopPost.next (n + 1) rfl ⟨hlt, ?_⟩ (by omega)
      rw [halfLow_succ hlt, lowerByte_no hno, set_same (halfLow_at hlt)]
  · have i1 : ¬ (n : Int) < (s.length : Int) := by omega
    have en : n = s.length := by omega
    subst en
    have e8 : hfrz [.cells ((halfLow s s.length).map byteV)] (.msl 0 0 s.length 1) = some ([.dead], .sl 1 (rowsOf (lower s))) := by
      have hl : (lower s).length = s.length := by simp [lower]
      rw [halfLow_all]
      simp only [hfrz, List.getElem?_cons_zero]
      rw [if_pos (by simp [hl])]
      rw [rowsFrom_bytes (lower s) s.length 0 (by omega)]
      simp
    simp only [amS, Nat.reduceAdd, Nat.reduceLeDiff, Nat.reduceEqDiff, ↓reduceIte, reduceCtorEq, fillAt, targetOf, i1, not_false_eq_true, true_implies, false_implies, e8, IsSl.b2s (s := lower s) .mk]
end Go.Am
