/-
  The specification's lists of words: what Has and Word return. No law is claimed here.
-/
import Derived.Test.YtejpjabbdkpmiaaDoorAm32
import Derived.Test.YtejpjabbdkpmiaaDoorKinds
namespace Go.Am
open Go
set_option maxRecDepth 100000
set_option linter.unusedSimpArgs false
set_option linter.unusedVariables false

theorem f157 (s : Bytes) (c : UInt8) (hs : s.length < 9223372036854775807) : PRet cx 157 [.str s, .int .u8 (c.toNat : Int)] (.bool (decide (c ∈ s))) := by
  rw [wout, t157_eq, t157]
  refine W_loop_st (fun n : Nat => [.bool false, .int .i64 (n : Int)]) (fun n _ => n ≤ s.length ∧ c ∉ s.take n) (fun n => s.length - n) 0 rfl ⟨Nat.zero_le _, by simp⟩ ?_
  rintro n h ⟨hn, hc⟩
  rcases Nat.lt_or_ge n s.length with hlt | hge
  · simp only [amS, Nat.reduceAdd, Nat.reduceLeDiff, Nat.reduceEqDiff, ↓reduceIte, reduceCtorEq, fillAt, targetOf, pe_sidx_nat hlt, pe_inc (show n < 9223372036854775807 by omega)]
    refine ⟨fun _ => ⟨fun he => ?_, fun he => ?_⟩, fun h => absurd (Int.ofNat_lt.2 hlt) h⟩
    · have e : s[n] = c := by rw [← UInt8.toNat_inj]; exact Int.ofNat.inj he
      simp only [decide_eq_true (show c ∈ s from e ▸ List.getElem_mem hlt)]
    · refine LoopPost.next (n + 1) rfl ⟨hlt, ?_⟩ (by omega)
      rw [List.take_succ_eq_append_getElem hlt, List.mem_append, not_or]
      refine ⟨hc, fun h => he ?_⟩
      rw [List.mem_singleton] at h
      rw [← h]
  · simp only [amS, Nat.reduceAdd, Nat.reduceLeDiff, Nat.reduceEqDiff, ↓reduceIte, reduceCtorEq, fillAt, targetOf]
    refine ⟨fun h => absurd (Int.ofNat_lt.1 h) (by omega), fun _ => ?_⟩
    rw [List.take_of_length_le hge] at hc
    simp [hc]

/-- The words of a list, the first of which has begun. -/
def wordsFrom : Bytes → Bytes → List Bytes
  | cur, [] => [cur]
  | cur, c :: r => if c = 32 then cur :: wordsFrom [] r else wordsFrom (cur ++ [c]) r

theorem wordsFrom_nil {cur : Bytes} : wordsFrom cur [] = [cur] := by unfold wordsFrom; rfl
theorem wordsFrom_cons {cur r : Bytes} {c : UInt8} : wordsFrom cur (c :: r) = if c = 32 then cur :: wordsFrom [] r else wordsFrom (cur ++ [c]) r := by rw [wordsFrom]

/-- What Word returns. -/
def isWord (l s : Bytes) : Bool := decide (s ≠ [] ∧ (32 : UInt8) ∉ s ∧ s ∈ wordsFrom [] l)

theorem drop_cut {s : Bytes} {a n : Nat} (ha : a ≤ n) (hn : n < s.length) : (s.take (n + 1)).drop a = (s.take n).drop a ++ [s[n]] := by
  rw [List.take_succ_eq_append_getElem hn, List.drop_append_of_le_length (by simp; omega)]

theorem f109 (l s : Bytes) (hl : l.length < 9223372036854775806) (hs : s.length < 9223372036854775807) : PRet cx 109 [.str l, .str s] (.bool (isWord l s)) := by
  rw [wout, t109_eq, t109]
  have h157 : PRet cx 157 [.str s, .int .u8 32] (.bool (decide ((32 : UInt8) ∈ s))) := f157 s 32 hs
  simp only [amS, Nat.reduceAdd, Nat.reduceLeDiff, Nat.reduceEqDiff, ↓reduceIte, reduceCtorEq, fillAt, targetOf, h157.pcall rfl rfl]
  refine ⟨fun h => by simp [isWord, h], fun h0 => ⟨fun h => by simp [isWord, h], fun h1 => ?_⟩⟩
  refine W_loop_st (fun p : Nat × Nat => [.bool false, .int .i64 (p.1 : Int), .int .i64 (p.2 : Int)])
    (fun p _ => (p.1 ≤ p.2 ∧ p.2 ≤ l.length ∧ (s ∈ wordsFrom [] l ↔ s ∈ wordsFrom ((l.take p.2).drop p.1) (l.drop p.2))) ∨ (p.2 = l.length + 1 ∧ s ∉ wordsFrom [] l)) (fun p => l.length + 1 - p.2) (0, 0) rfl (.inl ⟨Nat.le_refl _, Nat.zero_le _, by simp⟩) ?_
  rintro ⟨a, n⟩ h hinv
  rcases hinv with ⟨hab, hn, hiff⟩ | ⟨hn, hno⟩
  · simp only at hab hn hiff
    have i1 : (n : Int) ≤ (l.length : Int) := by omega
    rcases Nat.lt_or_ge n l.length with hlt | hge
    · have i2 : ¬ (n : Int) = (l.length : Int) := by omega
      simp only [amS, Nat.reduceAdd, Nat.reduceLeDiff, Nat.reduceEqDiff, ↓reduceIte, reduceCtorEq, fillAt, targetOf, i1, i2, not_true_eq_false, not_false_eq_true, forall_const, false_implies, true_implies, pe_sidx_nat hlt, pe_inc (show n < 9223372036854775807 by omega), pe_slc_str hab hn]
      rw [List.drop_eq_getElem_cons hlt, wordsFrom_cons] at hiff
      refine ⟨fun he => ?_, fun he => ?_⟩
      · have e : l[n] = 32 := by rw [← UInt8.toNat_inj]; exact Int.ofNat.inj he
        rw [if_pos e, List.mem_cons] at hiff
        refine ⟨fun hw => ?_, fun hw => ?_⟩
        · have : s ∈ wordsFrom [] l := hiff.2 (.inl hw.symm)
          simp [isWord, h0, h1, this]
        · refine LoopPost.next (n + 1, n + 1) rfl (.inl ⟨Nat.le_refl _, hlt, ?_⟩) (by simp only; omega)
          rw [hiff, List.drop_take_self]
          exact ⟨fun h => h.resolve_left (fun h => hw h.symm), .inr⟩
      · have e : ¬ l[n] = 32 := fun e => he (by rw [e]; rfl)
        rw [if_neg e] at hiff
        refine LoopPost.next (a, n + 1) rfl (.inl ⟨by simp only; omega, hlt, ?_⟩) (by simp only; omega)
        rw [hiff, drop_cut hab hlt]
    · have e : n = l.length := by omega
      subst e
      simp only [amS, Nat.reduceAdd, Nat.reduceLeDiff, Nat.reduceEqDiff, ↓reduceIte, reduceCtorEq, fillAt, targetOf, Int.le_refl, not_true_eq_false, false_implies, true_implies, pe_slc_str hab hn, pe_inc (show l.length < 9223372036854775807 by omega)]
      rw [List.drop_of_length_le (Nat.le_refl _), wordsFrom_nil] at hiff
      rw [List.mem_singleton] at hiff
      refine ⟨fun hw => ?_, fun hw => ?_⟩
      · have : s ∈ wordsFrom [] l := hiff.2 hw.symm
        simp [isWord, h0, h1, this]
      · exact LoopPost.next (l.length + 1, l.length + 1) rfl (.inr ⟨rfl, fun h => hw (hiff.1 h).symm⟩) (by simp only; omega)
  · simp only at hn
    subst hn
    have i1 : ¬ ((l.length + 1 : Nat) : Int) ≤ (l.length : Int) := by omega
    simp only [amS, Nat.reduceAdd, Nat.reduceLeDiff, Nat.reduceEqDiff, ↓reduceIte, reduceCtorEq, fillAt, targetOf, i1, not_false_eq_true, false_implies, true_implies]
    simp [isWord, hno]
end Go.Am
