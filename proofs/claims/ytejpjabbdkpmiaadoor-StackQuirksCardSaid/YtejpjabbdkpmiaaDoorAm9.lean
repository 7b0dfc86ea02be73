/-
  Simulation of operations, second part: the pure operations that leave the world alone. No law is claimed here.
-/
import Derived.Test.YtejpjabbdkpmiaaDoorAm8
import Derived.Laws.Strings
import Derived.Laws.StructEq
set_option linter.unusedSimpArgs false
set_option linter.unusedVariables false
namespace Go.Am
open Go

theorem semPure_eq {s : Sem Value} {v : Value} (h : semPure s = some v) : s = .pure v := by
  cases s <;> simp [semPure] at h
  subst h; rfl

section
variable {P : Program} {γ : Gh} {w : World}

theorem run_pop_int {op : BinOp} {k l : IntKind} {x y : Int} {u : AVal} (t : TypeId) (ox oy : Operand) (h : intOp op k x l y = some u) :
    ∃ v, (do eqGuard op t ox oy (.int k x) (.int l y); binOp op t (.int k x) (.int l y) : Sem Value).run P w = .ok v w ∧ VRel γ u v := by
  unfold intOp at h
  cases hs : semPure (binOp op 0 (.int k x) (.int l y)) with
  | none => rw [hs] at h; cases h
  | some v =>
    rw [hs] at h
    have e1 := semPure_eq hs
    have e2 : binOp op t (.int k x) (.int l y) = .pure v := by
      rw [← e1]; cases op <;> rfl
    have e3 : eqGuard op t ox oy (.int k x) (.int l y) = pure () := by cases op <;> rfl
    refine ⟨v, by rw [e3, e2]; rfl, ?_⟩
    simp only [Option.bind_some] at h
    split at h <;> cases h <;> rfl

theorem data_mk (l : List UInt8) : (ByteArray.mk ⟨l⟩).toList = l := ByteArray.toList_mk l

theorem run_pop_str {op : BinOp} {x y : Bytes} {u : AVal} (t : TypeId) (ox oy : Operand) (h : strOp op x y = some u) :
    ∃ v, (do eqGuard op t ox oy (.string ⟨⟨x⟩⟩) (.string ⟨⟨y⟩⟩); binOp op t (.string ⟨⟨x⟩⟩) (.string ⟨⟨y⟩⟩) : Sem Value).run P w = .ok v w ∧ VRel γ u v := by
  have e3 : eqGuard op t ox oy (.string ⟨⟨x⟩⟩) (.string ⟨⟨y⟩⟩) = pure () := by cases op <;> rfl
  have e2 : binOp op t (.string ⟨⟨x⟩⟩) (.string ⟨⟨y⟩⟩) = Op.stringOp op ⟨⟨x⟩⟩ ⟨⟨y⟩⟩ := by cases op <;> rfl
  rw [e3, e2]
  unfold strOp at h
  cases op <;> simp only at h <;> first
    | cases h; done
    | (simp only [Op.stringOp, data_mk]; cases h; exact ⟨_, rfl, rfl⟩)
    | (split at h
       · rename_i hle
         cases h
         have hc : ¬ ((((ByteArray.mk ⟨x⟩).size + (ByteArray.mk ⟨y⟩).size : Nat) : Int) > IntKind.i64.max) := by
           have e1 : (ByteArray.mk ⟨x⟩).size = x.length := rfl
           have e2 : (ByteArray.mk ⟨y⟩).size = y.length := rfl
           rw [e1, e2]
           have : IntKind.i64.max = 9223372036854775807 := by decide
           rw [this]
           omega
         simp only [Op.stringOp, if_neg hc]
         refine ⟨_, rfl, ?_⟩
         show Value.string _ = Value.string _
         first
           | (congr 1; done)
           | (congr 1; apply ByteArray.ext; simp)
       · cases h)

theorem isAgg_none {t : TypeId} (h : tyShape P t = some none) : (isAgg t).run P w = .ok false w := by
  unfold tyShape at h
  split at h
  · cases hs : tySize P t <;> rw [hs] at h <;> cases h
  · cases hs : tySize P t <;> rw [hs] at h <;> cases h
  · rename_i d h1 h2 hu
    simp only [isAgg, Sem.run_bind, run_underlying hu, Result.andThen_ok]
    rfl
  · cases h

theorem isAgg_some {t : TypeId} {n : Nat} (h : tyShape P t = some (some n)) : (isAgg t).run P w = .ok true w ∧ tySize P t = some n := by
  unfold tyShape at h
  split at h
  · rename_i fs hu
    cases hs : tySize P t with
    | none => rw [hs] at h; cases h
    | some m => rw [hs] at h; cases h; exact ⟨by simp [isAgg, run_underlying hu], rfl⟩
  · rename_i fs _ hu
    cases hs : tySize P t with
    | none => rw [hs] at h; cases h
    | some m => rw [hs] at h; cases h; exact ⟨by simp [isAgg, run_underlying hu], rfl⟩
  · cases h
  · cases h

theorem run_sizeOf {t : TypeId} {n : Nat} (h : tySize P t = some n) : (sizeOf t).run P w = .ok n w := by
  unfold tySize at h
  cases hi : P.info? t with
  | none => rw [hi] at h; cases h
  | some i => rw [hi] at h; cases h; simp [sizeOf, typeInfo, hi]

/-- A part of an aggregate. -/
theorem run_part {t : TypeId} {sh : Option Nat} {cs : List AVal} {us : Array Value} {off : Nat} {u : AVal} (hsh : tyShape P t = some sh) (hr : VRelV γ cs us.toList) (h1 : ∀ v ∈ us.toList, v.oneCell' = true)
    (hp : partOf cs off sh = some u) : ∃ v, (part t us off).run P w = .ok v w ∧ VRel γ u v := by
  cases sh with
  | none =>
    replace hp : cs[off]? = some u := hp
    obtain ⟨v, hv, hrel⟩ := hr.get hp
    refine ⟨v, ?_, hrel⟩
    have hv' : us[off]? = some v := by simpa using hv
    simp [part, isAgg_none hsh, hv']
  | some n =>
    obtain ⟨ha, hs⟩ := isAgg_some (w := w) hsh
    replace hp : (if off + n ≤ cs.length then some (AVal.agg ((cs.drop off).take n)) else none) = some u := hp
    split at hp
    · cases hp
      refine ⟨.agg (us.extract off (off + n)), by simp [part, ha, run_sizeOf hs], us.extract off (off + n), rfl, ?_, ?_⟩
      · have := (hr.drop off).take n
        simpa [Array.toList_extract, List.extract_eq_take_drop] using this
      · intro v hv
        refine h1 v ?_
        rw [Array.toList_extract, List.extract_eq_take_drop] at hv
        exact List.mem_of_mem_drop (List.mem_of_mem_take hv)
    · cases hp
end
end Go.Am
