/-
  Adjusted names: what the program's adjusted and the specification's return. No law is claimed here.
-/
import Derived.Test.YtejpjabbdkpmiaaDoorLower
namespace Go.Am
open Go
set_option maxRecDepth 100000
set_option linter.unusedSimpArgs false
set_option linter.unusedVariables false

/-- The first of some words that is, in lower case, a name; or the name. -/
def adjustedIn (name : Bytes) : List Bytes → Bytes
  | [] => name
  | w :: ws => if lower w = name then w else adjustedIn name ws

def strRow (w : Bytes) : List AVal := [.str w]
def FieldsOk (l : Bytes) (ws : List Bytes) : Prop := Ev cx 160 [.str l] [] fun r _ => r = .sl 1 (ws.map strRow)
theorem fields_of_run {l : Bytes} {ws : List Bytes} (n : Nat) (hr : (IT.run tab n (tab 160 [.str l]) []).map (fun x => (x.1, x.2.1)) = some (.ret, [.sl 1 (ws.map strRow)])) : FieldsOk l ws := by
  obtain ⟨⟨x, vs, h⟩, e1, e2⟩ := Option.map_eq_some_iff.1 hr
  cases e2
  rw [tab_eq] at e1
  exact ⟨n, _, _, _, e1, rfl, _, rfl, rfl⟩

theorem f116 {l : Bytes} {ws : List Bytes} (hf : FieldsOk l ws) (hw : ∀ w ∈ ws, w.length ≤ maxBytes) (hn : ws.length < 9223372036854775807) (name : Bytes) : PRet cx 116 [.str name, .str l] (.str (adjustedIn name ws)) := by
  rw [wout, t116_eq, t116]
  refine W_call (hf.mono fun r h1 e => ?_)
  subst e
  have hsl : IsSl 1 (ws.map strRow) (.sl 1 (ws.map strRow)) := .mk
  simp only [amS, Nat.reduceAdd, Nat.reduceLeDiff, Nat.reduceEqDiff, ↓reduceIte, reduceCtorEq, fillAt, targetOf, hsl.len]
  refine W_loop_st (fun n : Nat => [.str [], .int .i64 (n : Int)]) (fun n _ => n ≤ ws.length ∧ adjustedIn name ws = adjustedIn name (ws.drop n)) (fun n => ws.length - n) 0 rfl ⟨Nat.zero_le _, rfl⟩ ?_
  rintro n h ⟨hn', ha⟩
  rcases Nat.lt_or_ge n ws.length with hlt | hge
  · have i1 : (n : Int) < ((ws.map strRow).length : Int) := by simp; omega
    have hlt' : n < (ws.map strRow).length := by simpa using hlt
    have e1 : (ws.map strRow)[n] = [.str ws[n]] := by simp [strRow]
    rw [List.drop_eq_getElem_cons hlt, adjustedIn] at ha
    simp only [amS, Nat.reduceAdd, Nat.reduceLeDiff, Nat.reduceEqDiff, ↓reduceIte, reduceCtorEq, fillAt, targetOf, i1, not_true_eq_false, true_implies, false_implies, hsl.eaddr hlt', e1, (f158 ws[n] (hw _ (List.getElem_mem hlt))).pcall rfl rfl, pe_inc (show n < 9223372036854775807 by omega)]
    refine ⟨fun he => ?_, fun he => ?_⟩
    · rw [ha, if_pos he]
    · rw [if_neg he] at ha
      exact LoopPost.next (n + 1) rfl ⟨hlt, ha⟩ (by omega)
  · have i1 : ¬ (n : Int) < ((ws.map strRow).length : Int) := by simp; omega
    rw [List.drop_of_length_le hge, adjustedIn] at ha
    simp only [amS, Nat.reduceAdd, Nat.reduceLeDiff, Nat.reduceEqDiff, ↓reduceIte, reduceCtorEq, fillAt, targetOf, i1, not_false_eq_true, true_implies, false_implies, ha]

theorem f117 (l name : Bytes) (hl : l.length ≤ maxBytes) : PRet cx 117 [.str l, .str name] (.str (adjustedIn name (wordsFrom [] l))) := by
  have hl' : l.length ≤ 140737488355328 := hl
  rw [wout, t117_eq, t117]
  refine W_loop_st (fun p : Nat × Nat => [.str [], .int .i64 (p.1 : Int), .int .i64 (p.2 : Int)])
    (fun p _ => (p.1 ≤ p.2 ∧ p.2 ≤ l.length ∧ adjustedIn name (wordsFrom [] l) = adjustedIn name (wordsFrom ((l.take p.2).drop p.1) (l.drop p.2))) ∨ (p.2 = l.length + 1 ∧ adjustedIn name (wordsFrom [] l) = name)) (fun p => l.length + 1 - p.2) (0, 0) rfl (.inl ⟨Nat.le_refl _, Nat.zero_le _, by simp⟩) ?_
  rintro ⟨a, n⟩ h hinv
  rcases hinv with ⟨hab, hn, ha⟩ | ⟨hn, hno⟩
  · simp only at hab hn ha
    have i1 : (n : Int) ≤ (l.length : Int) := by omega
    have hsub : ((l.take n).drop a).length ≤ maxBytes := by simp [maxBytes]; omega
    rcases Nat.lt_or_ge n l.length with hlt | hge
    · have i2 : ¬ (n : Int) = (l.length : Int) := by omega
      simp only [amS, Nat.reduceAdd, Nat.reduceLeDiff, Nat.reduceEqDiff, ↓reduceIte, reduceCtorEq, fillAt, targetOf, i1, i2, not_true_eq_false, not_false_eq_true, false_implies, true_implies, pe_sidx_nat hlt, pe_inc (show n < 9223372036854775807 by omega), pe_slc_str hab hn, (f113 _ hsub).pcall rfl rfl]
      rw [List.drop_eq_getElem_cons hlt, wordsFrom_cons] at ha
      refine ⟨fun he => ?_, fun he => ?_⟩
      · have e : l[n] = 32 := by rw [← UInt8.toNat_inj]; exact Int.ofNat.inj he
        rw [if_pos e, adjustedIn] at ha
        refine ⟨fun hw => ?_, fun hw => ?_⟩
        · rw [ha, if_pos hw]
        · rw [if_neg hw] at ha
          refine LoopPost.next (n + 1, n + 1) rfl (.inl ⟨Nat.le_refl _, hlt, ?_⟩) (by simp only; omega)
          rw [ha, List.drop_take_self]
      · have e : ¬ l[n] = 32 := fun e => he (by rw [e]; rfl)
        rw [if_neg e] at ha
        refine LoopPost.next (a, n + 1) rfl (.inl ⟨by simp only; omega, hlt, ?_⟩) (by simp only; omega)
        rw [ha, drop_cut hab hlt]
    · have e : n = l.length := by omega
      subst e
      simp only [amS, Nat.reduceAdd, Nat.reduceLeDiff, Nat.reduceEqDiff, ↓reduceIte, reduceCtorEq, fillAt, targetOf, Int.le_refl, not_true_eq_false, false_implies, true_implies, pe_slc_str hab hn, pe_inc (show l.length < 9223372036854775807 by omega), (f113 _ hsub).pcall rfl rfl]
      rw [List.drop_of_length_le (Nat.le_refl _), wordsFrom_nil, adjustedIn, adjustedIn] at ha
      refine ⟨fun hw => ?_, fun hw => ?_⟩
      · rw [ha, if_pos hw]
      · rw [if_neg hw] at ha
        exact LoopPost.next (l.length + 1, l.length + 1) rfl (.inr ⟨rfl, ha⟩) (by simp only; omega)
  · simp only at hn
    subst hn
    have i1 : ¬ ((l.length + 1 : Nat) : Int) ≤ (l.length : Int) := by omega
    simp only [amS, Nat.reduceAdd, Nat.reduceLeDiff, Nat.reduceEqDiff, ↓reduceIte, reduceCtorEq, fillAt, targetOf, i1, not_false_eq_true, false_implies, true_implies, hno]

def cSvgNames : Bytes := [97,108,116,71,108,121,112,104,32,97,108,116,71,108,121,112,104,68,101,102,32,97,108,116,71,108,121,112,104,73,116,101,109,32,97,110,105,109,97,116,101,67,111,108,111,114,32,97,110,105,109,97,116,101,77,111,116,105,111,110,32,97,110,105,109,97,116,101,84,114,97,110,115,102,111,114,109,32,99,108,105,112,80,97,116,104,32,102,101,66,108,101,110,100,32,102,101,67,111,108,111,114,77,97,116,114,105,120,32,102,101,67,111,109,112,111,110,101,110,116,84,114,97,110,115,102,101,114,32,102,101,67,111,109,112,111,115,105,116,101,32,102,101,67,111,110,118,111,108,118,101,77,97,116,114,105,120,32,102,101,68,105,102,102,117,115,101,76,105,103,104,116,105,110,103,32,102,101,68,105,115,112,108,97,99,101,109,101,110,116,77,97,112,32,102,101,68,105,115,116,97,110,116,76,105,103,104,116,32,102,101,68,114,111,112,83,104,97,100,111,119,32,102,101,70,108,111,111,100,32,102,101,70,117,110,99,65,32,102,101,70,117,110,99,66,32,102,101,70,117,110,99,71,32,102,101,70,117,110,99,82,32,102,101,71,97,117,115,115,105,97,110,66,108,117,114,32,102,101,73,109,97,103,101,32,102,101,77,101,114,103,101,32,102,101,77,101,114,103,101,78,111,100,101,32,102,101,77,111,114,112,104,111,108,111,103,121,32,102,101,79,102,102,115,101,116,32,102,101,80,111,105,110,116,76,105,103,104,116,32,102,101,83,112,101,99,117,108,97,114,76,105,103,104,116,105,110,103,32,102,101,83,112,111,116,76,105,103,104,116,32,102,101,84,105,108,101,32,102,101,84,117,114,98,117,108,101,110,99,101,32,102,111,114,101,105,103,110,79,98,106,101,99,116,32,103,108,121,112,104,82,101,102,32,108,105,110,101,97,114,71,114,97,100,105,101,110,116,32,114,97,100,105,97,108,71,114,97,100,105,101,110,116,32,116,101,120,116,80,97,116,104]
def cSvgAttrs : Bytes := [97,116,116,114,105,98,117,116,101,78,97,109,101,32,97,116,116,114,105,98,117,116,101,84,121,112,101,32,98,97,115,101,70,114,101,113,117,101,110,99,121,32,98,97,115,101,80,114,111,102,105,108,101,32,99,97,108,99,77,111,100,101,32,99,108,105,112,80,97,116,104,85,110,105,116,115,32,100,105,102,102,117,115,101,67,111,110,115,116,97,110,116,32,101,100,103,101,77,111,100,101,32,102,105,108,116,101,114,85,110,105,116,115,32,103,108,121,112,104,82,101,102,32,103,114,97,100,105,101,110,116,84,114,97,110,115,102,111,114,109,32,103,114,97,100,105,101,110,116,85,110,105,116,115,32,107,101,114,110,101,108,77,97,116,114,105,120,32,107,101,114,110,101,108,85,110,105,116,76,101,110,103,116,104,32,107,101,121,80,111,105,110,116,115,32,107,101,121,83,112,108,105,110,101,115,32,107,101,121,84,105,109,101,115,32,108,101,110,103,116,104,65,100,106,117,115,116,32,108,105,109,105,116,105,110,103,67,111,110,101,65,110,103,108,101,32,109,97,114,107,101,114,72,101,105,103,104,116,32,109,97,114,107,101,114,85,110,105,116,115,32,109,97,114,107,101,114,87,105,100,116,104,32,109,97,115,107,67,111,110,116,101,110,116,85,110,105,116,115,32,109,97,115,107,85,110,105,116,115,32,110,117,109,79,99,116,97,118,101,115,32,112,97,116,104,76,101,110,103,116,104,32,112,97,116,116,101,114,110,67,111,110,116,101,110,116,85,110,105,116,115,32,112,97,116,116,101,114,110,84,114,97,110,115,102,111,114,109,32,112,97,116,116,101,114,110,85,110,105,116,115,32,112,111,105,110,116,115,65,116,88,32,112,111,105,110,116,115,65,116,89,32,112,111,105,110,116,115,65,116,90,32,112,114,101,115,101,114,118,101,65,108,112,104,97,32,112,114,101,115,101,114,118,101,65,115,112,101,99,116,82,97,116,105,111,32,112,114,105,109,105,116,105,118,101,85,110,105,116,115,32,114,101,102,88,32,114,101,102,89,32,114,101,112,101,97,116,67,111,117,110,116,32,114,101,112,101,97,116,68,117,114,32,114,101,113,117,105,114,101,100,69,120,116,101,110,115,105,111,110,115,32,114,101,113,117,105,114,101,100,70,101,97,116,117,114,101,115,32,115,112,101,99,117,108,97,114,67,111,110,115,116,97,110,116,32,115,112,101,99,117,108,97,114,69,120,112,111,110,101,110,116,32,115,112,114,101,97,100,77,101,116,104,111,100,32,115,116,97,114,116,79,102,102,115,101,116,32,115,116,100,68,101,118,105,97,116,105,111,110,32,115,116,105,116,99,104,84,105,108,101,115,32,115,117,114,102,97,99,101,83,99,97,108,101,32,115,121,115,116,101,109,76,97,110,103,117,97,103,101,32,116,97,98,108,101,86,97,108,117,101,115,32,116,97,114,103,101,116,88,32,116,97,114,103,101,116,89,32,116,101,120,116,76,101,110,103,116,104,32,118,105,101,119,66,111,120,32,118,105,101,119,84,97,114,103,101,116,32,120,67,104,97,110,110,101,108,83,101,108,101,99,116,111,114,32,121,67,104,97,110,110,101,108,83,101,108,101,99,116,111,114,32,122,111,111,109,65,110,100,80,97,110]
theorem words_svgNames : wordsFrom [] cSvgNames = rSvgNames := by decide +kernel
theorem words_svgAttrs : wordsFrom [] cSvgAttrs = rSvgAttrs := by decide +kernel
theorem fields_svgNames : FieldsOk cSvgNames rSvgNames := fields_of_run 5000 (by kernel_rfl)
theorem fields_svgAttrs : FieldsOk cSvgAttrs rSvgAttrs := fields_of_run 5000 (by kernel_rfl)
theorem f64 (s : Bytes) : PRet cx 64 [.str s] (.str (adjustedIn s rSvgNames)) := by
  rw [wout, t64_eq, show t64 (.str s) = .pcall 116 [.str s, .str cSvgNames] fun v => .ret .ret [v] from rfl]
  rw [(f116 (l := cSvgNames) fields_svgNames (by decide +kernel) (by decide +kernel) s).pcall rfl rfl]
  simp only [amS, Nat.reduceAdd, Nat.reduceLeDiff, Nat.reduceEqDiff, ↓reduceIte, reduceCtorEq, fillAt, targetOf]
theorem f65 (s : Bytes) : PRet cx 65 [.str s] (.str (adjustedIn s rSvgNames)) := by
  rw [wout, t65_eq, show t65 (.str s) = .pcall 117 [.str cSvgNames, .str s] fun v => .ret .ret [v] from rfl]
  rw [(f117 cSvgNames s (by decide +kernel)).pcall rfl rfl, words_svgNames]
  simp only [amS, Nat.reduceAdd, Nat.reduceLeDiff, Nat.reduceEqDiff, ↓reduceIte, reduceCtorEq, fillAt, targetOf]
theorem f141 (s : Bytes) : PRet cx 141 [.str s] (.str (adjustedIn s rSvgAttrs)) := by
  rw [wout, t141_eq, show t141 (.str s) = .pcall 116 [.str s, .str cSvgAttrs] fun v => .ret .ret [v] from rfl]
  rw [(f116 (l := cSvgAttrs) fields_svgAttrs (by decide +kernel) (by decide +kernel) s).pcall rfl rfl]
  simp only [amS, Nat.reduceAdd, Nat.reduceLeDiff, Nat.reduceEqDiff, ↓reduceIte, reduceCtorEq, fillAt, targetOf]
end Go.Am
