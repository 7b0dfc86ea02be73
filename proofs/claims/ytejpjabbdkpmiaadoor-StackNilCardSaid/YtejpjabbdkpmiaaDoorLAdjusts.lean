/-
  Adjusted attributes: what the program's Adjust and the specification's return; StackAdjusts. Written by a program. No law is claimed here.
-/
import Derived.Test.YtejpjabbdkpmiaaDoorSPlay
namespace Go.Am
open Go
set_option maxRecDepth 100000
set_option linter.unusedSimpArgs false
set_option linter.unusedVariables false

def fT : List (Bytes × Int × Bytes) := [([120,108,105,110,107,58,97,99,116,117,97,116,101], 4, [97,99,116,117,97,116,101]), ([120,108,105,110,107,58,97,114,99,114,111,108,101], 4, [97,114,99,114,111,108,101]), ([120,108,105,110,107,58,104,114,101,102], 4, [104,114,101,102]), ([120,108,105,110,107,58,114,111,108,101], 4, [114,111,108,101]), ([120,108,105,110,107,58,115,104,111,119], 4, [115,104,111,119]), ([120,108,105,110,107,58,116,105,116,108,101], 4, [116,105,116,108,101]), ([120,108,105,110,107,58,116,121,112,101], 4, [116,121,112,101]), ([120,109,108,58,108,97,110,103], 5, [108,97,110,103]), ([120,109,108,58,115,112,97,99,101], 5, [115,112,97,99,101]), ([120,109,108,110,115], 6, [120,109,108,110,115]), ([120,109,108,110,115,58,120,108,105,110,107], 6, [120,108,105,110,107])]
def fEntry (x : Bytes × Int × Bytes) : AVal × AVal := (.str x.1, .agg [.int .i64 x.2.1, .str x.2.2, .str []])
def ft (n : Nat) : List (AVal × AVal) := (fT.take n).map fEntry
theorem ft_0 : ([] : List (AVal × AVal)) = ft 0 := rfl
theorem put_0 : mput [120,108,105,110,107,58,97,99,116,117,97,116,101] (.agg [.int .i64 4, .str [97,99,116,117,97,116,101], .str []]) (ft 0) = some (ft 1) := by kernel_rfl
theorem put_1 : mput [120,108,105,110,107,58,97,114,99,114,111,108,101] (.agg [.int .i64 4, .str [97,114,99,114,111,108,101], .str []]) (ft 1) = some (ft 2) := by kernel_rfl
theorem put_2 : mput [120,108,105,110,107,58,104,114,101,102] (.agg [.int .i64 4, .str [104,114,101,102], .str []]) (ft 2) = some (ft 3) := by kernel_rfl
theorem put_3 : mput [120,108,105,110,107,58,114,111,108,101] (.agg [.int .i64 4, .str [114,111,108,101], .str []]) (ft 3) = some (ft 4) := by kernel_rfl
theorem put_4 : mput [120,108,105,110,107,58,115,104,111,119] (.agg [.int .i64 4, .str [115,104,111,119], .str []]) (ft 4) = some (ft 5) := by kernel_rfl
theorem put_5 : mput [120,108,105,110,107,58,116,105,116,108,101] (.agg [.int .i64 4, .str [116,105,116,108,101], .str []]) (ft 5) = some (ft 6) := by kernel_rfl
theorem put_6 : mput [120,108,105,110,107,58,116,121,112,101] (.agg [.int .i64 4, .str [116,121,112,101], .str []]) (ft 6) = some (ft 7) := by kernel_rfl
theorem put_7 : mput [120,109,108,58,108,97,110,103] (.agg [.int .i64 5, .str [108,97,110,103], .str []]) (ft 7) = some (ft 8) := by kernel_rfl
theorem put_8 : mput [120,109,108,58,115,112,97,99,101] (.agg [.int .i64 5, .str [115,112,97,99,101], .str []]) (ft 8) = some (ft 9) := by kernel_rfl
theorem put_9 : mput [120,109,108,110,115] (.agg [.int .i64 6, .str [120,109,108,110,115], .str []]) (ft 9) = some (ft 10) := by kernel_rfl
theorem put_10 : mput [120,109,108,110,115,58,120,108,105,110,107] (.agg [.int .i64 6, .str [120,108,105,110,107], .str []]) (ft 10) = some (ft 11) := by kernel_rfl
theorem W_mnew_ft {Q : Post} {h : AHeap} {k : AVal → IT} : W cx (.mnew k) Q h ↔ W cx (k (.map (some h.length))) Q (h ++ [.map (ft 0)]) := W_mnew_iff
theorem hmset_last {h : AHeap} {es : List (AVal × AVal)} {s : Bytes} {v : AVal} : hmset (h ++ [.map es]) (.map (some h.length)) (.str s) v = (mput s v es).map fun es => h ++ [.map es] := by
  simp [hmset]
def foreignOf (n : Bytes) : Option (Int × Bytes) := (fT.find? fun x => decide (n = x.1)).map (·.2)
theorem mfind_rows (n : Bytes) : ∀ l : List (Bytes × Int × Bytes), mfind n (l.map fEntry) = some ((l.find? fun x => decide (n = x.1)).map fun x => (fEntry x).2)
  | [] => rfl
  | x :: l => by
    rw [List.map_cons, List.find?_cons, fEntry, mfind]
    by_cases e : n = x.1
    · rw [if_pos e, decide_eq_true e]; rfl
    · rw [if_neg e, decide_eq_false e]; exact mfind_rows n l
def zAttr : AVal := .agg [.int .i64 0, .str [], .str []]
theorem hmget_ft {h : AHeap} {n : Bytes} : hmget (h ++ [.map (ft 11)]) (.agg [.int .i64 0, .str [], .str []]) true (.map (some h.length)) (.str n) =
    some (match foreignOf n with | some (s, m) => .tuple [.agg [.int .i64 s, .str m, .str []], .bool true] | none => .tuple [.agg [.int .i64 0, .str [], .str []], .bool false]) := by
  have e : hmfind (h ++ [.map (ft 11)]) (.map (some h.length)) (.str n) = mfind n (fT.map fEntry) := by
    simp [hmfind, ft, fT]
  rw [hmget, e, mfind_rows, foreignOf]
  cases fT.find? fun x => decide (n = x.1) <;> rfl

abbrev dUrl : Bytes := [100,101,102,105,110,105,116,105,111,110,117,114,108]
abbrev dURL : Bytes := [100,101,102,105,110,105,116,105,111,110,85,82,76]
def adjName (sp : Int) (n : Bytes) : Bytes := if sp = 2 then adjustedIn n rSvgAttrs else if sp = 3 ∧ n = dUrl then dURL else n
def adjAttr (sp : Int) (a : Attr) : Attr :=
  if sp = 2 ∨ sp = 3 then match foreignOf (adjName sp a.name) with
    | some (s, m) => ⟨s, m, a.value⟩
    | none => ⟨0, adjName sp a.name, a.value⟩
  else ⟨0, a.name, a.value⟩

theorem lower_length (s : Bytes) : (lower s).length = s.length := by simp [lower]
theorem adjustedIn_spec (n : Bytes) : ∀ ws, adjustedIn n ws = n ∨ (adjustedIn n ws ∈ ws ∧ lower (adjustedIn n ws) = n)
  | [] => .inl rfl
  | w :: ws => by
    rw [adjustedIn]
    split
    · rename_i e
      exact .inr ⟨List.mem_cons_self, e⟩
    · rcases adjustedIn_spec n ws with h | ⟨h1, h2⟩
      · exact .inl h
      · exact .inr ⟨List.mem_cons_of_mem _ h1, h2⟩
theorem adjustedIn_length (n : Bytes) (ws : List Bytes) : (adjustedIn n ws).length = n.length := by
  rcases adjustedIn_spec n ws with h | ⟨_, h⟩
  · rw [h]
  · rw [← lower_length, h]
theorem adjName_length (sp : Int) (n : Bytes) : (adjName sp n).length = n.length := by
  unfold adjName
  split
  · exact adjustedIn_length _ _
  · split
    · rename_i h; rw [h.2]; rfl
    · rfl

theorem attr_row3 {s : Int} {n m : Bytes} : [AVal.int .i64 s, .str n, .str m] = (Attr.mk s n m).row := rfl
theorem pe_mksl3 {a b c : AVal} : peval (.mksl 3) [.agg [a, b, c]] = some (.sl 3 [[a, b, c]]) := rfl
theorem Attr.len_row {a : Attr} : a.row.length = 3 := rfl
theorem Attr.take_row {a : Attr} : a.row.take 3 = a.row := rfl
theorem load3 {h : AHeap} {a : Attr} : hload h (some 3) (.rptr a.row) = some (.agg a.row) := rfl

section
variable {v : AVal} {l : List Attr} {h : AHeap}
set_option maxHeartbeats 1000000 in
/-- Adjust. -/
theorem f85 (hv : IsAttrs l v) (hb : l.length ≤ 1000) (sp : Int) : ∃ u, Ret cx 85 [.int .i64 sp, v] h u (h ++ [.map (ft 11)]) ∧ IsAttrs (l.map (adjAttr sp)) u := by
  have hv' : IsSl 3 (l.map Attr.row) v := hv
  have hev : Ev cx 85 [.int .i64 sp, v] h fun r h' => h' = h ++ [.map (ft 11)] ∧ IsAttrs (l.map (adjAttr sp)) r := by
    unfold Ev
    rw [t85_eq, t85]
    rw [W_mnew_ft]
    simp only [amS, Nat.reduceAdd, Nat.reduceLeDiff, Nat.reduceEqDiff, ↓reduceIte, reduceCtorEq, fillAt, targetOf, Nat.zero_lt_one, hmset_last, put_0, put_1, put_2, put_3, put_4, put_5, put_6, put_7, put_8, put_9, put_10, hv'.lenM]
    refine W_loop_st (fun p : Nat × AVal => [p.2, .int .i64 (p.1 : Int)]) (fun p h1 => p.1 ≤ l.length ∧ IsAttrs ((l.take p.1).map (adjAttr sp)) p.2 ∧ h1 = h ++ [.map (ft 11)]) (fun p => l.length - p.1) (0, .slnil) rfl ⟨Nat.zero_le _, .nil, rfl⟩ ?_
    rintro ⟨n, u⟩ h1 ⟨hn, hu, rfl⟩
    simp only at hn hu
    rcases Nat.lt_or_ge n l.length with hlt | hge
    · have i1 : (n : Int) < (l.length : Int) := by omega
      have happ : ∀ {q : List AVal}, q = (adjAttr sp l[n]).row → ∃ w, peval (.append 3 40) [u, .sl 3 [q]] = some w ∧ IsAttrs ((l.take (n + 1)).map (adjAttr sp)) w := by
        rintro _ rfl
        refine ⟨_, IsSl.app1M (f := Attr.row) (a := adjAttr sp l[n]) (b := 40) hu ?_, ?_⟩
        · simp [maxBytes]; omega
        · rw [List.take_succ_eq_append_getElem hlt, List.map_append]; exact .mk
      have inc := pe_inc (show n < 9223372036854775807 by omega)
      by_cases s2 : sp = 2
      · subst s2
        cases ef : foreignOf (adjustedIn l[n].name rSvgAttrs) with
        | some x =>
          obtain ⟨w, e3, hw⟩ := happ (q := [.int .i64 x.1, .str x.2, .str l[n].value]) (by simp only [adjAttr, adjName, true_or, if_true, ef, Attr.row])
          simp only [amS, Nat.reduceAdd, Nat.reduceLeDiff, Nat.reduceEqDiff, ↓reduceIte, reduceCtorEq, fillAt, targetOf, i1, hv'.eaddrM hlt, load3, Nat.zero_lt_one, Attr.row, (f141 _).pcall rfl rfl, not_true_eq_false, not_false_eq_true, true_implies, false_implies, hmget_ft, ef, pe_mksl3, e3, inc]
          exact LoopPost.next (n + 1, w) rfl ⟨hlt, hw, rfl⟩ (by simp only; omega)
        | none =>
          obtain ⟨w, e3, hw⟩ := happ (q := [.int .i64 0, .str (adjustedIn l[n].name rSvgAttrs), .str l[n].value]) (by simp only [adjAttr, adjName, true_or, if_true, ef, Attr.row])
          simp only [amS, Nat.reduceAdd, Nat.reduceLeDiff, Nat.reduceEqDiff, ↓reduceIte, reduceCtorEq, fillAt, targetOf, i1, hv'.eaddrM hlt, load3, Nat.zero_lt_one, Attr.row, (f141 _).pcall rfl rfl, not_true_eq_false, not_false_eq_true, true_implies, false_implies, hmget_ft, ef, pe_mksl3, e3, inc]
          exact LoopPost.next (n + 1, w) rfl ⟨hlt, hw, rfl⟩ (by simp only; omega)
      by_cases s3 : sp = 3
      · subst s3
        by_cases hd : l[n].name = dUrl
        · have ef : foreignOf dURL = none := by decide
          obtain ⟨w, e3, hw⟩ := happ (q := [.int .i64 0, .str dURL, .str l[n].value]) (by simp only [adjAttr, adjName, hd, or_true, if_true, if_false, ef, Attr.row, and_self, s2])
          simp only [amS, Nat.reduceAdd, Nat.reduceLeDiff, Nat.reduceEqDiff, ↓reduceIte, reduceCtorEq, fillAt, targetOf, i1, hv'.eaddrM hlt, load3, Nat.zero_lt_one, Attr.row, hd, show ¬ (3 : Int) = 2 by decide, not_true_eq_false, not_false_eq_true, true_implies, false_implies, hmget_ft, ef, pe_mksl3, e3, inc]
          exact LoopPost.next (n + 1, w) rfl ⟨hlt, hw, rfl⟩ (by simp only; omega)
        · cases ef : foreignOf l[n].name with
          | some x =>
            obtain ⟨w, e3, hw⟩ := happ (q := [.int .i64 x.1, .str x.2, .str l[n].value]) (by simp only [adjAttr, adjName, hd, or_true, if_true, if_false, ef, Attr.row, and_false, s2])
            simp only [amS, Nat.reduceAdd, Nat.reduceLeDiff, Nat.reduceEqDiff, ↓reduceIte, reduceCtorEq, fillAt, targetOf, i1, hv'.eaddrM hlt, load3, Nat.zero_lt_one, Attr.row, hd, show ¬ (3 : Int) = 2 by decide, not_true_eq_false, not_false_eq_true, true_implies, false_implies, hmget_ft, ef, pe_mksl3, e3, inc]
            exact LoopPost.next (n + 1, w) rfl ⟨hlt, hw, rfl⟩ (by simp only; omega)
          | none =>
            obtain ⟨w, e3, hw⟩ := happ (q := [.int .i64 0, .str l[n].name, .str l[n].value]) (by simp only [adjAttr, adjName, hd, or_true, if_true, if_false, ef, Attr.row, and_false, s2])
            simp only [amS, Nat.reduceAdd, Nat.reduceLeDiff, Nat.reduceEqDiff, ↓reduceIte, reduceCtorEq, fillAt, targetOf, i1, hv'.eaddrM hlt, load3, Nat.zero_lt_one, Attr.row, hd, show ¬ (3 : Int) = 2 by decide, not_true_eq_false, not_false_eq_true, true_implies, false_implies, hmget_ft, ef, pe_mksl3, e3, inc]
            exact LoopPost.next (n + 1, w) rfl ⟨hlt, hw, rfl⟩ (by simp only; omega)
      · obtain ⟨w, e3, hw⟩ := happ (q := [.int .i64 0, .str l[n].name, .str l[n].value]) (by simp only [adjAttr, s2, s3, or_self, if_false, Attr.row])
        cases ef : foreignOf l[n].name with
        | some x =>
          simp only [amS, Nat.reduceAdd, Nat.reduceLeDiff, Nat.reduceEqDiff, ↓reduceIte, reduceCtorEq, fillAt, targetOf, i1, hv'.eaddrM hlt, load3, Nat.zero_lt_one, Attr.row, s2, s3, not_true_eq_false, not_false_eq_true, true_implies, false_implies, hmget_ft, ef, pe_mksl3, e3, inc]
          exact LoopPost.next (n + 1, w) rfl ⟨hlt, hw, rfl⟩ (by simp only; omega)
        | none =>
          simp only [amS, Nat.reduceAdd, Nat.reduceLeDiff, Nat.reduceEqDiff, ↓reduceIte, reduceCtorEq, fillAt, targetOf, i1, hv'.eaddrM hlt, load3, Nat.zero_lt_one, Attr.row, s2, s3, not_true_eq_false, not_false_eq_true, true_implies, false_implies, hmget_ft, ef, pe_mksl3, e3, inc]
          exact LoopPost.next (n + 1, w) rfl ⟨hlt, hw, rfl⟩ (by simp only; omega)
    · have i1 : ¬ (n : Int) < (l.length : Int) := by omega
      rw [List.take_of_length_le hge] at hu
      simp only [amS, Nat.reduceAdd, Nat.reduceLeDiff, Nat.reduceEqDiff, ↓reduceIte, reduceCtorEq, fillAt, targetOf, i1, not_false_eq_true, true_implies, false_implies]
      exact ⟨_, rfl, hu⟩
  obtain ⟨r, h', hr, rfl, hu⟩ := hev.ret
  exact ⟨r, hr, hu⟩

/-- Same attributes. -/
theorem attr_neq {a b : Attr} {neg : Bool} : peval (.geq neg [.i, .s, .s]) [.agg a.row, .agg b.row] = some (.bool (decide (a = b) != neg)) := by
  rw [pe_geq_agg]
  have : flatEqs [.i, .s, .s] a.row b.row = some (decide (a = b)) := by
    simp only [flatEqs, flatEq, Attr.row, if_true, Option.some.injEq]
    cases a; cases b
    simp only [Attr.mk.injEq]
    rw [Bool.eq_iff_iff]
    simp
  rw [this]; rfl
theorem f86 {w : AVal} {l2 : List Attr} (hv : IsAttrs l v) (hw : IsAttrs l2 w) (hb : l.length ≤ 100000) : Ret cx 86 [v, w] h (.bool (decide (l = l2))) h := by
  have hv' : IsSl 3 (l.map Attr.row) v := hv
  have hw' : IsSl 3 (l2.map Attr.row) w := hw
  rw [ret_iff, t86_eq, t86]
  simp only [amS, Nat.reduceAdd, Nat.reduceLeDiff, Nat.reduceEqDiff, ↓reduceIte, reduceCtorEq, fillAt, targetOf, hv'.lenM, hw'.lenM]
  refine ⟨fun h0 => ?_, fun h0 => ?_⟩
  · have : l ≠ l2 := fun e => h0 (by rw [e])
    simp [this]
  · have hlen : l.length = l2.length := by omega
    refine W_loop_st (fun n : Nat => [.bool false, .int .i64 (n : Int)]) (fun n h1 => n ≤ l.length ∧ l.take n = l2.take n ∧ h1 = h) (fun n => l.length - n) 0 rfl ⟨Nat.zero_le _, rfl, rfl⟩ ?_
    rintro n h1 ⟨hn, ha, rfl⟩
    rcases Nat.lt_or_ge n l.length with hlt | hge
    · have i1 : (n : Int) < (l.length : Int) := by omega
      have hlt2 : n < l2.length := by omega
      simp only [amS, Nat.reduceAdd, Nat.reduceLeDiff, Nat.reduceEqDiff, ↓reduceIte, reduceCtorEq, fillAt, targetOf, hv'.lenM, i1, not_true_eq_false, true_implies, false_implies, hv'.eaddrM hlt, hw'.eaddrM hlt2, Attr.len_row, Attr.take_row, Nat.le_refl, attr_neq, pe_inc (show n < 9223372036854775807 by omega)]
      rw [cndW_iff]
      refine ⟨fun he => ?_, fun he => ?_⟩
      · have hne : l[n] ≠ l2[n] := by simpa using he
        have : l ≠ l2 := fun e => hne (by subst e; rfl)
        simp [this]
      · have he : l[n] = l2[n] := by simpa using he
        exact LoopPost.next (n + 1) rfl ⟨hlt, by rw [List.take_succ_eq_append_getElem hlt, List.take_succ_eq_append_getElem hlt2, ha, he], rfl⟩ (by omega)
    · have i1 : ¬ (n : Int) < (l.length : Int) := by omega
      rw [List.take_of_length_le hge, List.take_of_length_le (by omega)] at ha
      simp only [amS, Nat.reduceAdd, Nat.reduceLeDiff, Nat.reduceEqDiff, ↓reduceIte, reduceCtorEq, fillAt, targetOf, hv'.lenM, i1, not_false_eq_true, true_implies, false_implies, decide_eq_true ha]

theorem p117 {Q : Post} {s : Bytes} {k : AVal → IT} : W cx (.pcall 117 [.str [97,116,116,114,105,98,117,116,101,78,97,109,101,32,97,116,116,114,105,98,117,116,101,84,121,112,101,32,98,97,115,101,70,114,101,113,117,101,110,99,121,32,98,97,115,101,80,114,111,102,105,108,101,32,99,97,108,99,77,111,100,101,32,99,108,105,112,80,97,116,104,85,110,105,116,115,32,100,105,102,102,117,115,101,67,111,110,115,116,97,110,116,32,101,100,103,101,77,111,100,101,32,102,105,108,116,101,114,85,110,105,116,115,32,103,108,121,112,104,82,101,102,32,103,114,97,100,105,101,110,116,84,114,97,110,115,102,111,114,109,32,103,114,97,100,105,101,110,116,85,110,105,116,115,32,107,101,114,110,101,108,77,97,116,114,105,120,32,107,101,114,110,101,108,85,110,105,116,76,101,110,103,116,104,32,107,101,121,80,111,105,110,116,115,32,107,101,121,83,112,108,105,110,101,115,32,107,101,121,84,105,109,101,115,32,108,101,110,103,116,104,65,100,106,117,115,116,32,108,105,109,105,116,105,110,103,67,111,110,101,65,110,103,108,101,32,109,97,114,107,101,114,72,101,105,103,104,116,32,109,97,114,107,101,114,85,110,105,116,115,32,109,97,114,107,101,114,87,105,100,116,104,32,109,97,115,107,67,111,110,116,101,110,116,85,110,105,116,115,32,109,97,115,107,85,110,105,116,115,32,110,117,109,79,99,116,97,118,101,115,32,112,97,116,104,76,101,110,103,116,104,32,112,97,116,116,101,114,110,67,111,110,116,101,110,116,85,110,105,116,115,32,112,97,116,116,101,114,110,84,114,97,110,115,102,111,114,109,32,112,97,116,116,101,114,110,85,110,105,116,115,32,112,111,105,110,116,115,65,116,88,32,112,111,105,110,116,115,65,116,89,32,112,111,105,110,116,115,65,116,90,32,112,114,101,115,101,114,118,101,65,108,112,104,97,32,112,114,101,115,101,114,118,101,65,115,112,101,99,116,82,97,116,105,111,32,112,114,105,109,105,116,105,118,101,85,110,105,116,115,32,114,101,102,88,32,114,101,102,89,32,114,101,112,101,97,116,67,111,117,110,116,32,114,101,112,101,97,116,68,117,114,32,114,101,113,117,105,114,101,100,69,120,116,101,110,115,105,111,110,115,32,114,101,113,117,105,114,101,100,70,101,97,116,117,114,101,115,32,115,112,101,99,117,108,97,114,67,111,110,115,116,97,110,116,32,115,112,101,99,117,108,97,114,69,120,112,111,110,101,110,116,32,115,112,114,101,97,100,77,101,116,104,111,100,32,115,116,97,114,116,79,102,102,115,101,116,32,115,116,100,68,101,118,105,97,116,105,111,110,32,115,116,105,116,99,104,84,105,108,101,115,32,115,117,114,102,97,99,101,83,99,97,108,101,32,115,121,115,116,101,109,76,97,110,103,117,97,103,101,32,116,97,98,108,101,86,97,108,117,101,115,32,116,97,114,103,101,116,88,32,116,97,114,103,101,116,89,32,116,101,120,116,76,101,110,103,116,104,32,118,105,101,119,66,111,120,32,118,105,101,119,84,97,114,103,101,116,32,120,67,104,97,110,110,101,108,83,101,108,101,99,116,111,114,32,121,67,104,97,110,110,101,108,83,101,108,101,99,116,111,114,32,122,111,111,109,65,110,100,80,97,110], .str s] k) Q h ↔ W cx (k (.str (adjustedIn s rSvgAttrs))) Q h := by
  have e := (f117 cSvgAttrs s (by decide +kernel)).pcall (Q := Q) (h := h) (k := k) rfl rfl
  rw [words_svgAttrs] at e
  exact e
def lkNames : List Bytes := [[120,108,105,110,107,58,97,99,116,117,97,116,101], [120,108,105,110,107,58,97,114,99,114,111,108,101], [120,108,105,110,107,58,104,114,101,102], [120,108,105,110,107,58,114,111,108,101], [120,108,105,110,107,58,115,104,111,119], [120,108,105,110,107,58,116,105,116,108,101], [120,108,105,110,107,58,116,121,112,101]]
theorem w_links {s : Bytes} : isWord [120,108,105,110,107,58,97,99,116,117,97,116,101,32,120,108,105,110,107,58,97,114,99,114,111,108,101,32,120,108,105,110,107,58,104,114,101,102,32,120,108,105,110,107,58,114,111,108,101,32,120,108,105,110,107,58,115,104,111,119,32,120,108,105,110,107,58,116,105,116,108,101,32,120,108,105,110,107,58,116,121,112,101] s = decide (s ∈ lkNames) := isWord_const (by decide +kernel) (by decide +kernel)
theorem p109 {Q : Post} {s : Bytes} {k : AVal → IT} (hs : s.length < 9223372036854775807) : W cx (.pcall 109 [.str [120,108,105,110,107,58,97,99,116,117,97,116,101,32,120,108,105,110,107,58,97,114,99,114,111,108,101,32,120,108,105,110,107,58,104,114,101,102,32,120,108,105,110,107,58,114,111,108,101,32,120,108,105,110,107,58,115,104,111,119,32,120,108,105,110,107,58,116,105,116,108,101,32,120,108,105,110,107,58,116,121,112,101], .str s] k) Q h ↔ W cx (k (.bool (decide (s ∈ lkNames)))) Q h := by
  rw [f109_iff (by decide) hs, w_links]
theorem pe_slc_lo {k : IntKind} {s : Bytes} {a z : Nat} (ha : a ≤ s.length) : peval (.slc z true true false) [.str s, .int k (a : Int)] = some (.str (s.drop a)) := by
  have e1 : bound (a : Int) s.length = some a := by unfold bound; rw [if_pos (by omega)]; rfl
  simp [peval, sliceOf, boundsOf, e1]
abbrev xLang : Bytes := [120,109,108,58,108,97,110,103]
abbrev xSpace : Bytes := [120,109,108,58,115,112,97,99,101]
abbrev xmlns : Bytes := [120,109,108,110,115]
abbrev xmlnsX : Bytes := [120,109,108,110,115,58,120,108,105,110,107]
theorem foreign_links : ∀ s ∈ lkNames, 6 ≤ s.length ∧ foreignOf s = some (4, s.drop 6) := by decide
theorem foreign_none {s : Bytes} (h1 : s ∉ lkNames) (h2 : s ≠ xLang) (h3 : s ≠ xSpace) (h4 : s ≠ xmlns) (h5 : s ≠ xmlnsX) : foreignOf s = none := by
  simp only [lkNames, List.mem_cons, List.not_mem_nil, or_false, not_or] at h1
  obtain ⟨a1, a2, a3, a4, a5, a6, a7⟩ := h1
  simp only [foreignOf, fT, List.find?_cons, List.find?_nil, decide_eq_false a1, decide_eq_false a2, decide_eq_false a3, decide_eq_false a4, decide_eq_false a5, decide_eq_false a6, decide_eq_false a7, decide_eq_false h2, decide_eq_false h3, decide_eq_false h4, decide_eq_false h5, Option.map_none]
abbrev sxlink : Bytes := [120,108,105,110,107]
theorem foreign_cases (s : Bytes) : (s ∈ lkNames ∧ 6 ≤ s.length ∧ foreignOf s = some (4, s.drop 6)) ∨ (s ∉ lkNames ∧ ((s = xLang ∧ 4 ≤ s.length ∧ foreignOf s = some (5, s.drop 4)) ∨ (¬ s = xLang ∧ ((s = xSpace ∧ 4 ≤ s.length ∧ foreignOf s = some (5, s.drop 4)) ∨ (¬ s = xSpace ∧ ((s = xmlns ∧ foreignOf s = some (6, s)) ∨ (¬ s = xmlns ∧ ((s = xmlnsX ∧ foreignOf s = some (6, sxlink)) ∨ (¬ s = xmlnsX ∧ foreignOf s = none))))))))) := by
  by_cases c1 : s ∈ lkNames
  · exact .inl ⟨c1, foreign_links s c1⟩
  refine .inr ⟨c1, ?_⟩
  by_cases c2 : s = xLang
  · subst c2; decide
  refine .inr ⟨c2, ?_⟩
  by_cases c3 : s = xSpace
  · subst c3; decide
  refine .inr ⟨c3, ?_⟩
  by_cases c4 : s = xmlns
  · subst c4; decide
  refine .inr ⟨c4, ?_⟩
  by_cases c5 : s = xmlnsX
  · subst c5; decide
  exact .inr ⟨c5, foreign_none c1 c2 c3 c4 c5⟩
theorem sl6 {s : Bytes} (h : 6 ≤ s.length) : peval (.slc 0 true true false) [.str s, .int .i64 6] = some (.str (s.drop 6)) := pe_slc_lo h
theorem sl4 {s : Bytes} (h : 4 ≤ s.length) : peval (.slc 0 true true false) [.str s, .int .i64 4] = some (.str (s.drop 4)) := pe_slc_lo h
set_option maxHeartbeats 1000000 in
/-- The specification's Adjust. -/
theorem f87 (hv : IsAttrs l v) (hs : ∀ a ∈ l, a.name.length ≤ 1000) (hb : l.length ≤ 1000) (sp : Int) : ∃ u, Ret cx 87 [.int .i64 sp, v] h u h ∧ IsAttrs (l.map (adjAttr sp)) u := by
  have hv' : IsSl 3 (l.map Attr.row) v := hv
  have hev : Ev cx 87 [.int .i64 sp, v] h fun r h' => h' = h ∧ IsAttrs (l.map (adjAttr sp)) r := by
    unfold Ev
    rw [t87_eq, t87]
    refine W_loop_st (fun p : Nat × AVal => [p.2, .int .i64 (p.1 : Int)]) (fun p h1 => p.1 ≤ l.length ∧ IsAttrs ((l.take p.1).map (adjAttr sp)) p.2 ∧ h1 = h) (fun p => l.length - p.1) (0, .slnil) rfl ⟨Nat.zero_le _, .nil, rfl⟩ ?_
    rintro ⟨n, u⟩ h1 ⟨hn, hu, rfl⟩
    simp only at hn hu
    rcases Nat.lt_or_ge n l.length with hlt | hge
    · have i1 : (n : Int) < (l.length : Int) := by omega
      have happ : ∀ {q : List AVal}, q = (adjAttr sp l[n]).row → ∃ w, peval (.append 3 40) [u, .sl 3 [q]] = some w ∧ IsAttrs ((l.take (n + 1)).map (adjAttr sp)) w := by
        rintro _ rfl
        refine ⟨_, IsSl.app1M (f := Attr.row) (a := adjAttr sp l[n]) (b := 40) hu ?_, ?_⟩
        · simp [maxBytes]; omega
        · rw [List.take_succ_eq_append_getElem hlt, List.map_append]; exact .mk
      have inc := pe_inc (show n < 9223372036854775807 by omega)
      have hnl := hs _ (List.getElem_mem hlt)
      have hadj : ∀ nm, (sp = 2 ∨ sp = 3) → adjName sp l[n].name = nm → adjAttr sp l[n] = match foreignOf nm with
          | some (s, m) => ⟨s, m, l[n].value⟩
          | none => ⟨0, nm, l[n].value⟩ := by
        rintro _ hsp rfl
        rw [adjAttr, if_pos hsp]
      by_cases s2 : sp = 2
      · subst s2
        have hnm := hadj (adjustedIn l[n].name rSvgAttrs) (.inl rfl) rfl
        have hl9 : (adjustedIn l[n].name rSvgAttrs).length < 9223372036854775807 := by rw [adjustedIn_length]; omega
        generalize hg : adjustedIn l[n].name rSvgAttrs = nm at hnm hl9
        rcases foreign_cases nm with ⟨c1, c6, ef⟩ | ⟨c1, ⟨c2, c6, ef⟩ | ⟨c2, ⟨c3, c6, ef⟩ | ⟨c3, ⟨c4, ef⟩ | ⟨c4, ⟨c5, ef⟩ | ⟨c5, ef⟩⟩⟩⟩⟩
        · obtain ⟨w, e3, hw⟩ := happ (q := [.int .i64 4, .str (nm.drop 6), .str l[n].value]) (by rw [hnm]; simp only [ef, Attr.row])
          simp only [amS, Nat.reduceAdd, Nat.reduceLeDiff, Nat.reduceEqDiff, ↓reduceIte, reduceCtorEq, fillAt, targetOf, hv'.lenM, i1, hv'.eaddrM hlt, Nat.zero_lt_one, Attr.row, hg, p117, show ¬ (2 : Int) = 3 by decide, not_true_eq_false, not_false_eq_true, true_implies, false_implies, true_or, or_true, p109 hl9, c1, sl6 c6, pe_mksl3, e3, inc]
          exact LoopPost.next (n + 1, w) rfl ⟨hlt, hw, rfl⟩ (by simp only; omega)
        · obtain ⟨w, e3, hw⟩ := happ (q := [.int .i64 5, .str (nm.drop 4), .str l[n].value]) (by rw [hnm]; simp only [ef, Attr.row])
          simp only [amS, Nat.reduceAdd, Nat.reduceLeDiff, Nat.reduceEqDiff, ↓reduceIte, reduceCtorEq, fillAt, targetOf, hv'.lenM, i1, hv'.eaddrM hlt, Nat.zero_lt_one, Attr.row, hg, p117, show ¬ (2 : Int) = 3 by decide, not_true_eq_false, not_false_eq_true, true_implies, false_implies, true_or, or_true, p109 hl9, c1, eq_true c2, sl4 c6, pe_mksl3, e3, inc]
          exact LoopPost.next (n + 1, w) rfl ⟨hlt, hw, rfl⟩ (by simp only; omega)
        · obtain ⟨w, e3, hw⟩ := happ (q := [.int .i64 5, .str (nm.drop 4), .str l[n].value]) (by rw [hnm]; simp only [ef, Attr.row])
          simp only [amS, Nat.reduceAdd, Nat.reduceLeDiff, Nat.reduceEqDiff, ↓reduceIte, reduceCtorEq, fillAt, targetOf, hv'.lenM, i1, hv'.eaddrM hlt, Nat.zero_lt_one, Attr.row, hg, p117, show ¬ (2 : Int) = 3 by decide, not_true_eq_false, not_false_eq_true, true_implies, false_implies, true_or, or_true, p109 hl9, c1, c2, eq_true c3, sl4 c6, pe_mksl3, e3, inc]
          exact LoopPost.next (n + 1, w) rfl ⟨hlt, hw, rfl⟩ (by simp only; omega)
        · obtain ⟨w, e3, hw⟩ := happ (q := [.int .i64 6, .str nm, .str l[n].value]) (by rw [hnm]; simp only [ef, Attr.row])
          simp only [amS, Nat.reduceAdd, Nat.reduceLeDiff, Nat.reduceEqDiff, ↓reduceIte, reduceCtorEq, fillAt, targetOf, hv'.lenM, i1, hv'.eaddrM hlt, Nat.zero_lt_one, Attr.row, hg, p117, show ¬ (2 : Int) = 3 by decide, not_true_eq_false, not_false_eq_true, true_implies, false_implies, true_or, or_true, p109 hl9, c1, c2, c3, eq_true c4, pe_mksl3, e3, inc]
          exact LoopPost.next (n + 1, w) rfl ⟨hlt, hw, rfl⟩ (by simp only; omega)
        · obtain ⟨w, e3, hw⟩ := happ (q := [.int .i64 6, .str sxlink, .str l[n].value]) (by rw [hnm]; simp only [ef, Attr.row])
          simp only [amS, Nat.reduceAdd, Nat.reduceLeDiff, Nat.reduceEqDiff, ↓reduceIte, reduceCtorEq, fillAt, targetOf, hv'.lenM, i1, hv'.eaddrM hlt, Nat.zero_lt_one, Attr.row, hg, p117, show ¬ (2 : Int) = 3 by decide, not_true_eq_false, not_false_eq_true, true_implies, false_implies, true_or, or_true, p109 hl9, c1, c2, c3, c4, eq_true c5, pe_mksl3, e3, inc]
          exact LoopPost.next (n + 1, w) rfl ⟨hlt, hw, rfl⟩ (by simp only; omega)
        · obtain ⟨w, e3, hw⟩ := happ (q := [.int .i64 0, .str nm, .str l[n].value]) (by rw [hnm]; simp only [ef, Attr.row])
          simp only [amS, Nat.reduceAdd, Nat.reduceLeDiff, Nat.reduceEqDiff, ↓reduceIte, reduceCtorEq, fillAt, targetOf, hv'.lenM, i1, hv'.eaddrM hlt, Nat.zero_lt_one, Attr.row, hg, p117, show ¬ (2 : Int) = 3 by decide, not_true_eq_false, not_false_eq_true, true_implies, false_implies, true_or, or_true, p109 hl9, c1, c2, c3, c4, c5, pe_mksl3, e3, inc]
          exact LoopPost.next (n + 1, w) rfl ⟨hlt, hw, rfl⟩ (by simp only; omega)
      by_cases s3 : sp = 3
      · subst s3
        by_cases hd : l[n].name = dUrl
        · have hnm := hadj dURL (.inr rfl) (by rw [adjName, if_neg (by decide), if_pos ⟨rfl, hd⟩])
          rw [show foreignOf dURL = none by decide] at hnm
          obtain ⟨w, e3, hw⟩ := happ (q := [.int .i64 0, .str dURL, .str l[n].value]) (by rw [hnm]; rfl)
          have hl9 : dURL.length < 9223372036854775807 := by decide
          simp only [amS, Nat.reduceAdd, Nat.reduceLeDiff, Nat.reduceEqDiff, ↓reduceIte, reduceCtorEq, fillAt, targetOf, hv'.lenM, i1, hv'.eaddrM hlt, Nat.zero_lt_one, Attr.row, hd, show ¬ (3 : Int) = 2 by decide, not_true_eq_false, not_false_eq_true, true_implies, false_implies, p109 hl9, show dURL ∉ lkNames by decide, show ¬ dURL = xLang by decide, show ¬ dURL = xSpace by decide, show ¬ dURL = xmlns by decide, show ¬ dURL = xmlnsX by decide, pe_mksl3, e3, inc]
          exact LoopPost.next (n + 1, w) rfl ⟨hlt, hw, rfl⟩ (by simp only; omega)
        have hnm := hadj l[n].name (.inr rfl) (by rw [adjName, if_neg (by decide), if_neg (fun h => hd h.2)])
        have hl9 : l[n].name.length < 9223372036854775807 := by omega
        rcases foreign_cases l[n].name with ⟨c1, c6, ef⟩ | ⟨c1, ⟨c2, c6, ef⟩ | ⟨c2, ⟨c3, c6, ef⟩ | ⟨c3, ⟨c4, ef⟩ | ⟨c4, ⟨c5, ef⟩ | ⟨c5, ef⟩⟩⟩⟩⟩
        · obtain ⟨w, e3, hw⟩ := happ (q := [.int .i64 4, .str (l[n].name.drop 6), .str l[n].value]) (by rw [hnm]; simp only [ef, Attr.row])
          simp only [amS, Nat.reduceAdd, Nat.reduceLeDiff, Nat.reduceEqDiff, ↓reduceIte, reduceCtorEq, fillAt, targetOf, hv'.lenM, i1, hv'.eaddrM hlt, Nat.zero_lt_one, Attr.row, hd, p117, show ¬ (3 : Int) = 2 by decide, not_true_eq_false, not_false_eq_true, true_implies, false_implies, true_or, or_true, p109 hl9, c1, sl6 c6, pe_mksl3, e3, inc]
          exact LoopPost.next (n + 1, w) rfl ⟨hlt, hw, rfl⟩ (by simp only; omega)
        · obtain ⟨w, e3, hw⟩ := happ (q := [.int .i64 5, .str (l[n].name.drop 4), .str l[n].value]) (by rw [hnm]; simp only [ef, Attr.row])
          simp only [amS, Nat.reduceAdd, Nat.reduceLeDiff, Nat.reduceEqDiff, ↓reduceIte, reduceCtorEq, fillAt, targetOf, hv'.lenM, i1, hv'.eaddrM hlt, Nat.zero_lt_one, Attr.row, hd, p117, show ¬ (3 : Int) = 2 by decide, not_true_eq_false, not_false_eq_true, true_implies, false_implies, true_or, or_true, p109 hl9, c1, eq_true c2, sl4 c6, pe_mksl3, e3, inc]
          exact LoopPost.next (n + 1, w) rfl ⟨hlt, hw, rfl⟩ (by simp only; omega)
        · obtain ⟨w, e3, hw⟩ := happ (q := [.int .i64 5, .str (l[n].name.drop 4), .str l[n].value]) (by rw [hnm]; simp only [ef, Attr.row])
          simp only [amS, Nat.reduceAdd, Nat.reduceLeDiff, Nat.reduceEqDiff, ↓reduceIte, reduceCtorEq, fillAt, targetOf, hv'.lenM, i1, hv'.eaddrM hlt, Nat.zero_lt_one, Attr.row, hd, p117, show ¬ (3 : Int) = 2 by decide, not_true_eq_false, not_false_eq_true, true_implies, false_implies, true_or, or_true, p109 hl9, c1, c2, eq_true c3, sl4 c6, pe_mksl3, e3, inc]
          exact LoopPost.next (n + 1, w) rfl ⟨hlt, hw, rfl⟩ (by simp only; omega)
        · obtain ⟨w, e3, hw⟩ := happ (q := [.int .i64 6, .str l[n].name, .str l[n].value]) (by rw [hnm]; simp only [ef, Attr.row])
          simp only [amS, Nat.reduceAdd, Nat.reduceLeDiff, Nat.reduceEqDiff, ↓reduceIte, reduceCtorEq, fillAt, targetOf, hv'.lenM, i1, hv'.eaddrM hlt, Nat.zero_lt_one, Attr.row, hd, p117, show ¬ (3 : Int) = 2 by decide, not_true_eq_false, not_false_eq_true, true_implies, false_implies, true_or, or_true, p109 hl9, c1, c2, c3, eq_true c4, pe_mksl3, e3, inc]
          exact LoopPost.next (n + 1, w) rfl ⟨hlt, hw, rfl⟩ (by simp only; omega)
        · obtain ⟨w, e3, hw⟩ := happ (q := [.int .i64 6, .str sxlink, .str l[n].value]) (by rw [hnm]; simp only [ef, Attr.row])
          simp only [amS, Nat.reduceAdd, Nat.reduceLeDiff, Nat.reduceEqDiff, ↓reduceIte, reduceCtorEq, fillAt, targetOf, hv'.lenM, i1, hv'.eaddrM hlt, Nat.zero_lt_one, Attr.row, hd, p117, show ¬ (3 : Int) = 2 by decide, not_true_eq_false, not_false_eq_true, true_implies, false_implies, true_or, or_true, p109 hl9, c1, c2, c3, c4, eq_true c5, pe_mksl3, e3, inc]
          exact LoopPost.next (n + 1, w) rfl ⟨hlt, hw, rfl⟩ (by simp only; omega)
        · obtain ⟨w, e3, hw⟩ := happ (q := [.int .i64 0, .str l[n].name, .str l[n].value]) (by rw [hnm]; simp only [ef, Attr.row])
          simp only [amS, Nat.reduceAdd, Nat.reduceLeDiff, Nat.reduceEqDiff, ↓reduceIte, reduceCtorEq, fillAt, targetOf, hv'.lenM, i1, hv'.eaddrM hlt, Nat.zero_lt_one, Attr.row, hd, p117, show ¬ (3 : Int) = 2 by decide, not_true_eq_false, not_false_eq_true, true_implies, false_implies, true_or, or_true, p109 hl9, c1, c2, c3, c4, c5, pe_mksl3, e3, inc]
          exact LoopPost.next (n + 1, w) rfl ⟨hlt, hw, rfl⟩ (by simp only; omega)
      · obtain ⟨w, e3, hw⟩ := happ (q := [.int .i64 0, .str l[n].name, .str l[n].value]) (by simp only [adjAttr, s2, s3, or_self, if_false, Attr.row])
        simp only [amS, Nat.reduceAdd, Nat.reduceLeDiff, Nat.reduceEqDiff, ↓reduceIte, reduceCtorEq, fillAt, targetOf, hv'.lenM, i1, hv'.eaddrM hlt, Nat.zero_lt_one, Attr.row, s2, s3, not_true_eq_false, not_false_eq_true, true_implies, false_implies, pe_mksl3, e3, inc]
        exact LoopPost.next (n + 1, w) rfl ⟨hlt, hw, rfl⟩ (by simp only; omega)
    · have i1 : ¬ (n : Int) < (l.length : Int) := by omega
      rw [List.take_of_length_le hge] at hu
      simp only [amS, Nat.reduceAdd, Nat.reduceLeDiff, Nat.reduceEqDiff, ↓reduceIte, reduceCtorEq, fillAt, targetOf, hv'.lenM, i1, not_false_eq_true, true_implies, false_implies]
      exact ⟨_, rfl, hu⟩
  obtain ⟨r, h', hr, rfl, hu⟩ := hev.ret
  exact ⟨r, hr, hu⟩
theorem ev_adjusts (hv : IsAttrs l v) (sp : Int) : Ev cx 16 [.int .i64 sp, v] [] fun r _ => r = .bool true := by
  have hv' : IsSl 3 (l.map Attr.row) v := hv
  unfold Ev
  rw [t16_eq, t16]
  simp only [amS, Nat.reduceAdd, Nat.reduceLeDiff, Nat.reduceEqDiff, ↓reduceIte, reduceCtorEq, fillAt, targetOf, (f41' hv []).call, known_iff]
  rw [cndW_iff]
  refine ⟨fun _ => ⟨_, rfl, rfl⟩, fun h0 => ?_⟩
  have h0 : attrsOk l := by simpa using h0
  have hb : l.length ≤ 1000 := by have := h0.1; omega
  obtain ⟨o, e3, ho⟩ := IsSl.app (z := 3) (b := 40) (r := []) .nil hv' (by simp [maxBytes]; omega)
  obtain ⟨u, r1, hu⟩ := f85 (h := []) (l := l) (v := o) ho hb sp
  obtain ⟨w, r2, hw⟩ := f87 (h := [] ++ [.map (ft 11)]) hv (fun a ha => by have := (h0.2 a ha).1; omega) hb sp
  have r3 := f86 (h := [] ++ [.map (ft 11)]) hu hw (by simp; omega)
  have r4 := f86 (h := [] ++ [.map (ft 11)]) (l := l) (v := o) ho hv (by omega)
  rw [decide_eq_true rfl] at r3 r4
  simp only [List.nil_append] at r1 r2 r3 r4
  simp only [amS, Nat.reduceAdd, Nat.reduceLeDiff, Nat.reduceEqDiff, ↓reduceIte, reduceCtorEq, fillAt, targetOf, e3, r1.call, r2.call, r3.call, r4.call, known_iff]
  exact ⟨_, rfl, rfl⟩
theorem all_adjusts : ∀ l, HasArgs [.int .i64, .sl tAttr] l → Ev cx 16 l [] fun r _ => r = .bool true := by
  rintro _ ⟨a, _, rfl, ha, b, _, rfl, hb, rfl⟩
  obtain ⟨n, rfl⟩ := hasV_int ha
  obtain ⟨l, hv⟩ := has_attrs hb
  exact ev_adjusts hv n

end
end Go.Am
