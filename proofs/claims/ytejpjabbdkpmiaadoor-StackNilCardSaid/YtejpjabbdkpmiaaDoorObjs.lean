/-
  Objects that hold rows: lists as cells. No law is claimed here.
-/
import Derived.Test.YtejpjabbdkpmiaaDoorAm32
set_option linter.unusedSimpArgs false
set_option linter.unusedVariables false
namespace Go.Am
open Go

section
variable {α : Type} {z : Nat}
theorem flat_len {rows : List (List α)} (h : ∀ r ∈ rows, r.length = z) : rows.flatten.length = rows.length * z := by
  induction rows with
  | nil => simp
  | cons q rows ih => rw [List.flatten_cons, List.length_append, h q (by simp), ih fun r hr => h r (by simp [hr]), List.length_cons, Nat.add_mul]; omega
theorem flat_take {rows : List (List α)} (h : ∀ r ∈ rows, r.length = z) : ∀ {k : Nat}, rows.flatten.take (k * z) = (rows.take k).flatten := by
  induction rows with
  | nil => intro k; simp
  | cons q rows ih =>
    intro k
    have hq := h q (by simp)
    cases k with
    | zero => simp
    | succ k =>
      rw [List.flatten_cons, Nat.add_mul, Nat.one_mul, Nat.add_comm, List.take_append, List.take_of_length_le (by omega), hq, Nat.add_sub_cancel_left, ih fun r hr => h r (by simp [hr])]
      simp
theorem flat_drop {rows : List (List α)} (h : ∀ r ∈ rows, r.length = z) : ∀ {k : Nat}, rows.flatten.drop (k * z) = (rows.drop k).flatten := by
  induction rows with
  | nil => intro k; simp
  | cons q rows ih =>
    intro k
    have hq := h q (by simp)
    cases k with
    | zero => simp
    | succ k =>
      rw [List.flatten_cons, Nat.add_mul, Nat.one_mul, Nat.add_comm, List.drop_append, List.drop_of_length_le (by omega), hq, Nat.add_sub_cancel_left, ih fun r hr => h r (by simp [hr])]
      simp
theorem flat_set {rows : List (List α)} (h : ∀ r ∈ rows, r.length = z) {k : Nat} (hk : k < rows.length) (q : List α) : rows.flatten.take (k * z) ++ q ++ rows.flatten.drop (k * z + z) = (rows.set k q).flatten := by
  have e : k * z + z = (k + 1) * z := by rw [Nat.add_mul, Nat.one_mul]
  rw [e, flat_take h, flat_drop h, List.set_eq_take_append_cons_drop, if_pos hk]
  simp
theorem flat_rows {rows : List (List AVal)} (h : ∀ r ∈ rows, r.length = z) : ∀ {n off : Nat}, off + n ≤ rows.length → rowsFrom rows.flatten z (off * z) n = (rows.drop off).take n := by
  intro n
  induction n with
  | zero => intro off _; simp [rowsFrom]
  | succ n ih =>
    intro off hl
    rw [rowsFrom]
    have e : off * z + z = (off + 1) * z := by rw [Nat.add_mul, Nat.one_mul]
    rw [e, ih (by omega), flat_drop h]
    have hlt : off < rows.length := by omega
    rw [List.drop_eq_getElem_cons hlt, List.flatten_cons, List.take_append_of_le_length (by rw [h _ (List.getElem_mem hlt)]; exact Nat.le_refl _), List.take_of_length_le (by rw [h _ (List.getElem_mem hlt)]; exact Nat.le_refl _), List.take_succ_cons]
theorem flat_all {rows : List (List AVal)} (h : ∀ r ∈ rows, r.length = z) : rowsFrom rows.flatten z 0 rows.length = rows := by
  have := flat_rows h (n := rows.length) (off := 0) (by omega)
  simpa using this
end

section
variable {h : AHeap} {id z n : Nat} {rows : List (List AVal)}
/-- An object that holds these rows is frozen. -/
theorem hfrz_rows (hr : ∀ r ∈ rows, r.length = z) (hc : h[id]? = some (.cells rows.flatten)) : hfrz h (.msl id 0 rows.length z) = some (h.set id .dead, .sl z rows) := by
  unfold hfrz
  simp only [hc, Nat.zero_add]
  rw [if_pos (by rw [flat_len hr]; exact Nat.le_refl _), flat_all hr]
theorem eaddr_msl {k : IntKind} {i : Nat} (hi : i < n) : peval (.eaddr z) [.msl id 0 n z, .int k (i : Int)] = some (.ptr (some (id, i * z))) := by
  have : idxOf (i : Int) n = some i := by unfold idxOf; rw [if_pos (by omega)]; rfl
  simp [peval, elemOf, this]
theorem hstore_rows (hr : ∀ r ∈ rows, r.length = z) (hc : h[id]? = some (.cells rows.flatten)) {i : Nat} (hi : i < rows.length) {q : List AVal} (hq : q.length = z) : hstore h z (.ptr (some (id, i * z))) (.agg q) = some (h.set id (.cells (rows.set i q).flatten)) := by
  simp only [hstore, hc, cells_agg]
  have : i * z + z ≤ rows.flatten.length := by
    rw [flat_len hr]
    have := Nat.mul_le_mul_right z (show i + 1 ≤ rows.length by omega)
    rwa [Nat.add_mul, Nat.one_mul] at this
  rw [← flat_set hr hi]
  exact if_pos ⟨hq, this⟩
theorem set_rows (hr : ∀ r ∈ rows, r.length = z) {i : Nat} {q : List AVal} (hq : q.length = z) : ∀ r ∈ rows.set i q, r.length = z := by
  intro r h
  rcases List.mem_or_eq_of_mem_set h with h | rfl
  · exact hr r h
  · exact hq
theorem map_rows {α : Type} {f : α → List AVal} (hf : ∀ a, (f a).length = z) (l : List α) : ∀ r ∈ l.map f, r.length = z := by
  intro r h
  obtain ⟨a, _, rfl⟩ := List.mem_map.1 h
  exact hf a
/-- An append to nothing that makes an object. -/
theorem hobjOf_some {s v : AVal} {b : Nat} (hs : s = .slnil ∨ s = .sl z []) (hv : IsSl z rows v) (hne : rows ≠ []) (hb : rows.length * b ≤ maxBytes) : hobjOf h z b s v = some (h ++ [.cells rows.flatten], .msl h.length 0 rows.length z) := by
  rcases hv with rfl | ⟨rfl, hv⟩
  · cases rows with
    | nil => exact absurd rfl hne
    | cons r rows =>
      rw [List.length_cons] at hb
      rcases hs with rfl | rfl <;> simp [hobjOf, noRows, hb]
  · exact absurd hv hne
theorem hobjOf_none {s v : AVal} {b : Nat} (hs : s = .slnil ∨ s = .sl z []) (hv : IsSl z [] v) : hobjOf h z b s v = some (h, s) := by
  rcases hv with rfl | ⟨rfl, hv⟩ <;> rcases hs with rfl | rfl <;> simp [hobjOf, noRows]
theorem hgrow_none {v : AVal} {b : Nat} (hv : IsSl z [] v) : hgrow h z b (.msl id 0 n z) v = some (h, .msl id 0 n z) := by
  rcases hv with rfl | ⟨rfl, hv⟩ <;> simp [hgrow, rowsAt]
theorem hgrow_some {v : AVal} {b : Nat} {r2 : List (List AVal)} (hr : ∀ r ∈ rows, r.length = z) (hz : 0 < z) (hc : h[id]? = some (.cells rows.flatten)) (hv : IsSl z r2 v) (hne : r2 ≠ []) (hb : (rows.length + r2.length) * b ≤ maxBytes) :
    hgrow h z b (.msl id 0 rows.length z) v = some (h.set id .dead ++ [.cells (rows ++ r2).flatten], .msl h.length 0 (rows.length + r2.length) z) := by
  rcases hv with rfl | ⟨rfl, hv⟩
  · cases r2 with
    | nil => exact absurd rfl hne
    | cons r r2 =>
      have hl := flat_len hr
      have h1 : ¬ (0 + (rows.length + (r :: r2).length) * z ≤ rows.flatten.length) := by
        rw [hl, List.length_cons, Nat.zero_add, Nat.add_mul, Nat.add_mul]
        omega
      have h2 : rows.flatten.take (rows.length * z) = rows.flatten := List.take_of_length_le (by rw [hl]; exact Nat.le_refl _)
      unfold hgrow
      simp only [rowsAt, if_true, hc]
      rw [if_neg h1, if_pos ⟨trivial, by rw [hl]; exact Nat.le_refl _, hb⟩, h2, List.flatten_append]
  · exact absurd hv hne
end
end Go.Am
