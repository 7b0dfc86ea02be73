/-
  Simulation of operations, seventh part: aggregates that are built. No law is claimed here.
-/
import Derived.Test.YtejpjabbdkpmiaaDoorAm13
set_option linter.unusedSimpArgs false
set_option linter.unusedVariables false
namespace Go.Am
open Go

section
variable {P : Program} {γ : Gh} {w : World}

theorem cells_rel {a : AVal} {v : Value} (h : VRel γ a v) (hn : 0 < a.cells.length) : VRelV γ a.cells v.cells.toList ∧ ∀ u ∈ v.cells.toList, u.oneCell' = true := by
  cases a with
  | agg cs => obtain ⟨us, rfl, p, q⟩ := h; exact ⟨p, q⟩
  | tuple vs => exact absurd hn (by simp [AVal.cells])
  | bool b => rw [show v = _ from h]; exact ⟨⟨_, [], rfl, rfl, rfl⟩, by simp [Value.cells, Value.oneCell']⟩
  | int k n => rw [show v = _ from h]; exact ⟨⟨_, [], rfl, rfl, rfl⟩, by simp [Value.cells, Value.oneCell']⟩
  | str s => rw [show v = _ from h]; exact ⟨⟨_, [], rfl, rfl, rfl⟩, by simp [Value.cells, Value.oneCell']⟩
  | slnil => rw [show v = _ from h]; exact ⟨⟨_, [], rfl, rfl, rfl⟩, by simp [Value.cells, Value.oneCell']⟩
  | nilFunc => rw [show v = _ from h]; exact ⟨⟨_, [], rfl, rfl, rfl⟩, by simp [Value.cells, Value.oneCell']⟩
  | nilIface => rw [show v = _ from h]; exact ⟨⟨_, [], rfl, rfl, rfl⟩, by simp [Value.cells, Value.oneCell']⟩
  | ptr p =>
    have h0 := h
    cases p with
    | none => rw [show v = _ from h]; exact ⟨⟨_, [], rfl, rfl, rfl⟩, by simp [Value.cells, Value.oneCell']⟩
    | some p => obtain ⟨i, o⟩ := p; obtain ⟨b, _, rfl⟩ := h; exact ⟨⟨_, [], rfl, h0, rfl⟩, by simp [Value.cells, Value.oneCell']⟩
  | rptr cs => have h0 := h; obtain ⟨b, o, rfl, _⟩ := h; exact ⟨⟨_, [], rfl, h0, rfl⟩, by simp [Value.cells, Value.oneCell']⟩
  | sl z rows => have h0 := h; obtain ⟨ad, cap, rfl, _⟩ := h; exact ⟨⟨_, [], rfl, h0, rfl⟩, by simp [Value.cells, Value.oneCell']⟩
  | msl id off len z => have h0 := h; obtain ⟨b, cap, _, rfl, _⟩ := h; exact ⟨⟨_, [], rfl, h0, rfl⟩, by simp [Value.cells, Value.oneCell']⟩
  | map m =>
    have h0 := h
    cases m with
    | none => rw [show v = _ from h]; exact ⟨⟨_, [], rfl, rfl, rfl⟩, by simp [Value.cells, Value.oneCell']⟩
    | some id => obtain ⟨b, _, rfl⟩ := h; exact ⟨⟨_, [], rfl, h0, rfl⟩, by simp [Value.cells, Value.oneCell']⟩
  | func fn f c => have h0 := h; obtain ⟨fs, cs, rfl, _⟩ := h; exact ⟨⟨_, [], rfl, h0, rfl⟩, by simp [Value.cells, Value.oneCell']⟩
  | iface t a => have h0 := h; obtain ⟨u, rfl, _⟩ := h; exact ⟨⟨_, [], rfl, h0, rfl⟩, by simp [Value.cells, Value.oneCell']⟩

/-- Cells written one after another into a row. -/
theorem foldl_splice : ∀ (vs : List Value) (off j : Nat) (cells : Array Value), off + j + vs.length ≤ cells.size →
    (vs.zipIdx j).foldl (fun cs (c, i) => cs.setIfInBounds (off + i) c) cells = (cells.toList.take (off + j) ++ vs ++ cells.toList.drop (off + j + vs.length)).toArray
  | [], off, j, cells, h => by simp
  | v :: vs, off, j, cells, h => by
    simp only [List.zipIdx_cons, List.foldl_cons]
    rw [foldl_splice vs off (j + 1) _ (by simp at h ⊢; omega)]
    simp only [List.length_cons] at h
    have hk : off + j < cells.toList.length := by simp; omega
    have e0 : (cells.setIfInBounds (off + j) v).toList = cells.toList.set (off + j) v := by simp
    have e1 : (cells.toList.set (off + j) v).take (off + j + 1) = cells.toList.take (off + j) ++ [v] := by
      rw [List.take_add_one, List.take_set_of_le (Nat.le_refl _), List.getElem?_set_self hk]; rfl
    have e2 : (cells.toList.set (off + j) v).drop (off + j + 1 + vs.length) = cells.toList.drop (off + j + 1 + vs.length) := List.drop_set_of_lt (by omega)
    rw [e0, show off + (j + 1) = off + j + 1 by omega, e1, e2]
    rw [show off + j + (v :: vs).length = off + j + 1 + vs.length by simp; omega]
    simp

theorem fill_rel {place : Nat → Option (Nat × Nat)} : ∀ {places : List (Nat × Nat)} {as : List AVal} {parts : List (Nat × Value)} {cs : List AVal} {us : Array Value} {cs' : List AVal}, fillAt cs (places.zip as) = some cs' → places.length = as.length →
    parts.map (fun p => place p.1) = places.map some → VRelV γ as (parts.map (·.2)) → VRelV γ cs us.toList → (∀ u ∈ us.toList, u.oneCell' = true) →
    ∃ us', Instr.fill place us parts = some us' ∧ VRelV γ cs' us'.toList ∧ ∀ u ∈ us'.toList, u.oneCell' = true
  | [], as, parts, cs, us, cs', h, hl, hp, ha, hr, h1 => by
    have : parts = [] := by simpa using hp
    subst this
    simp only [List.zip_nil_left, fillAt] at h
    cases h
    exact ⟨us, rfl, hr, h1⟩
  | (off, size) :: places, [], parts, cs, us, cs', h, hl, hp, ha, hr, h1 => by simp at hl
  | (off, size) :: places, a :: as, [], cs, us, cs', h, hl, hp, ha, hr, h1 => by simp at hp
  | (off, size) :: places, a :: as, (i, v) :: parts, cs, us, cs', h, hl, hp, ha, hr, h1 => by
    simp only [List.zip_cons_cons, fillAt] at h
    split at h
    · rename_i hc
      obtain ⟨c1, c2, c3⟩ := hc
      simp only [List.map_cons, List.cons.injEq] at hp
      obtain ⟨_, _, e, hav, ha'⟩ := ha.cons_inv
      simp only [List.map_cons, List.cons.injEq] at e
      obtain ⟨e1, e2⟩ := e
      subst e1; subst e2
      obtain ⟨q1, q2⟩ := cells_rel hav (by omega)
      have hsz : v.cells.size = size := by have := q1.length; simp at this; omega
      have hus : us.size = cs.length := by have := hr.length; simpa using this
      have hf := foldl_splice v.cells.toList off 0 us (by simp [hsz]; omega)
      obtain ⟨us', r1, r2, r3⟩ := fill_rel (place := place) (us := (us.toList.take off ++ v.cells.toList ++ us.toList.drop (off + size)).toArray) h (by simpa using hl) hp.2 ha'
        (by simpa using ((hr.take off).append q1).append (hr.drop (off + size)))
        (fun u hu => by
          simp only [List.mem_append] at hu
          rcases hu with (hu | hu) | hu
          · exact h1 u (List.mem_of_mem_take hu)
          · exact q2 u hu
          · exact h1 u (List.mem_of_mem_drop hu))
      refine ⟨us', ?_, r2, r3⟩
      rw [Instr.fill]
      simp only [hp.1]
      rw [if_neg (by simp [hsz]; omega)]
      rw [← r1]
      congr 1
      have e5 : v.cells.toList.length = size := by simpa using hsz
      rw [← Array.foldl_toList, Array.toList_zipIdx, hf]
      simp [e5]
    · cases h

theorem ofConst_cells {v : Value} {a : AVal} (h : ofConst v = some a) : VRelV γ a.cells v.cells.toList ∧ ∀ u ∈ v.cells.toList, u.oneCell' = true := by
  have hr := ofConst_rel (γ := γ) h
  unfold ofConst at h
  split at h
  · rename_i cs
    cases hs : ofScalars cs.toList with
    | none => rw [hs] at h; cases h
    | some as =>
      rw [hs] at h; cases h
      exact ofScalars_rel hs
  · refine cells_rel hr ?_
    unfold ofScalar at h
    split at h <;> first | (cases h; simp [AVal.cells]; done) | skip
    · split at h
      · cases h; simp [AVal.cells]
      · cases h
    · cases h

theorem placesOf_struct {t : TypeId} {fs : Array Field} (hu : P.underlying t = some (.struct fs)) {place : Nat → Option (Nat × Nat)} (hpl : ∀ (i : Nat) (f : Field) (n : Nat), fs[i]? = some f → tySize P f.type = some n → place i = some (f.offset, n)) :
    ∀ {parts : List (Nat × Operand)} {ps : List (Nat × Nat)}, placesOf P t parts = some ps → parts.map (fun p => place p.1) = ps.map some
  | [], ps, h => by cases h; rfl
  | (i, x) :: rest, ps, h => by
    simp only [placesOf, hu] at h
    split at h
    · rename_i f hf
      split at h
      · rename_i n r h1 h2
        cases h
        simp [hpl i f n hf h1, placesOf_struct hu hpl h2]
      · cases h
    · cases h

theorem placesOf_array {t e : TypeId} {len n : Nat} (hu : P.underlying t = some (.array len e)) (hn : tySize P e = some n) :
    ∀ {parts : List (Nat × Operand)} {ps : List (Nat × Nat)}, placesOf P t parts = some ps → parts.map (fun p => some (p.1 * n, n)) = ps.map some
  | [], ps, h => by cases h; rfl
  | (i, x) :: rest, ps, h => by
    simp only [placesOf, hu] at h
    split at h
    · split at h
      · rename_i n' r h1 h2
        cases h
        rw [hn] at h1; cases h1
        simp [placesOf_array hu hn h2]
      · cases h
    · cases h

theorem mapM_places : ∀ (fs : List Field), (fs.all fun f => (tySize P f.type).isSome) = true → ∃ places, fs.mapM (fun f => (P.info? f.type).map fun i => (f.offset, i.size)) = some places ∧
    ∀ (i : Nat) (f : Field) (n : Nat), fs[i]? = some f → tySize P f.type = some n → places[i]? = some (f.offset, n)
  | [], _ => ⟨[], rfl, by simp⟩
  | f :: fs, h => by
    simp only [List.all_cons, Bool.and_eq_true] at h
    obtain ⟨rest, h1, h2⟩ := mapM_places fs h.2
    cases hi : P.info? f.type with
    | none => simp [tySize, hi] at h
    | some ti =>
      refine ⟨(f.offset, ti.size) :: rest, by simp [hi, h1], fun i g n hg hn => ?_⟩
      cases i with
      | zero => simp at hg; subst hg; simp [tySize, hi] at hn; simp [hn]
      | succ i => simpa using h2 i g n (by simpa using hg) hn

theorem run_mkagg {t : TypeId} {z : AVal} {parts : Array (Nat × Operand)} {ps : List (Nat × Nat)} {ρ : Operand → Value} (hz : tyZero P t = some z) (hp : placesOf P t parts.toList = some ps) (hb : buildOk P t = true) {as : List AVal}
    (ha : VRelV γ as ((parts.toList.map (·.2)).map ρ)) {u : AVal} (h : peval (.mkagg z.cells ps) as = some u) : ∃ v, (Instr.build t (parts.map fun (i, x) => (i, ρ x))).run P w = .ok v w ∧ VRel γ u v := by
  simp only [peval] at h
  split at h
  · rename_i hl
    cases hf : fillAt z.cells (ps.zip as) with
    | none => rw [hf] at h; cases h
    | some cs =>
      rw [hf] at h; cases h
      unfold tyZero at hz
      cases hi : P.info? t with
      | none => rw [hi] at hz; cases hz
      | some ti =>
        cases hz' : ti.zero with
        | none => rw [hi] at hz; simp [hz'] at hz
        | some zv =>
          rw [hi] at hz
          simp only [Option.bind_some, hz'] at hz
          obtain ⟨z1, z2⟩ := ofConst_cells (γ := γ) hz
          have hparts : ((parts.map fun (i, x) => (i, ρ x)).toList.map (·.2)) = (parts.toList.map (·.2)).map ρ := by simp
          unfold buildOk at hb
          split at hb
          · rename_i fs hu
            obtain ⟨places, m1, m2⟩ := mapM_places fs.toList hb
            obtain ⟨us', f1, f2, f3⟩ := fill_rel (place := fun i => places.toArray[i]?) (parts := (parts.map fun (i, x) => (i, ρ x)).toList) hf hl
              (by have := placesOf_struct hu (place := fun i => places.toArray[i]?) (fun i f n h1 h2 => by simpa using m2 i f n (by simpa using h1) h2) hp
                  rw [← this]; simp) (by rw [hparts]; exact ha) z1 z2
            exact ⟨.agg us', run_build w t _ _ (by unfold Program.built; simp only [hi, hu, hz', m1]; exact f1), us', rfl, f2, f3⟩
          · rename_i len e hu
            cases he : P.info? e with
            | none => simp [tySize, he] at hb
            | some ei =>
              obtain ⟨us', f1, f2, f3⟩ := fill_rel (place := fun i => some (i * ei.size, ei.size)) (parts := (parts.map fun (i, x) => (i, ρ x)).toList) hf hl
                (by have := placesOf_array hu (n := ei.size) (by simp [tySize, he]) hp
                    rw [← this]; simp) (by rw [hparts]; exact ha) z1 z2
              exact ⟨.agg us', run_build w t _ _ (by unfold Program.built; simp only [hi, hu, hz', he]; exact f1), us', rfl, f2, f3⟩
          · cases hb
  · cases h
end
end Go.Am
