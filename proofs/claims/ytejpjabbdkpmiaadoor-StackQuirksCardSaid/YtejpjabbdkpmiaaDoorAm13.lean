/-
  Simulation of operations, sixth part: slices of slices and strings, and what is left of the pure operations. No law is claimed here.
-/
import Derived.Test.YtejpjabbdkpmiaaDoorAm12
set_option linter.unusedSimpArgs false
set_option linter.unusedVariables false
namespace Go.Am
open Go

section
variable {P : Program} {γ : Gh} {w : World}

theorem bound_some {n : Int} {top j : Nat} (h : bound n top = some j) : 0 ≤ n ∧ n ≤ top ∧ n.toNat = j := by
  unfold bound at h
  split at h
  · rename_i hc; cases h; exact ⟨hc.1, hc.2, rfl⟩
  · cases h

theorem run_bounds {lo hi : Option Value} {as : List AVal} {len cap l h : Nat} {isSlice : Bool} (hb : boundsOf lo.isSome hi.isSome len as = some (l, h)) (hr : VRelV γ as (lo.toList ++ hi.toList)) (hc : len ≤ cap) :
    (Instr.sliceBounds isSlice len cap lo hi none).run P w = .ok (l, h, cap) w ∧ l ≤ h ∧ h ≤ len := by
  cases lo <;> cases hi <;> simp only [Option.isSome, boundsOf] at hb
  · split at hb
    · cases hb; exact ⟨by simp [Instr.sliceBounds], Nat.zero_le _, Nat.le_refl _⟩
    · cases hb
  · rename_i hv
    split at hb
    · rename_i k h'
      cases hh : bound h' len with
      | none => rw [hh] at hb; cases hb
      | some j =>
        rw [hh] at hb; cases hb
        obtain ⟨p1, p2, p3⟩ := bound_some hh
        obtain ⟨_, e, hx⟩ := hr.one
        cases e
        rw [rel_int hx]
        refine ⟨?_, Nat.zero_le _, by omega⟩
        have : h' ≤ (cap : Int) := by omega
        simp [Instr.sliceBounds, run_sliceBound, p1, this, p3]
    · cases hb
  · rename_i lv
    split at hb
    · rename_i k l'
      cases hh : bound l' len with
      | none => rw [hh] at hb; cases hb
      | some j =>
        rw [hh] at hb; cases hb
        obtain ⟨p1, p2, p3⟩ := bound_some hh
        obtain ⟨_, e, hx⟩ := hr.one
        cases e
        rw [rel_int hx]
        refine ⟨?_, by omega, Nat.le_refl _⟩
        simp [Instr.sliceBounds, run_sliceBound, p1, p2, p3]
    · cases hb
  · rename_i lv hv
    split at hb
    · rename_i k l' k' h'
      cases hh : bound h' len with
      | none => rw [hh] at hb; cases hb
      | some j =>
        rw [hh] at hb
        simp only [Option.bind_some] at hb
        cases hh' : bound l' j with
        | none => rw [hh'] at hb; cases hb
        | some i =>
          rw [hh'] at hb; cases hb
          obtain ⟨p1, p2, p3⟩ := bound_some hh
          obtain ⟨q1, q2, q3⟩ := bound_some hh'
          obtain ⟨_, _, e, hx, hy⟩ := hr.two
          cases e
          rw [rel_int hx, rel_int hy]
          refine ⟨?_, by omega, by omega⟩
          have : h' ≤ (cap : Int) := by omega
          simp [Instr.sliceBounds, run_sliceBound, p1, this, q1, p3, q3, q2]
    · cases hb

theorem VRelR.slice {rows : List (List AVal)} {z b o : Nat} (h : VRelR γ rows z b o) (l k : Nat) : VRelR γ ((rows.take k).drop l) z b (o + l * z) := by
  refine VRelR.of_get fun i r hi => ?_
  rw [List.getElem?_drop, List.getElem?_take] at hi
  split at hi
  · obtain ⟨p, q⟩ := h.get hi
    exact ⟨p, by rw [show o + l * z + i * z = o + (l + i) * z by rw [Nat.add_mul]; omega]; exact q⟩
  · cases hi

theorem run_slc {t : TypeId} {isStr : Bool} {size : Nat} (ht : if isStr = true then P.underlying t = some .string else ∃ e, P.underlying t = some (.slice e) ∧ tySize P e = some size) {s u : AVal} {x : Value} (hx : VRel γ s x) {as : List AVal} {lo hi : Option Value}
    (hr : VRelV γ as (lo.toList ++ hi.toList)) (h : sliceOf size isStr lo.isSome hi.isSome s as = some u) :
    ∃ v, (Instr.sliceAt t x lo hi none).run P w = .ok v w ∧ VRel γ u v := by
  unfold sliceOf at h
  split at h
  · split at h
    · rename_i s his
      subst his
      replace ht : P.underlying t = some .string := ht
      cases hb : boundsOf lo.isSome hi.isSome s.length as with
      | none => rw [hb] at h; cases h
      | some lh =>
        obtain ⟨l, k⟩ := lh
        rw [hb] at h; cases h
        obtain ⟨p1, p2, p3⟩ := run_bounds (P := P) (w := w) (isSlice := false) hb hr (Nat.le_refl _)
        rw [rel_str hx, run_sliceAt_string w t _ _ _ _ ht]
        refine ⟨.string ((⟨⟨s⟩⟩ : ByteArray).extract l k), ?_, ?_⟩
        · have e : (⟨⟨s⟩⟩ : ByteArray).size = s.length := rfl
          simp only [Instr.slice, Sem.run_bind, run_underlying ht, Result.andThen_ok]
          simp only [e, p1, Option.isSome, Bool.false_eq_true, if_false, Sem.run_bind, Sem.run_pure, Result.andThen_ok]
        · show Value.string _ = Value.string _
          congr 1
          apply ByteArray.ext
          apply Array.ext'
          simp [ByteArray.data_extract, List.extract_eq_take_drop, List.drop_take]
    · cases h
  · rename_i z rows
    split at h
    · rename_i hc
      obtain ⟨rfl, rfl⟩ := hc
      obtain ⟨e, ht, hn⟩ : ∃ e, P.underlying t = some (.slice e) ∧ tySize P e = some z := ht
      have ht' : P.underlying t = some (.slice (P.elem t)) := by simp [Program.elem, ht]
      have he : P.elem t = e := by simp [Program.elem, ht]
      obtain ⟨ad, cap, rfl, hc, hsp, hm⟩ := hx
      cases hb : boundsOf lo.isSome hi.isSome rows.length as with
      | none => rw [hb] at h; cases h
      | some lh =>
        obtain ⟨l, k⟩ := lh
        rw [hb] at h; cases h
        obtain ⟨p1, p2, p3⟩ := run_bounds (P := P) (w := w) (isSlice := true) hb hr hc
        rw [run_sliceAt_slice w t _ _ _ _ ht', run_slice_any w t _ _ _ ht', p1, he, Result.andThen_ok, run_sizeOf hn]
        refine ⟨_, rfl, ?_⟩
        show VRel γ (.sl z ((rows.take k).drop l)) (.slice (if cap = l then some ad else Option.map (fun q : Addr => q.add (l * z)) (some ad)) (k - l) (cap - l))
        have hlen : ((rows.take k).drop l).length = k - l := by simp; omega
        by_cases hcl : cap = l
        · have : (rows.take k).drop l = [] := List.eq_nil_of_length_eq_zero (by omega)
          rw [this]
          simp only [hcl, if_true]
          exact ⟨ad, l - l, by simp; omega, by simp, .inr (by omega), trivial⟩
        · rw [if_neg hcl]
          have had : ad = ⟨ad.block, ad.off, none⟩ := by
            rcases hsp with hsp | hsp
            · cases ad; simp_all
            · omega
          generalize ad.block = b at *
          generalize ad.off = o at *
          subst had
          refine ⟨⟨b, o + l * z, none⟩, cap - l, ?_, by omega, .inl rfl, hm.slice l k⟩
          rw [hlen]
          simp only [Option.map_some]
          unfold Addr.add; split <;> simp_all
    · cases h
  · rename_i id off n z
    split at h
    · rename_i hc
      obtain ⟨rfl, rfl⟩ := hc
      obtain ⟨e, ht, hn⟩ : ∃ e, P.underlying t = some (.slice e) ∧ tySize P e = some z := ht
      have ht' : P.underlying t = some (.slice (P.elem t)) := by simp [Program.elem, ht]
      have he : P.elem t = e := by simp [Program.elem, ht]
      obtain ⟨b, cap, hbk, rfl, hc, hz⟩ := hx
      cases hb : boundsOf lo.isSome hi.isSome n as with
      | none => rw [hb] at h; cases h
      | some lh =>
        obtain ⟨l, k⟩ := lh
        rw [hb] at h
        simp only [Option.bind_some] at h
        split at h
        · rename_i hln
          cases h
          obtain ⟨p1, p2, p3⟩ := run_bounds (P := P) (w := w) (isSlice := true) hb hr hc
          rw [run_sliceAt_slice w t _ _ _ _ ht', run_slice_any w t _ _ _ ht', p1, he, Result.andThen_ok, run_sizeOf hn]
          refine ⟨_, rfl, b, cap - l, hbk, ?_, by omega, hz⟩
          show Value.slice (if cap = l then some ⟨b, off, none⟩ else Option.map (fun q : Addr => q.add (l * z)) (some ⟨b, off, none⟩)) (k - l) (cap - l) = _
          rw [if_neg (by omega)]
          simp only [Option.map_some]
          unfold Addr.add; split <;> simp_all
        · cases h
    · cases h
  · split at h
    · cases h
    · rename_i his
      have his : isStr = false := by simpa using his
      subst his
      obtain ⟨e, ht, hn⟩ : ∃ e, P.underlying t = some (.slice e) ∧ tySize P e = some size := ht
      have ht' : P.underlying t = some (.slice (P.elem t)) := by simp [Program.elem, ht]
      have he : P.elem t = e := by simp [Program.elem, ht]
      rw [show x = .slice none 0 0 from hx]
      cases hb : boundsOf lo.isSome hi.isSome 0 as with
      | none => rw [hb] at h; cases h
      | some lh =>
        obtain ⟨l, k⟩ := lh
        rw [hb] at h; cases h
        obtain ⟨p1, p2, p3⟩ := run_bounds (P := P) (w := w) (isSlice := true) hb hr (Nat.le_refl _)
        rw [run_sliceAt_slice w t _ _ _ _ ht', run_slice_any w t _ _ _ ht', p1, he, Result.andThen_ok, run_sizeOf hn]
        refine ⟨_, rfl, ?_⟩
        have : l = 0 := by omega
        subst this
        have : k = 0 := by omega
        subst this
        rfl
  · cases h
end
end Go.Am
