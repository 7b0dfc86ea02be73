/-
  Simulation of operations, fifth part: the other pure operations that leave the world alone. No law is claimed here.
-/
import Derived.Test.YtejpjabbdkpmiaaDoorAm11
set_option linter.unusedSimpArgs false
set_option linter.unusedVariables false
namespace Go.Am
open Go

section
variable {P : Program} {γ : Gh} {w : World}

theorem run_un {op : UnOp} {a u : AVal} {x : Value} (hx : VRel γ a x) (h : unOf op a = some u) : ∃ v, (Op.unary op x).run P w = .ok v w ∧ VRel γ u v := by
  unfold unOf at h
  split at h
  · cases h; rw [rel_bool hx]; exact ⟨_, rfl, rfl⟩
  · cases h; rw [rel_int hx]; exact ⟨_, rfl, rfl⟩
  · rename_i k n
    rw [rel_int hx]
    unfold xorOf at h
    cases hs : semPure (Op.unary .xor (.int k n)) with
    | none => rw [hs] at h; cases h
    | some v =>
      rw [hs] at h
      have e1 := semPure_eq hs
      simp only [Option.bind_some] at h
      split at h
      · cases h; exact ⟨_, by rw [e1]; rfl, rfl⟩
      · cases h
  · cases h

theorem run_conv_int {src dst : TypeId} {k l k' : IntKind} {n : Int} (hs : P.underlying src = some (.int l)) (hd : P.underlying dst = some (.int k)) : (convert src dst (.int k' n)).run P w = .ok (.int k (k.wrap n)) w := by
  simp [convert, run_underlying hs, run_underlying hd, Conv.intToInt]

theorem run_field {t : TypeId} {f off : Nat} {sh : Option Nat} (hf : fieldOff P t f = some (off, sh)) {cs : List AVal} {x : Value} (hx : VRel γ (.agg cs) x) {u : AVal} (h : partOf cs off sh = some u) : ∃ v, (Instr.field t x f).run P w = .ok v w ∧ VRel γ u v := by
  unfold fieldOff at hf
  split at hf
  · rename_i fs hu
    split at hf
    · rename_i fd hfd
      split at hf
      · rename_i n sh' h1 h2
        cases hf
        obtain ⟨us, rfl, hr, h1c⟩ := hx
        obtain ⟨v, p, q⟩ := run_part (w := w) h2 hr h1c h
        exact ⟨v, by simp [Instr.field, run_underlying hu, hfd, asAgg, p], q⟩
      · cases hf
    · cases hf
  · cases hf

theorem idxOf_some {i : Int} {len j : Nat} (h : idxOf i len = some j) : 0 ≤ i ∧ i < len ∧ i.toNat = j := by
  unfold idxOf at h
  split at h
  · rename_i hc; cases h; exact ⟨hc.1, hc.2, rfl⟩
  · cases h

theorem run_index_arr {t e : TypeId} {len n : Nat} {sh : Option Nat} (ht : P.underlying t = some (.array len e)) (hn : tySize P e = some n) (hsh : tyShape P e = some sh) {cs : List AVal} {x : Value} (hx : VRel γ (.agg cs) x) {k : IntKind} {i : Int} {j : Nat}
    (hi : idxOf i len = some j) {u : AVal} (h : partOf cs (j * n) sh = some u) : ∃ v, (Instr.index t x (.int k i)).run P w = .ok v w ∧ VRel γ u v := by
  obtain ⟨us, rfl, hr, h1c⟩ := hx
  obtain ⟨p1, p2, p3⟩ := idxOf_some hi
  obtain ⟨v, p, q⟩ := run_part (w := w) hsh hr h1c h
  exact ⟨v, by simp [Instr.index, asIntOf, run_underlying ht, p1, p2, run_sizeOf hn, p3, p], q⟩

theorem run_index_str {t : TypeId} (ht : P.underlying t = some .string) {s : Bytes} {k : IntKind} {i : Int} {b : UInt8} (h0 : 0 ≤ i) (h : s[i.toNat]? = some b) :
    (Instr.index t (.string ⟨⟨s⟩⟩) (.int k i)).run P w = .ok (.int .u8 b.toNat) w := by
  obtain ⟨hlt, hb⟩ := List.getElem?_eq_some_iff.1 h
  have e : (⟨⟨s⟩⟩ : ByteArray)[i.toNat]? = some b := by
    rw [ByteArray.getElem?_lt' _ _ (show i.toNat < (⟨⟨s⟩⟩ : ByteArray).size from hlt), ← hb]; rfl
  simp [Instr.index, asIntOf, run_underlying ht, h0, e]

theorem off_rel {p u : AVal} {x : Value} {n : Nat} (hx : VRel γ p x) (h : offOf p n = some u) : ∃ a, x = .pointer (some a) ∧ VRel γ u (.pointer (some (a.add n))) := by
  unfold offOf at h
  split at h
  · rename_i cs
    cases h
    obtain ⟨b, o, rfl, hm⟩ := hx
    refine ⟨_, rfl, b, o + n, ?_, hm.drop n⟩
    unfold Addr.add; split <;> simp_all
  · rename_i id o
    cases h
    obtain ⟨b, hb, rfl⟩ := hx
    refine ⟨_, rfl, b, hb, ?_⟩
    unfold Addr.add; split <;> simp_all
  · cases h

theorem run_fieldAt {t : TypeId} {f off : Nat} {sh : Option Nat} (hf : fieldOff P t f = some (off, sh)) {p u : AVal} {x : Value} (hx : VRel γ p x) (h : offOf p off = some u) : ∃ v, (Instr.fieldAt t x f).run P w = .ok v w ∧ VRel γ u v := by
  obtain ⟨a, rfl, hu⟩ := off_rel hx h
  refine ⟨_, ?_, hu⟩
  unfold fieldOff at hf
  split at hf
  · rename_i fs hu'
    split at hf
    · rename_i fd hfd
      split at hf
      · rename_i n sh' h1 h2
        cases hf
        simp [Instr.fieldAt, run_underlying hu', hfd, Instr.sureAddr, fieldPlace, run_sizeOf h1]
      · cases hf
    · cases hf
  · cases hf

theorem run_elemAt {t e : TypeId} {n : Nat} (ht : P.underlying t = some (.slice e)) (hn : tySize P e = some n) {s u : AVal} {x : Value} (hx : VRel γ s x) {k : IntKind} {i : Int} (h : elemOf n s i = some u) :
    ∃ v, (Instr.indexAt t x (.int k i)).run P w = .ok v w ∧ VRel γ u v := by
  have ht' : P.underlying t = some (.slice (P.elem t)) := by simp [Program.elem, ht]
  have he : P.elem t = e := by simp [Program.elem, ht]
  unfold elemOf at h
  split at h
  · rename_i z rows
    split at h
    · rename_i hz
      subst hz
      split at h
      · rename_i h0
        cases hr : rows[i.toNat]? with
        | none => rw [hr] at h; cases h
        | some row =>
          rw [hr] at h; cases h
          obtain ⟨ad, cap, rfl, hc, hsp, hm⟩ := hx
          obtain ⟨hl, hm'⟩ := hm.get hr
          have hlt : i < rows.length := by have := (List.getElem?_eq_some_iff.1 hr).1; omega
          have had := plain_addr hsp hc (by omega)
          generalize ad.block = b at *
          generalize ad.off = o at *
          subst had
          refine ⟨.pointer (some ((⟨b, o, none⟩ : Addr).add (i.toNat * z))), by rw [run_indexAt_slice w t _ _ _ _ _ ht', if_pos ⟨h0, hlt⟩, he, run_sizeOf hn]; rfl, b, o + i.toNat * z, ?_, hm'⟩
          unfold Addr.add; split <;> simp_all
      · cases h
    · cases h
  · rename_i id off len z
    split at h
    · rename_i hz
      subst hz
      cases hj : idxOf i len with
      | none => rw [hj] at h; cases h
      | some j =>
        rw [hj] at h; cases h
        obtain ⟨p1, p2, p3⟩ := idxOf_some hj
        subst p3
        obtain ⟨b, cap, hb, rfl, hc, hz⟩ := hx
        refine ⟨.pointer (some ((⟨b, off, none⟩ : Addr).add (i.toNat * z))), by rw [run_indexAt_slice w t _ _ _ _ _ ht', if_pos ⟨p1, p2⟩, he, run_sizeOf hn]; rfl, b, hb, ?_⟩
        unfold Addr.add; split <;> simp_all
    · cases h
  · cases h

theorem run_arrAt {t e : TypeId} {len n : Nat} (ht : P.underlying t = some (.array len e)) (hn : tySize P e = some n) {p u : AVal} {x : Value} (hx : VRel γ p x) {k : IntKind} {i : Int} {j : Nat} (hj : idxOf i len = some j) (h : offOf p (j * n) = some u) :
    ∃ v, (Instr.indexAt t x (.int k i)).run P w = .ok v w ∧ VRel γ u v := by
  have ht' : P.underlying t = some (.array (P.arrayLen t) (P.elem t)) := by simp [Program.elem, Program.arrayLen, ht]
  have he : P.elem t = e := by simp [Program.elem, ht]
  have hl : P.arrayLen t = len := by simp [Program.arrayLen, ht]
  obtain ⟨a, rfl, hu⟩ := off_rel hx h
  obtain ⟨p1, p2, p3⟩ := idxOf_some hj
  subst p3
  exact ⟨_, by rw [run_indexAt_array w t _ _ _ ht', hl, if_pos ⟨p1, p2⟩, he, run_sizeOf hn]; rfl, hu⟩

theorem run_len {t ty : TypeId} {isStr : Bool} (ht : if isStr = true then P.underlying t = some .string else ∃ e, P.underlying t = some (.slice e)) {ts : Array TypeId} (hts : ts[0]? = some t) {s u : AVal} {x : Value} (hx : VRel γ s x) (h : lenOf isStr s = some u) :
    ∃ v, (Builtin.len_ ts ty #[x]).run P w = .ok v w ∧ VRel γ u v := by
  cases isStr with
  | true =>
    replace ht : P.underlying t = some .string := ht
    unfold lenOf at h
    split at h <;> first | cases h; done | skip
    simp only [if_true] at h
    cases h
    rw [rel_str hx]
    refine ⟨_, by simp [Builtin.len_, hts, run_underlying ht]; rfl, rfl⟩
  | false =>
    obtain ⟨e, ht⟩ : ∃ e, P.underlying t = some (.slice e) := ht
    unfold lenOf at h
    split at h
    · cases h; obtain ⟨ad, cap, rfl, _⟩ := hx; exact ⟨_, by simp [Builtin.len_, hts, run_underlying ht]; rfl, rfl⟩
    · cases h; obtain ⟨b, cap, _, rfl, _⟩ := hx; exact ⟨_, by simp [Builtin.len_, hts, run_underlying ht]; rfl, rfl⟩
    · cases h; rw [show x = .slice none 0 0 from hx]; exact ⟨_, by simp [Builtin.len_, hts, run_underlying ht]; rfl, rfl⟩
    · cases h
    · cases h

theorem run_ext {vs : List AVal} {x : Value} (hx : VRel γ (.tuple vs) x) {i : Nat} {u : AVal} (h : vs[i]? = some u) : ∃ v, (Instr.extract x i).run P w = .ok v w ∧ VRel γ u v := by
  obtain ⟨us, rfl, hr⟩ := hx
  obtain ⟨v, hv, q⟩ := hr.get h
  exact ⟨v, by have : us[i]? = some v := by simpa using hv
               simp [Instr.extract, this], q⟩
end
end Go.Am
