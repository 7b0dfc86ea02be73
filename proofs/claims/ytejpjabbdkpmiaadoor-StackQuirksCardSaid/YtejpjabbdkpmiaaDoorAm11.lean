/-
  Simulation of operations, fourth part: further pure operations. No law is claimed here.
-/
import Derived.Test.YtejpjabbdkpmiaaDoorAm10
import Derived.Laws.Slices
set_option linter.unusedSimpArgs false
set_option linter.unusedVariables false
namespace Go.Am
open Go

section
variable {P : Program} {γ : Gh} {w : World}

theorem rel_bool {a : Bool} {v : Value} (h : VRel γ (.bool a) v) : v = .bool a := h
theorem rel_int {k : IntKind} {a : Int} {v : Value} (h : VRel γ (.int k a) v) : v = .int k a := h
theorem rel_str {a : Bytes} {v : Value} (h : VRel γ (.str a) v) : v = .string ⟨⟨a⟩⟩ := h

theorem VRelV.nil_inv {us : List Value} (h : VRelV γ [] us) : us = [] := h
theorem VRelV.cons_inv {a : AVal} {l : List AVal} {us : List Value} (h : VRelV γ (a :: l) us) : ∃ u us', us = u :: us' ∧ VRel γ a u ∧ VRelV γ l us' := h
theorem VRelV.one {a : AVal} {us : List Value} (h : VRelV γ [a] us) : ∃ u, us = [u] ∧ VRel γ a u := by
  obtain ⟨u, us', rfl, h1, h2⟩ := h
  rw [h2.nil_inv]; exact ⟨u, rfl, h1⟩
theorem VRelV.two {a b : AVal} {us : List Value} (h : VRelV γ [a, b] us) : ∃ u v, us = [u, v] ∧ VRel γ a u ∧ VRel γ b v := by
  obtain ⟨u, us', rfl, h1, h2⟩ := h
  obtain ⟨v, rfl, h3⟩ := h2.one
  exact ⟨u, v, rfl, h1, h3⟩
theorem VRelV.three {a b c : AVal} {us : List Value} (h : VRelV γ [a, b, c] us) : ∃ u v x, us = [u, v, x] ∧ VRel γ a u ∧ VRel γ b v ∧ VRel γ c x := by
  obtain ⟨u, us', rfl, h1, h2⟩ := h
  obtain ⟨v, x, rfl, h3, h4⟩ := h2.two
  exact ⟨u, v, x, rfl, h1, h3, h4⟩

/-- Values that are compared by the general rule, without a guard. -/
def Value.plainEq : Value → Bool
  | .bool _ | .pointer _ | .slice _ _ _ | .func _ _ _ | .nilFunc | .map _ => true
  | _ => false

theorem run_eq_of {op : BinOp} {neg : Bool} (hop : (op = .eql ∧ neg = false) ∨ (op = .neq ∧ neg = true)) (t : TypeId) (ox oy : Operand) {x y : Value} (hx : Value.plainEq x = true) (hy : Value.plainEq y = true) {e : Bool}
    (he : (Op.equal t x y).run P w = .ok e w) : (do eqGuard op t ox oy x y; binOp op t x y : Sem Value).run P w = .ok (.bool (e != neg)) w := by
  have hg : eqGuard op t ox oy x y = pure () := by
    rcases hop with ⟨rfl, _⟩ | ⟨rfl, _⟩ <;> cases x <;> simp [Value.plainEq] at hx <;> rfl
  rw [hg]
  rcases hop with ⟨rfl, rfl⟩ | ⟨rfl, rfl⟩
  · have hb : binOp .eql t x y = (do pure (.bool (← Op.equal t x y))) := by
      cases x <;> simp [Value.plainEq] at hx <;> cases y <;> simp [Value.plainEq] at hy <;> rfl
    simp [hb, he]
  · have hb : binOp .neq t x y = (do pure (.bool (!(← Op.equal t x y)))) := by
      cases x <;> simp [Value.plainEq] at hx <;> cases y <;> simp [Value.plainEq] at hy <;> rfl
    simp [hb, he]

theorem run_pop_beq {op : BinOp} {neg : Bool} (hop : (op = .eql ∧ neg = false) ∨ (op = .neq ∧ neg = true)) (t : TypeId) (ox oy : Operand) (ht : P.underlying t = some .bool) (a b : Bool) :
    (do eqGuard op t ox oy (.bool a) (.bool b); binOp op t (.bool a) (.bool b) : Sem Value).run P w = .ok (.bool ((a == b) != neg)) w :=
  run_eq_of hop t ox oy rfl rfl (run_equalIn_bool' w 9999 t a b ht)

theorem run_equalIn_ptr {d : Nat} {t e : TypeId} (ht : P.underlying t = some (.pointer e)) (hz : ∃ n, tySize P e = some (n + 1)) {a b : AVal} {x y : Value} (hx : VRel γ a x) (hy : VRel γ b y) {r : Bool} (h : ptrEq a b = some r) :
    (Op.equalIn (d + 1) t x y).run P w = .ok r w ∧ Value.plainEq x = true ∧ Value.plainEq y = true := by
  obtain ⟨n, hn⟩ := hz
  unfold ptrEq at h
  split at h
  · rename_i q
    cases h
    rw [show x = .pointer none from hx]
    have : ∃ p, y = .pointer p ∧ p.isNone = q.isNone := by
      cases q with
      | none => exact ⟨none, hy, rfl⟩
      | some p => obtain ⟨i, o⟩ := p; obtain ⟨b, _, rfl⟩ := hy; exact ⟨_, rfl, rfl⟩
    obtain ⟨p, rfl, hp⟩ := this
    exact ⟨by simp [Op.equalIn, run_underlying ht, hp], rfl, rfl⟩
  · rename_i p
    cases h
    obtain ⟨i, o⟩ := p
    obtain ⟨b, _, rfl⟩ := hx
    rw [show y = .pointer none from hy]
    exact ⟨by simp [Op.equalIn, run_underlying ht], rfl, rfl⟩
  · rename_i p q
    split at h
    · rename_i he
      cases h
      subst he
      obtain ⟨i, o⟩ := p
      obtain ⟨b, hb, rfl⟩ := hx
      obtain ⟨b', hb', rfl⟩ := hy
      rw [hb] at hb'; cases hb'
      exact ⟨by simp [Op.equalIn, run_underlying ht, run_sizeOf hn, sameAddr], rfl, rfl⟩
    · cases h
  · cases h
    rw [show x = .pointer none from hx]
    obtain ⟨b, o, rfl, _⟩ := hy
    exact ⟨by simp [Op.equalIn, run_underlying ht], rfl, rfl⟩
  · cases h
    rw [show y = .pointer none from hy]
    obtain ⟨b, o, rfl, _⟩ := hx
    exact ⟨by simp [Op.equalIn, run_underlying ht], rfl, rfl⟩
  · cases h

theorem run_equalIn_slice {d : Nat} {t e : TypeId} (ht : P.underlying t = some (.slice e)) {p q : Option Addr} {n c m k : Nat} (h : p = none ∨ q = none) :
    (Op.equalIn (d + 1) t (.slice p n c) (.slice q m k)).run P w = .ok (p.isNone && q.isNone) w := by
  cases p <;> cases q <;> simp at h <;> simp [Op.equalIn, run_underlying ht]

theorem run_equalIn_fn {d : Nat} {t : TypeId} {a b : Array TypeId} {c : Bool} (ht : P.underlying t = some (.func a b c)) {f : Fn} {x y : Array Value} :
    (Op.equalIn (d + 1) t .nilFunc .nilFunc).run P w = .ok true w ∧ (Op.equalIn (d + 1) t .nilFunc (.func f x y)).run P w = .ok false w ∧ (Op.equalIn (d + 1) t (.func f x y) .nilFunc).run P w = .ok false w := by
  refine ⟨?_, ?_, ?_⟩ <;> simp [Op.equalIn, run_underlying ht]

theorem run_equalIn_map {d : Nat} {t k e : TypeId} (ht : P.underlying t = some (.map k e)) {p q : Option Nat} (h : p = none ∨ q = none) :
    (Op.equalIn (d + 1) t (.map p) (.map q)).run P w = .ok (p.isNone && q.isNone) w := by
  cases p <;> cases q <;> simp at h <;> simp [Op.equalIn, run_underlying ht]

theorem run_equalIn_nil {d : Nat} {t : TypeId} {k : NK} (ht : match k with | .sl => ∃ e, P.underlying t = some (.slice e) | .fn => ∃ a b c, P.underlying t = some (.func a b c) | .mp => ∃ a b, P.underlying t = some (.map a b))
    {a b : AVal} {x y : Value} (hx : VRel γ a x) (hy : VRel γ b y) {r : Bool} (h : nilEq k a b = some r) :
    (Op.equalIn (d + 1) t x y).run P w = .ok r w ∧ Value.plainEq x = true ∧ Value.plainEq y = true := by
  unfold nilEq at h
  split at h
  case h_1 => obtain ⟨e, ht⟩ := ht; cases h; rw [show x = .slice none 0 0 from hx, show y = .slice none 0 0 from hy]; exact ⟨run_equalIn_slice ht (.inl rfl), rfl, rfl⟩
  case h_2 => obtain ⟨e, ht⟩ := ht; cases h; rw [show x = .slice none 0 0 from hx]; obtain ⟨_, _, rfl, _⟩ := hy; exact ⟨run_equalIn_slice ht (.inl rfl), rfl, rfl⟩
  case h_3 => obtain ⟨e, ht⟩ := ht; cases h; rw [show y = .slice none 0 0 from hy]; obtain ⟨_, _, rfl, _⟩ := hx; exact ⟨run_equalIn_slice ht (.inr rfl), rfl, rfl⟩
  case h_4 => obtain ⟨e, ht⟩ := ht; cases h; rw [show x = .slice none 0 0 from hx]; obtain ⟨_, _, _, rfl, _⟩ := hy; exact ⟨run_equalIn_slice ht (.inl rfl), rfl, rfl⟩
  case h_5 => obtain ⟨e, ht⟩ := ht; cases h; rw [show y = .slice none 0 0 from hy]; obtain ⟨_, _, _, rfl, _⟩ := hx; exact ⟨run_equalIn_slice ht (.inr rfl), rfl, rfl⟩
  case h_6 => obtain ⟨_, _, _, ht⟩ := ht; cases h; rw [show x = .nilFunc from hx, show y = .nilFunc from hy]; exact ⟨(run_equalIn_fn ht (f := .func 0) (x := #[]) (y := #[])).1, rfl, rfl⟩
  case h_7 => obtain ⟨_, _, _, ht⟩ := ht; cases h; rw [show x = .nilFunc from hx]; obtain ⟨_, _, rfl, _⟩ := hy; exact ⟨(run_equalIn_fn ht).2.1, rfl, rfl⟩
  case h_8 => obtain ⟨_, _, _, ht⟩ := ht; cases h; rw [show y = .nilFunc from hy]; obtain ⟨_, _, rfl, _⟩ := hx; exact ⟨(run_equalIn_fn ht).2.2, rfl, rfl⟩
  case h_9 =>
    rename_i q
    obtain ⟨_, _, ht⟩ := ht; cases h; rw [show x = .map none from hx]
    cases q with
    | none => rw [show y = .map none from hy]; exact ⟨run_equalIn_map ht (.inl rfl), rfl, rfl⟩
    | some id => obtain ⟨b, _, rfl⟩ := hy; exact ⟨run_equalIn_map ht (.inl rfl), rfl, rfl⟩
  case h_10 => obtain ⟨_, _, ht⟩ := ht; cases h; rw [show y = .map none from hy]; obtain ⟨b, _, rfl⟩ := hx; exact ⟨run_equalIn_map ht (.inr rfl), rfl, rfl⟩
  · cases h

theorem peval_int {op : BinOp} {args : List AVal} {u : AVal} (h : peval (.int op) args = some u) : ∃ k a l b, args = [.int k a, .int l b] ∧ intOp op k a l b = some u := by
  simp only [peval] at h
  split at h
  · exact ⟨_, _, _, _, rfl, h⟩
  · cases h

theorem peval_str {op : BinOp} {args : List AVal} {u : AVal} (h : peval (.str op) args = some u) : ∃ a b, args = [.str a, .str b] ∧ strOp op a b = some u := by
  simp only [peval] at h
  split at h
  · exact ⟨_, _, rfl, h⟩
  · cases h

/-- All comparisons and arithmetic. -/
theorem run_binKind {op : BinOp} {t : TypeId} {p : POp} (hp : binKind P op t = some p) (ox oy : Operand) {args : List AVal} {x y : Value} (ha : VRelV γ args [x, y]) {u : AVal} (h : peval p args = some u) :
    ∃ v, (do eqGuard op t ox oy x y; binOp op t x y : Sem Value).run P w = .ok v w ∧ VRel γ u v := by
  unfold binKind at hp
  split at hp
  · cases hp
    obtain ⟨k, a, l, b, rfl, h⟩ := peval_int h
    obtain ⟨_, _, e, hx, hy⟩ := ha.two
    cases e
    rw [rel_int hx, rel_int hy]
    exact run_pop_int t ox oy h
  · cases hp
    obtain ⟨a, b, rfl, h⟩ := peval_str h
    obtain ⟨_, _, e, hx, hy⟩ := ha.two
    cases e
    rw [rel_str hx, rel_str hy]
    exact run_pop_str t ox oy h
  · rename_i d h1 h2 hu
    obtain ⟨neg, hop, hp'⟩ : ∃ neg, ((op = .eql ∧ neg = false) ∨ (op = .neq ∧ neg = true)) ∧ eqKind P t neg d = some p := by
      cases op <;> first | cases hp; done | exact ⟨false, .inl ⟨rfl, rfl⟩, hp⟩ | exact ⟨true, .inr ⟨rfl, rfl⟩, hp⟩
    clear h1 h2 hp
    have hp := hp'
    clear hp'
    unfold eqKind at hp
    split at hp
    · cases hp
      simp only [peval] at h
      split at h
      · obtain ⟨_, _, e, hx, hy⟩ := ha.two
        cases e; cases h
        rw [rel_bool hx, rel_bool hy]
        exact ⟨_, run_pop_beq hop t ox oy hu _ _, rfl⟩
      · cases h
    · split at hp
      · rename_i hg
        cases hk : flatK P 20 t with
        | none => rw [hk] at hp; cases hp
        | some ks =>
          rw [hk] at hp; cases hp
          simp only [peval] at h
          split at h
          · obtain ⟨_, _, e, hx, hy⟩ := ha.two
            cases e
            exact run_pop_geq hop hg hk ⟨_, hu⟩ hx hy h
          · cases h
      · cases hp
    · split at hp
      · cases hp
      · rename_i e hz
        cases hp
        simp only [peval] at h
        split at h
        · rename_i a b
          obtain ⟨_, _, e, hx, hy⟩ := ha.two
          cases e
          cases hq : ptrEq a b with
          | none => rw [hq] at h; cases h
          | some r =>
            rw [hq] at h; cases h
            obtain ⟨p1, p2, p3⟩ := run_equalIn_ptr (w := w) (d := 9999) hu (by cases hz' : tySize P e with | none => rw [hz'] at hz; exact absurd rfl hz | some n => cases n with | zero => rw [hz'] at hz; exact absurd rfl hz | succ n => exact ⟨n, rfl⟩) hx hy hq
            exact ⟨_, run_eq_of hop t ox oy p2 p3 p1, rfl⟩
        · cases h
    all_goals first
      | cases hp; done
      | (cases hp
         simp only [peval] at h
         split at h
         · rename_i a b
           obtain ⟨_, _, e, hx, hy⟩ := ha.two
           cases e
           cases hq : nilEq _ a b with
           | none => rw [hq] at h; cases h
           | some r =>
             rw [hq] at h; cases h
             obtain ⟨p1, p2, p3⟩ := run_equalIn_nil (w := w) (P := P) (t := t) (d := 9999) (by first | exact ⟨_, hu⟩ | exact ⟨_, _, hu⟩ | exact ⟨_, _, _, hu⟩) hx hy hq
             exact ⟨_, run_eq_of hop t ox oy p2 p3 p1, rfl⟩
         · cases h)
  · cases hp
end
end Go.Am
