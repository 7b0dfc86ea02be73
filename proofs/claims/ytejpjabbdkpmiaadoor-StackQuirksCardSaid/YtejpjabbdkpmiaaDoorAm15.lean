/-
  Simulation of operations, eighth part: the pure operations that leave the world alone, put together. No law is claimed here.
-/
import Derived.Test.YtejpjabbdkpmiaaDoorAm14
set_option linter.unusedSimpArgs false
set_option linter.unusedVariables false
namespace Go.Am
open Go

/-- The pure operations that make no new block. -/
def POp.still : POp → Bool
  | .append _ _ | .mksl _ | .s2b | .b2s => false
  | _ => true

theorem aop_some {p : POp} {dst : Option Nat} {x : Option (List AVal)} {r : OpR} (h : aop p dst x = some r) : ∃ args, x = some args ∧ r = .op p args dst false none := by
  cases x with
  | none => cases h
  | some args => cases h; exact ⟨args, rfl, rfl⟩

section
variable {C : Ctx} {γ0 γ : Gh} {w0 w : World} {β : Nat → Nat} {σ : Env} {h : AHeap} {a : Act} {fid : FuncId} {ops : List Oper}

/-- What is shown of one operation: what it computes. -/
def Stills (P : Program) (γ : Gh) (a : Act) (o : Oper) (w : World) (p : POp) (args : List AVal) : Prop :=
  ∀ u, peval p args = some u → ∃ v, (execOp a.eval o).run P w = .ok (.value v) w ∧ VRel γ u v

theorem run_value {P : Program} {s : Sem Value} {v : Value} (hs : s.run P w = .ok v w) : (do pure (Next.value (← s)) : Sem Next).run P w = .ok (.value v) w := by
  simp [hs]

theorem still_pick {o : Oper} {c x y : Operand} (ho : o.op = .pick c x y) (hr : Rel C γ0 w0 γ β σ h a w) {args : List AVal} (ha : opVals C σ [c, x, y] = some args) : Stills C.P γ a o w .pick args := by
  intro u hu
  simp only [peval] at hu
  split at hu
  · rename_i b p q
    cases hu
    obtain ⟨_, _, _, e, h1, h2, h3⟩ := (opVals_rel hr ha).three
    simp only [List.map_cons, List.map_nil, List.cons.injEq] at e
    obtain ⟨e1, e2, e3, _⟩ := e
    rw [← e1] at h1; rw [← e2] at h2; rw [← e3] at h3
    refine ⟨if b then a.eval x else a.eval y, ?_, by cases b <;> simpa⟩
    simp [execOp, ho, rel_bool h1, asBool]
  · cases hu

theorem still_bin {o : Oper} {op : BinOp} {t : TypeId} {x y : Operand} {p : POp} (hp : binKind C.P op t = some p) (he : execOp a.eval o = (do pure (Next.value (← (do eqGuard op t x y (a.eval x) (a.eval y); binOp op t (a.eval x) (a.eval y) : Sem Value)))))
    (hr : Rel C γ0 w0 γ β σ h a w) {args : List AVal} (ha : opVals C σ [x, y] = some args) : Stills C.P γ a o w p args := by
  intro u hu
  obtain ⟨v, p1, p2⟩ := run_binKind (w := w) hp x y (opVals_rel hr ha) hu
  exact ⟨v, by rw [he]; exact run_value p1, p2⟩

theorem args_one (hr : Rel C γ0 w0 γ β σ h a w) {x : Operand} {args : List AVal} (ha : opVals C σ [x] = some args) : ∃ u, args = [u] ∧ VRel γ u (a.eval x) := by
  have h1 := opVals_rel hr ha
  cases args with
  | nil => cases h1
  | cons u us =>
    obtain ⟨_, _, e, h2, h3⟩ := h1.cons_inv
    cases e
    cases us with
    | nil => exact ⟨u, rfl, h2⟩
    | cons _ _ => obtain ⟨_, _, e, _⟩ := h3.cons_inv; cases e

theorem args_two (hr : Rel C γ0 w0 γ β σ h a w) {x y : Operand} {args : List AVal} (ha : opVals C σ [x, y] = some args) : ∃ u v, args = [u, v] ∧ VRel γ u (a.eval x) ∧ VRel γ v (a.eval y) := by
  have h1 := opVals_rel hr ha
  cases args with
  | nil => cases h1
  | cons u us =>
    obtain ⟨_, _, e, h2, h3⟩ := h1.cons_inv
    cases e
    cases us with
    | nil => cases h3
    | cons v vs =>
      obtain ⟨_, _, e, h4, h5⟩ := h3.cons_inv
      cases e
      cases vs with
      | nil => exact ⟨u, v, rfl, h2, h4⟩
      | cons _ _ => obtain ⟨_, _, e, _⟩ := h5.cons_inv; cases e

theorem still_un {o : Oper} {op : UnOp} {x : Operand} (he : execOp a.eval o = (do pure (Next.value (← Op.unary op (a.eval x)))))
    (hr : Rel C γ0 w0 γ β σ h a w) {args : List AVal} (ha : opVals C σ [x] = some args) : Stills C.P γ a o w (.un op) args := by
  intro u hu
  obtain ⟨v, rfl, h1⟩ := args_one hr ha
  simp only [peval] at hu
  obtain ⟨r, p1, p2⟩ := run_un (P := C.P) (w := w) h1 hu
  exact ⟨r, by rw [he]; exact run_value p1, p2⟩

theorem still_conv {o : Oper} {src dst : TypeId} {k l : IntKind} {x : Operand} (hs : C.P.underlying src = some (.int l)) (hd : C.P.underlying dst = some (.int k)) (he : execOp a.eval o = (do pure (Next.value (← convert src dst (a.eval x)))))
    (hr : Rel C γ0 w0 γ β σ h a w) {args : List AVal} (ha : opVals C σ [x] = some args) : Stills C.P γ a o w (.conv k) args := by
  intro u hu
  obtain ⟨v, rfl, h1⟩ := args_one hr ha
  simp only [peval] at hu
  split at hu
  · rename_i e
    cases e; cases hu
    rw [rel_int h1] at he
    exact ⟨_, by rw [he]; exact run_value (run_conv_int hs hd), rfl⟩
  · cases hu

theorem still_field {o : Oper} {t : TypeId} {x : Operand} {f off : Nat} {sh : Option Nat} (hf : fieldOff C.P t f = some (off, sh)) (he : execOp a.eval o = (do pure (Next.value (← Instr.field t (a.eval x) f))))
    (hr : Rel C γ0 w0 γ β σ h a w) {args : List AVal} (ha : opVals C σ [x] = some args) : Stills C.P γ a o w (.part off sh) args := by
  intro u hu
  obtain ⟨v, rfl, h1⟩ := args_one hr ha
  simp only [peval] at hu
  split at hu
  · rename_i e
    cases e
    obtain ⟨r, p1, p2⟩ := run_field (w := w) hf h1 hu
    exact ⟨r, by rw [he]; exact run_value p1, p2⟩
  · cases hu

theorem still_fieldAddr {o : Oper} {t : TypeId} {x : Operand} {f off : Nat} {sh : Option Nat} (hf : fieldOff C.P t f = some (off, sh)) (he : execOp a.eval o = (do pure (Next.value (← Instr.fieldAt t (a.eval x) f))))
    (hr : Rel C γ0 w0 γ β σ h a w) {args : List AVal} (ha : opVals C σ [x] = some args) : Stills C.P γ a o w (.faddr off) args := by
  intro u hu
  obtain ⟨v, rfl, h1⟩ := args_one hr ha
  simp only [peval] at hu
  obtain ⟨r, p1, p2⟩ := run_fieldAt (w := w) hf h1 hu
  exact ⟨r, by rw [he]; exact run_value p1, p2⟩

theorem still_ext {o : Oper} {x : Operand} {i : Nat} (he : execOp a.eval o = (do pure (Next.value (← Instr.extract (a.eval x) i))))
    (hr : Rel C γ0 w0 γ β σ h a w) {args : List AVal} (ha : opVals C σ [x] = some args) : Stills C.P γ a o w (.ext i) args := by
  intro u hu
  obtain ⟨v, rfl, h1⟩ := args_one hr ha
  simp only [peval] at hu
  split at hu
  · rename_i e
    cases e
    obtain ⟨r, p1, p2⟩ := run_ext (P := C.P) (w := w) h1 hu
    exact ⟨r, by rw [he]; exact run_value p1, p2⟩
  · cases hu

theorem still_index_str {o : Oper} {t : TypeId} {x y : Operand} (ht : C.P.underlying t = some .string) (he : execOp a.eval o = (do pure (Next.value (← Instr.index t (a.eval x) (a.eval y)))))
    (hr : Rel C γ0 w0 γ β σ h a w) {args : List AVal} (ha : opVals C σ [x, y] = some args) : Stills C.P γ a o w .sidx args := by
  intro u hu
  obtain ⟨p, q, rfl, h1, h2⟩ := args_two hr ha
  simp only [peval] at hu
  split at hu
  · rename_i e
    cases e
    split at hu
    · rename_i s k i h0
      cases hb : s[i.toNat]? with
      | none => rw [hb] at hu; cases hu
      | some b =>
        rw [hb] at hu; cases hu
        rw [rel_str h1, rel_int h2] at he
        exact ⟨_, by rw [he]; exact run_value (run_index_str ht h0 hb), rfl⟩
    · cases hu
  · cases hu

theorem still_index_arr {o : Oper} {t e : TypeId} {len n : Nat} {sh : Option Nat} {x y : Operand} (ht : C.P.underlying t = some (.array len e)) (hn : tySize C.P e = some n) (hsh : tyShape C.P e = some sh) (he : execOp a.eval o = (do pure (Next.value (← Instr.index t (a.eval x) (a.eval y)))))
    (hr : Rel C γ0 w0 γ β σ h a w) {args : List AVal} (ha : opVals C σ [x, y] = some args) : Stills C.P γ a o w (.aidx len n sh) args := by
  intro u hu
  obtain ⟨p, q, rfl, h1, h2⟩ := args_two hr ha
  simp only [peval] at hu
  split at hu
  · rename_i e
    cases e
    rename_i cs k i
    cases hb : idxOf i len with
    | none => rw [hb] at hu; cases hu
    | some j =>
      rw [hb] at hu
      simp only [Option.bind_some] at hu
      rw [rel_int h2] at he
      obtain ⟨r, p1, p2⟩ := run_index_arr (w := w) (k := k) ht hn hsh h1 hb hu
      exact ⟨r, by rw [he]; exact run_value p1, p2⟩
  · cases hu

theorem still_elemAddr {o : Oper} {t e : TypeId} {n : Nat} {x y : Operand} (ht : C.P.underlying t = some (.slice e)) (hn : tySize C.P e = some n) (he : execOp a.eval o = (do pure (Next.value (← Instr.indexAt t (a.eval x) (a.eval y)))))
    (hr : Rel C γ0 w0 γ β σ h a w) {args : List AVal} (ha : opVals C σ [x, y] = some args) : Stills C.P γ a o w (.eaddr n) args := by
  intro u hu
  obtain ⟨p, q, rfl, h1, h2⟩ := args_two hr ha
  simp only [peval] at hu
  split at hu
  · rename_i e
    cases e
    rename_i k i
    rw [rel_int h2] at he
    obtain ⟨r, p1, p2⟩ := run_elemAt (w := w) (k := k) ht hn h1 hu
    exact ⟨r, by rw [he]; exact run_value p1, p2⟩
  · cases hu

theorem still_arrAddr {o : Oper} {t e : TypeId} {len n : Nat} {x y : Operand} (ht : C.P.underlying t = some (.array len e)) (hn : tySize C.P e = some n) (he : execOp a.eval o = (do pure (Next.value (← Instr.indexAt t (a.eval x) (a.eval y)))))
    (hr : Rel C γ0 w0 γ β σ h a w) {args : List AVal} (ha : opVals C σ [x, y] = some args) : Stills C.P γ a o w (.aaddr len n) args := by
  intro u hu
  obtain ⟨p, q, rfl, h1, h2⟩ := args_two hr ha
  simp only [peval] at hu
  split at hu
  · rename_i e
    cases e
    rename_i k i
    cases hb : idxOf i len with
    | none => rw [hb] at hu; cases hu
    | some j =>
      rw [hb] at hu
      simp only [Option.bind_some] at hu
      rw [rel_int h2] at he
      obtain ⟨r, p1, p2⟩ := run_arrAt (w := w) (k := k) ht hn h1 hb hu
      exact ⟨r, by rw [he]; exact run_value p1, p2⟩
  · cases hu

theorem still_slice {o : Oper} {t : TypeId} {x : Operand} {lo hi : Option Operand} {isStr : Bool} {size : Nat} (ht : if isStr = true then C.P.underlying t = some .string else ∃ e, C.P.underlying t = some (.slice e) ∧ tySize C.P e = some size)
    (he : execOp a.eval o = (do pure (Next.value (← Instr.sliceAt t (a.eval x) (lo.map a.eval) (hi.map a.eval) none))))
    (hr : Rel C γ0 w0 γ β σ h a w) {args : List AVal} (ha : opVals C σ (x :: (lo.toList ++ hi.toList)) = some args) : Stills C.P γ a o w (.slc size isStr lo.isSome hi.isSome) args := by
  intro u hu
  have h1 := opVals_rel hr ha
  cases args with
  | nil => cases h1
  | cons s as =>
    obtain ⟨_, _, e, h2, h3⟩ := h1.cons_inv
    cases e
    simp only [peval] at hu
    obtain ⟨r, p1, p2⟩ := run_slc (P := C.P) (w := w) (lo := lo.map a.eval) (hi := hi.map a.eval) ht h2 (by cases lo <;> cases hi <;> simpa using h3) (by simpa using hu)
    exact ⟨r, by rw [he]; exact run_value p1, p2⟩

theorem still_build {o : Oper} {t : TypeId} {parts : Array (Nat × Operand)} {z : AVal} {ps : List (Nat × Nat)} (hz : tyZero C.P t = some z) (hp : placesOf C.P t parts.toList = some ps) (hb : buildOk C.P t = true)
    (he : execOp a.eval o = (do pure (Next.value (← Instr.build t (parts.map fun (i, x) => (i, a.eval x))))))
    (hr : Rel C γ0 w0 γ β σ h a w) {args : List AVal} (ha : opVals C σ (parts.toList.map (·.2)) = some args) : Stills C.P γ a o w (.mkagg z.cells ps) args := by
  intro u hu
  obtain ⟨r, p1, p2⟩ := run_mkagg (w := w) hz hp hb (opVals_rel hr ha) hu
  exact ⟨r, by rw [he]; exact run_value p1, p2⟩

theorem still_nonnil {o : Oper} {x : Operand} (ho : o.op = .nilCheck x) (hr : Rel C γ0 w0 γ β σ h a w) {args : List AVal} (ha : opVals C σ [x] = some args) : Stills C.P γ a o w .nonnil args := by
  intro u hu
  obtain ⟨v, rfl, h1⟩ := args_one hr ha
  simp only [peval, nonnilOf] at hu
  split at hu
  · rename_i p
    cases hu
    obtain ⟨i, k⟩ := p
    obtain ⟨b, hb, hv⟩ := h1
    exact ⟨_, by simp only [execOp, ho, hv]; rfl, b, hb, rfl⟩
  · cases hu
    obtain ⟨b, k, hv, hm⟩ := h1
    exact ⟨_, by simp only [execOp, ho, hv]; rfl, b, k, rfl, hm⟩
  · cases hu
    obtain ⟨fs, cs, hv, p, q⟩ := h1
    exact ⟨_, by simp only [execOp, ho, hv]; rfl, fs, cs, rfl, p, q⟩
  · cases hu

theorem opVals_length : ∀ {xs : List Operand} {us : List AVal}, opVals C σ xs = some us → us.length = xs.length
  | [], us, h => by cases h; rfl
  | x :: xs, us, h => by
    unfold opVals at h
    split at h
    · rename_i u us' h1 h2
      cases h
      simp [opVals_length h2]
    · cases h

theorem exec_builtin {P : Program} {o : Oper} {c : Call} {b : Builtin} {s : Sem Value} (ho : o.op = .call c) (hc : c.callee = .builtin b) (hs : builtin b c.argTypes o.type (c.args.map fun | .const _ => true | _ => false) (c.args.map a.eval) = (do pure (Next.value (← s)))) {v : Value}
    (hv : s.run P w = .ok v w) : (execOp a.eval o).run P w = .ok (.value v) w := by
  have : execOp a.eval o = (do pure (Next.value (← s))) := by
    rw [← hs]
    simp only [execOp, ho, resolve, hc]
    rfl
  rw [this]; exact run_value hv

theorem still_len {o : Oper} {c : Call} {t : TypeId} {isStr : Bool} (ho : o.op = .call c) (hc : c.callee = .builtin .len) (h0 : c.argTypes[0]? = some t) (ht : if isStr = true then C.P.underlying t = some .string else ∃ e, C.P.underlying t = some (.slice e))
    (hr : Rel C γ0 w0 γ β σ h a w) {args : List AVal} (ha : opVals C σ c.args.toList = some args) : Stills C.P γ a o w (.len isStr) args := by
  intro u hu
  simp only [peval] at hu
  split at hu
  · rename_i s
    have hl := opVals_length ha
    obtain ⟨x, hx⟩ : ∃ x, c.args.toList = [x] := List.length_eq_one_iff.1 hl.symm
    rw [hx] at ha
    obtain ⟨_, e, h1⟩ := args_one hr ha
    cases e
    obtain ⟨r, p1, p2⟩ := run_len (P := C.P) (w := w) (ty := o.type) ht h0 h1 hu
    have e : c.args.map a.eval = #[a.eval x] := by
      apply Array.ext'; simp [hx]
    exact ⟨r, exec_builtin ho hc (s := Builtin.len_ c.argTypes o.type #[a.eval x]) (by rw [e]; rfl) p1, p2⟩
  · cases hu

theorem still_minmax {o : Oper} {c : Call} {isMax : Bool} (ho : o.op = .call c) (hc : c.callee = .builtin (if isMax then .max else .min)) (hr : Rel C γ0 w0 γ β σ h a w) {args : List AVal} (ha : opVals C σ c.args.toList = some args) : Stills C.P γ a o w (.minmax isMax) args := by
  intro u hu
  simp only [peval] at hu
  split at hu
  · rename_i k p l q
    split at hu
    · rename_i hk
      subst hk
      cases hu
      have hl := opVals_length ha
      obtain ⟨x, y, hx⟩ : ∃ x y, c.args.toList = [x, y] := by
        cases hq : c.args.toList with
        | nil => rw [hq] at hl; simp at hl
        | cons x xs => cases xs with
          | nil => rw [hq] at hl; simp at hl
          | cons y ys => cases ys with
            | nil => exact ⟨x, y, rfl⟩
            | cons _ _ => rw [hq] at hl; simp at hl
      rw [hx] at ha
      obtain ⟨_, _, e, h1, h2⟩ := args_two hr ha
      cases e
      have e : c.args.map a.eval = #[.int k p, .int k q] := by
        apply Array.ext'; simp [hx, rel_int h1, rel_int h2]
      cases isMax with
      | true => exact ⟨_, exec_builtin ho hc (s := Builtin.max_ c.argTypes o.type #[.int k p, .int k q]) (by rw [e]; rfl) (by simp [Builtin.max_, Builtin.max2]), rfl⟩
      | false => exact ⟨_, exec_builtin ho hc (s := Builtin.min_ c.argTypes o.type #[.int k p, .int k q]) (by rw [e]; rfl) (by simp [Builtin.min_, Builtin.min2]), rfl⟩
    · cases hu
  · cases hu
end
end Go.Am
