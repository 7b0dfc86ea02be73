/-
  Simulation of operations, fifteenth part: copy, clear, parts behind a slice's end, values in interfaces, maps whose keys are ints. No law is claimed here.
-/
import Derived.Test.YtpikmmnpebamnaaGreatDoorAm21
set_option linter.unusedSimpArgs false
set_option linter.unusedVariables false
namespace Go.Am
open Go

section
variable {C : Ctx} {γ0 γ γ' : Gh} {w0 w w' : World} {β : Nat → Nat} {σ : Env} {h : AHeap} {a : Act} {fid : FuncId} {ops : List Oper}

/-- A row of values goes into an object. -/
theorem putCells (hi : Inv γ h w) {id g off : Nat} {cs avs : List AVal} {news : List Value} (hcs : h[id]? = some (.cells cs)) (hg : γ.mu id = some g) (hv : VRelV γ avs news) (h1 : ∀ u ∈ news, u.oneCell' = true) (hl : off + avs.length ≤ cs.length) :
    ∃ w', (storeCells ⟨g, off, none⟩ news).run C.P w = .ok () w' ∧ Inv γ (h.set id (.cells (cs.take off ++ avs ++ cs.drop (off + avs.length)))) w' ∧ Acc γ w γ w' := by
  obtain ⟨us, e, fr, hw, pf, p5, p6⟩ := hi.cells id cs hcs g hg
  have hnl : news.length = avs.length := hv.length
  have hlt : cs.length ≤ us.size := by have := p5.length; simp at this; omega
  have hs := run_storeCells_cells (P := C.P) g off news 0 w (fun j hj => by
      rw [cell_of_row w _ _ us e fr hw, Nat.add_zero, Array.getElem?_eq_getElem (by omega)]; rfl) (fun j hj => by
      simp only [World.frozen?, hw]
      rcases pf with rfl | hfr
      · simp
      · simp; omega) h1
  rw [Nat.add_zero, setCells_row _ off us w hw (by omega)] at hs
  have hcl : (cs.take off ++ avs ++ cs.drop (off + avs.length)).length = cs.length := by simp; omega
  have htk : ((us.toList.take off ++ news ++ us.toList.drop (off + news.length)).toArray).toList.take (cs.take off ++ avs ++ cs.drop (off + avs.length)).length = (us.toList.take cs.length).take off ++ news ++ (us.toList.take cs.length).drop (off + news.length) := by
    rw [hcl]
    simp only [List.toList_toArray]
    exact splice_take (by simpa using hlt) (by omega) rfl
  obtain ⟨hi', ha⟩ := write_obj hi hcs hg hw (us.toList.take off ++ news ++ us.toList.drop (off + news.length)).toArray (cs.take off ++ avs ++ cs.drop (off + avs.length))
    (by simp only [List.size_toArray, List.length_append, List.length_take, List.length_drop, Array.length_toList]; omega)
    (by rcases pf with rfl | pf
        · exact .inl rfl
        · refine .inr (Nat.le_trans (Nat.le_of_eq ?_) pf)
          simp only [List.size_toArray, List.length_append, List.length_take, List.length_drop, Array.length_toList]
          omega)
    (by rw [htk, hnl]; exact splice_rel p5 hv)
    (by
      rw [htk]
      intro q hq
      rcases List.mem_append.1 hq with hq | hq
      · rcases List.mem_append.1 hq with hq | hq
        · exact p6 q (List.mem_of_mem_take hq)
        · exact h1 q hq
      · exact p6 q (List.mem_of_mem_drop hq))
  exact ⟨_, hs, hi', ha⟩

theorem copy_types {t t' ty : TypeId} {ts : Array TypeId} {xs : Array Value} (h0 : ts[0]? = some t) (h1 : ts[1]? = some t') : Builtin.copy_ ts ty xs = Builtin.copy_ #[t, t'] ty xs := by
  simp only [Builtin.copy_, h0]
  rfl

theorem run_copy {P : Program} {t t' ty e : TypeId} {i : TypeInfo} (ht : P.underlying t = some (.slice e)) (hi : P.info? e = some i) {x : Value} {n : Nat} {news : List Value} (hs : Src P i.size t' x n news w) {base : Option Addr} {k cap : Nat} (hk : n ≤ k)
    (hst : ∀ ad, base = some ad → (storeCells ad news).run P w = .ok () w') (hno : base = none → w' = w) : (Builtin.copy_ #[t, t'] ty #[.slice base k cap, x]).run P w = .ok (.int .i64 n) w' := by
  have hl := hs.len w
  have hc := hs.cells
  have hm : Nat.min n k = n := Nat.min_eq_left hk
  cases base with
  | none =>
    cases hno rfl
    simp [Builtin.copy_, run_underlying ht, hl, hc, sizeOf, typeInfo, hi, hm, goInt]
  | some ad =>
    have h2 := hst ad rfl
    simp [Builtin.copy_, run_underlying ht, hl, hc, sizeOf, typeInfo, hi, hm, goInt, h2]

theorem sim_copy {o : Oper} {c : Call} {t t' e : TypeId} {n : Nat} {s x : Operand} {v u r : AVal} {h' : AHeap} (ho : o.op = .call c) (hc : c.callee = .builtin .copy) (h0 : c.argTypes[0]? = some t) (h1 : c.argTypes[1]? = some t') (hargs : c.args.toList = [s, x]) (ht : C.P.underlying t = some (.slice e))
    (ht' : (∃ e', C.P.underlying t' = some (.slice e')) ∨ C.P.underlying t' = some .string) (hsz : tySize C.P e = some (n + 1)) (hv : opVals C σ [s, x] = some [v, u])
    (hp : hcopy h (n + 1) v u = some (h', r)) (hr : Rel C γ0 w0 γ β σ h a w) : Sim C γ0 w0 o a w (σ.put o.dst (.val r)) h' := by
  obtain ⟨_, _, e0, hvs, hvx⟩ := args_two hr hv
  cases e0
  have heq : c.args.map a.eval = #[a.eval s, a.eval x] := by
    apply Array.ext'; simp [hargs]
  have hex : ∀ v' w', (Builtin.copy_ #[t, t'] o.type #[a.eval s, a.eval x]).run C.P w = .ok v' w' → (execOp a.eval o).run C.P w = .ok (.value v') w' := fun v' w' hrun => by
    have : execOp a.eval o = (do pure (Next.value (← Builtin.copy_ #[t, t'] o.type #[a.eval s, a.eval x]))) := by
      rw [← heq, ← copy_types (ty := o.type) h0 h1]
      simp only [execOp, ho, resolve, hc]
      rfl
    rw [this]; exact run_value' hrun
  cases hi : C.P.info? e with
  | none => simp [tySize, hi] at hsz
  | some i =>
  have his := tySize_info hsz hi
  unfold hcopy at hp
  cases hq : rowsAt h (n + 1) u with
  | none => rw [hq] at hp; cases hp
  | some rows =>
    rw [hq] at hp
    obtain ⟨news, hsrc, hnr, hrl⟩ := rows_src (w := w) ht' hr.inv hvx hq
    have hsrc' : Src C.P i.size t' (a.eval x) rows.length news w := by rw [his]; exact hsrc
    have hnl : news.length = rows.length * (n + 1) := hsrc.newsLen
    have hfl : rows.flatten.length = news.length := by rw [hnr.length]
    simp only at hp
    split at hp
    · split at hp
      · rename_i h0'
        cases hp
        have hse : a.eval s = .slice none 0 0 := hvs
        have hrun := run_copy (t := t) (ty := o.type) (w := w) (w' := w) ht hi hsrc' (base := none) (k := 0) (cap := 0) (by omega) (fun _ e => by cases e) (fun _ => rfl)
        rw [← hse] at hrun
        rw [h0'] at hrun
        exact Sim.value (hex _ _ hrun) (hr.put fun _ _ => rfl)
      · cases hp
    · rename_i id off k z
      split at hp
      · rename_i cs hcs
        split at hp
        · rename_i hcond
          obtain ⟨rfl, hrk, hlen⟩ := hcond
          cases hp
          obtain ⟨g, cap, hg, hse, hkc, hz0, hszg⟩ := (show VRel γ _ _ from hvs)
          have hm := Nat.mul_le_mul_right (n + 1) hrk
          obtain ⟨w', hst, hi', ha'⟩ := putCells (C := C) (off := off) hr.inv hcs hg hnr hsrc.one (by omega)
          have hrun := run_copy (t := t) (ty := o.type) (w := w) (w' := w') ht hi hsrc' (base := some ⟨g, off, none⟩) (k := k) (cap := cap) hrk (fun _ e => by cases e; exact hst) (fun e => by cases e)
          rw [← hse] at hrun
          rw [show rows.length * (n + 1) = rows.flatten.length by rw [hfl, hnl]]
          exact Sim.value (hex _ _ hrun) ((hr.world hi' ha').put fun _ _ => rfl)
        · cases hp
      · cases hp
    · cases hp

theorem clear_types {t ty : TypeId} {ts : Array TypeId} {xs : Array Value} (h0 : ts[0]? = some t) : Builtin.clear_ ts ty xs = Builtin.clear_ #[t] ty xs := by
  simp only [Builtin.clear_, h0]
  rfl

theorem sim_clear {o : Oper} {c : Call} {t e : TypeId} {n : Nat} {s : Operand} {v z r : AVal} {h' : AHeap} (ho : o.op = .call c) (hc : c.callee = .builtin .clear) (h0 : c.argTypes[0]? = some t) (hargs : c.args.toList = [s]) (ht : C.P.underlying t = some (.slice e))
    (hsz : tySize C.P e = some (n + 1)) (hz : tyZero C.P e = some z) (hv : opVals C σ [s] = some [v]) (hp : hclear h (n + 1) z.cells v = some (h', r)) (hr : Rel C γ0 w0 γ β σ h a w) : Sim C γ0 w0 o a w (σ.put o.dst .undef) h' := by
  obtain ⟨_, e0, hvs⟩ := args_one hr hv
  cases e0
  have heq : c.args.map a.eval = #[a.eval s] := by
    apply Array.ext'; simp [hargs]
  have hex : ∀ v' w', (Builtin.clear_ #[t] o.type #[a.eval s]).run C.P w = .ok v' w' → (execOp a.eval o).run C.P w = .ok (.value v') w' := fun v' w' hrun => by
    have : execOp a.eval o = (do pure (Next.value (← Builtin.clear_ #[t] o.type #[a.eval s]))) := by
      rw [← heq, ← clear_types (ty := o.type) h0]
      simp only [execOp, ho, resolve, hc]
      rfl
    rw [this]; exact run_value' hrun
  unfold hclear at hp
  split at hp
  · cases hp
    have hse : a.eval s = .slice none 0 0 := hvs
    have hrun : (Builtin.clear_ #[t] o.type #[a.eval s]).run C.P w = .ok (.tuple #[]) w := by
      rw [hse]; simp [Builtin.clear_, run_underlying ht]
    exact Sim.value (hex _ _ hrun) (hr.put fun _ _ => trivial)
  · rename_i id off k z'
    split at hp
    · rename_i cs hcs
      split at hp
      · rename_i hcond
        obtain ⟨rfl, hzl, hlen⟩ := hcond
        cases hp
        obtain ⟨g, cap, hg, hse, hkc, hz0, hszg⟩ := (show VRel γ _ _ from hvs)
        obtain ⟨zv, hzv, hzr⟩ := run_zeroValue hz
        obtain ⟨q1, q2⟩ := cells_rel (γ := γ) (ofConst_rel hzv) (by omega)
        have hzs : zv.cells.size = n + 1 := by have := q1.length; simp at this; omega
        have hfl : (List.replicate k z.cells).flatten.length = k * (n + 1) := by
          rw [flatten_length (z := n + 1) (fun r hr => by rw [List.eq_of_mem_replicate hr, hzl]), List.length_replicate]
        have hzc : ∀ (j : Nat) (u : Value), (Builtin.zeroCells zv.cells k).toList[j]? = some u → j < k * (n + 1) ∧ zv.cells.toList[j % (n + 1)]? = some u := by
          intro j u hj
          have hjl : j < k * (n + 1) := by
            have := (List.getElem?_eq_some_iff.1 hj).1
            simpa [size_zeroCells, hzs] using this
          refine ⟨hjl, ?_⟩
          have hmod : j % (n + 1) < zv.cells.size := by rw [hzs]; exact Nat.mod_lt _ (Nat.succ_pos n)
          simp only [Builtin.zeroCells, Array.toList_map, List.getElem?_map] at hj
          have hrange : (Array.range (k * zv.cells.size)).toList[j]? = some j := by
            simp [hzs, hjl]
          rw [hrange] at hj
          simp only [Option.map_some, Option.some.injEq] at hj
          rw [hzs] at hj
          rw [← hj]
          simp [hmod]
        have hV : VRelV γ (List.replicate k z.cells).flatten (Builtin.zeroCells zv.cells k).toList := by
          refine VRelV.of_get (by simp only [Array.length_toList, size_zeroCells, hzs, hfl]) fun j x u hx hu => ?_
          obtain ⟨hjl, hju⟩ := hzc j u hu
          rw [flatten_replicate_get z.cells _ _ (by rw [hzl]; exact hjl), hzl] at hx
          obtain ⟨u', hu', hxr⟩ := q1.get hx
          rw [hju] at hu'; cases hu'
          exact hxr
        obtain ⟨w', hst, hi', ha'⟩ := putCells (C := C) (off := off) hr.inv hcs hg hV (fun u hu => by
          obtain ⟨j, hj⟩ := List.getElem?_of_mem hu
          exact q2 u (List.mem_of_getElem? (hzc j u hj).2)) (by omega)
        have hrun : (Builtin.clear_ #[t] o.type #[a.eval s]).run C.P w = .ok (.tuple #[]) w' := by
          rw [hse]
          cases k with
          | zero =>
            have e1 : (Builtin.zeroCells zv.cells 0).toList = [] := by simp [Builtin.zeroCells]
            rw [e1] at hst
            have : w' = w := by
              have h2 : (storeCells ⟨g, off, none⟩ []).run C.P w = .ok () w := rfl
              rw [h2] at hst; cases hst; rfl
            rw [this]
            simp [Builtin.clear_, run_underlying ht]
          | succ k => simp [Builtin.clear_, run_underlying ht, hzr, hst]
        rw [show k * (n + 1) = (List.replicate k z.cells).flatten.length from hfl.symm]
        exact Sim.value (hex _ _ hrun) ((hr.world hi' ha').put fun _ _ => trivial)
      · cases hp
    · cases hp
  · cases hp

theorem sim_deep {o : Oper} {t e : TypeId} {n : Nat} {x : Operand} {lo hi : Option Operand} {v r : AVal} {as : List AVal} {h' : AHeap} (ho : o.op = .slice t x lo hi none) (ht : C.P.underlying t = some (.slice e)) (hsz : tySize C.P e = some (n + 1))
    (hv : opVals C σ (x :: (lo.toList ++ hi.toList)) = some (v :: as)) (hp : hdeep h (n + 1) lo.isSome hi.isSome v as = some (h', r)) (hr : Rel C γ0 w0 γ β σ h a w) : Sim C γ0 w0 o a w (σ.put o.dst (.val r)) h' := by
  have hvv := opVals_rel hr hv
  obtain ⟨u, us, e1, hx, hrest⟩ := hvv
  simp only [List.map_cons, List.cons.injEq] at e1
  obtain ⟨rfl, rfl⟩ := e1
  unfold hdeep at hp
  split at hp
  · rename_i id off k z
    split at hp
    · rename_i cs hcs
      split at hp
      · rename_i hcond
        obtain ⟨rfl, hhi, hoff⟩ := hcond
        obtain ⟨g, cap, hg, hse, hkc, hz0, hszg⟩ := (show VRel γ _ _ from hx)
        cases hb : boundsOf lo.isSome hi.isSome ((cs.length - off) / (n + 1)) as with
        | none => rw [hb] at hp; cases hp
        | some lh =>
          obtain ⟨l, q⟩ := lh
          rw [hb] at hp
          simp only [Option.bind_some] at hp
          split at hp
          · rename_i hlt
            cases hp
            obtain ⟨us, e1, fr, p1, pf, p2, p3⟩ := hr.inv.cells id cs hcs g hg
            obtain ⟨⟨us0, e00, fr0, q1, q2⟩, _⟩ := hr.inv.sz g _ hszg
            rw [p1] at q1
            cases q1
            have hul : cs.length ≤ us.size := by have := p2.length; simp at this; omega
            have htop : (cs.length - off) / (n + 1) ≤ cap := by
              refine Nat.div_le_of_le_mul ?_
              rw [Nat.mul_comm]
              omega
            have e2 : ∀ y : Option Operand, (y.map a.eval).isSome = y.isSome := fun y => by cases y <;> rfl
            have e3 : (lo.map a.eval).toList ++ (hi.map a.eval).toList = (lo.toList ++ hi.toList).map a.eval := by cases lo <;> cases hi <;> rfl
            rw [← e2 lo, ← e2 hi] at hb
            obtain ⟨k1, k2, k3⟩ := run_bounds (P := C.P) (w := w) (isSlice := true) hb (by rw [e3]; exact hrest) htop
            have hsame : Instr.sliceBounds true k cap (lo.map a.eval) (hi.map a.eval) none = Instr.sliceBounds true ((cs.length - off) / (n + 1)) cap (lo.map a.eval) (hi.map a.eval) none := by
              cases hi with
              | none => cases hhi
              | some y => rfl
            have ht' : C.P.underlying t = some (.slice (C.P.elem t)) := by simp [Program.elem, ht]
            have he : C.P.elem t = e := by simp [Program.elem, ht]
            have hrun : (Instr.sliceAt t (a.eval x) (lo.map a.eval) (hi.map a.eval) none).run C.P w = .ok (.slice (some ⟨g, off + l * (n + 1), none⟩) (q - l) (cap - l)) w := by
              rw [hse, run_sliceAt_slice w t _ _ _ _ ht', run_slice_any w t _ _ _ ht', hsame, k1, he, Result.andThen_ok, run_sizeOf hsz]
              show Result.ok (Value.slice (if cap = l then some ⟨g, off, none⟩ else Option.map (fun q : Addr => q.add (l * (n + 1))) (some ⟨g, off, none⟩)) (q - l) (cap - l)) w = _
              rw [if_neg (by omega)]
              simp only [Option.map_some]
              unfold Addr.add; split <;> simp_all
            refine Sim.value (by simp only [execOp, ho]; exact run_value' hrun) (hr.put fun _ _ => ⟨g, cap - l, hg, rfl, by omega, ⟨hz0.1, Nat.le_trans (Nat.sub_le _ _) hz0.2⟩, ?_⟩)
            rw [hszg, Nat.add_assoc, ← Nat.add_mul, Nat.add_sub_cancel' (by omega)]
          · cases hp
      · cases hp
    · cases hp
  · cases hp

theorem sim_chk3 {o : Oper} {t e : TypeId} {n : Nat} {x lo hi mx : Operand} {args : List AVal} (ho : o.op = .slice t x (some lo) (some hi) (some mx)) (ht : C.P.underlying t = some (.slice e)) (hsz : tySize C.P e = some (n + 1))
    (hv : opVals C σ [x, lo, hi, mx] = some args) (hp : chk3Of (n + 1) args = true) (hr : Rel C γ0 w0 γ β σ h a w) : Sim C γ0 w0 o a w (σ.put o.dst .undef) h := by
  have hvv := opVals_rel hr hv
  have ht' : C.P.underlying t = some (.slice (C.P.elem t)) := by simp [Program.elem, ht]
  have he : C.P.elem t = e := by simp [Program.elem, ht]
  have fin : ∀ (base : Option Addr) (len cap : Nat) (kl kr km : IntKind) (l r m : Int), a.eval x = .slice base len cap → a.eval lo = .int kl l → a.eval hi = .int kr r → a.eval mx = .int km m → 0 ≤ l → l ≤ r → r ≤ m → m ≤ cap → Sim C γ0 w0 o a w (σ.put o.dst .undef) h := by
    intro base len cap kl kr km l r m e1 e2 e3 e4 h1 h2 h3 h4
    have hrun : ∃ v, (Instr.sliceAt t (a.eval x) (some (a.eval lo)) (some (a.eval hi)) (some (a.eval mx))).run C.P w = .ok v w := by
      have hm0 : 0 ≤ m := by omega
      have hr0 : 0 ≤ r := by omega
      have b1 : ∀ code, (Instr.sliceBound (.int km m) cap code).run C.P w = .ok m.toNat w := fun code => by simp [Instr.sliceBound, asIntOf, hm0, h4]
      have b2 : ∀ code, (Instr.sliceBound (.int kr r) m.toNat code).run C.P w = .ok r.toNat w := fun code => by
        simp [Instr.sliceBound, asIntOf, hr0, Int.toNat_of_nonneg hm0, h3]
      have b3 : ∀ code, (Instr.sliceBound (.int kl l) r.toNat code).run C.P w = .ok l.toNat w := fun code => by
        simp [Instr.sliceBound, asIntOf, h1, Int.toNat_of_nonneg hr0, h2]
      rw [e1, e2, e3, e4]
      simp [Instr.sliceAt, Instr.slice, run_underlying ht, Instr.sliceBounds, b1, b2, b3, run_sizeOf hsz]
    obtain ⟨v, hrun⟩ := hrun
    exact Sim.value (by simp only [execOp, ho]; exact run_value' hrun) (hr.put fun _ _ => trivial)
  unfold chk3Of at hp
  split at hp
  · rename_i s _ l _ r _ m
    obtain ⟨u1, us1, f1, g1, u2, us2, f2, g2, u3, us3, f3, g3, u4, us4, f4, g4, f5⟩ := hvv
    subst f5
    simp only [List.map_cons, List.map_nil] at f1
    subst f4; subst f3; subst f2
    simp only [List.cons.injEq, and_true] at f1
    obtain ⟨rfl, rfl, rfl, rfl⟩ := f1
    split at hp
    · simp only [Bool.and_eq_true, decide_eq_true_eq] at hp
      obtain ⟨⟨⟨⟨_, h1⟩, h2⟩, h3⟩, h4⟩ := hp
      obtain ⟨g, cap, hg, hse, hkc, _⟩ := (show VRel γ _ _ from g1)
      exact fin _ _ _ _ _ _ _ _ _ hse (rel_int g2) (rel_int g3) (rel_int g4) h1 h2 h3 (by omega)
    · simp only [Bool.and_eq_true, decide_eq_true_eq] at hp
      obtain ⟨⟨⟨⟨_, h1⟩, h2⟩, h3⟩, h4⟩ := hp
      obtain ⟨ad, cap, hse, hkc, _⟩ := (show VRel γ _ _ from g1)
      exact fin _ _ _ _ _ _ _ _ _ hse (rel_int g2) (rel_int g3) (rel_int g4) h1 h2 h3 (by omega)
    · cases hp
  · cases hp

theorem sim_mkif {o : Oper} {t : TypeId} {x : Operand} {v : AVal} {u : TypeDesc} (ho : o.op = .makeInterface t x) (ht : C.P.underlying t = some u) (hn : ∀ i, u ≠ .interface i) (hv : opVals C σ [x] = some [v]) (hr : Rel C γ0 w0 γ β σ h a w) : Sim C γ0 w0 o a w (σ.put o.dst (.val (.iface t v))) h := by
  obtain ⟨_, e0, hvs⟩ := args_one hr hv
  cases e0
  have hrun : (Instr.makeInterface t (a.eval x)).run C.P w = .ok (.iface t (a.eval x)) w := by
    cases u <;> simp_all [Instr.makeInterface, run_underlying ht]
  exact Sim.value (by simp only [execOp, ho]; exact run_value' hrun) (hr.put fun _ _ => ⟨_, rfl, hvs⟩)

theorem findI_rel {n : Int} : ∀ {es : List (AVal × AVal)} {l : List MapEntry} {i : Nat} {r : Option (Nat × AVal)}, MRel γ es l → mfindI n es i = some r →
    match r with
    | none => Instr.findNow (.int .i64) (.int .i64 n) l i = some none
    | some (j, v) => ∃ (e : MapEntry), Instr.findNow (.int .i64) (.int .i64 n) l i = some (some (j, e.val)) ∧ VRel γ v e.val ∧ i ≤ j ∧ l[j - i]? = some e ∧ e.key = .int .i64 n
  | [], l, i, r, hM, hf => by rw [show l = [] from hM]; cases hf; rfl
  | (k, v) :: es, l, i, r, hM, hf => by
    obtain ⟨e, l', rfl, h1, h2, h3⟩ := hM
    cases k with
    | int q t =>
      by_cases hq : q = .i64
      · subst hq
        simp only [mfindI] at hf
        have hk : e.key = .int .i64 t := h1
        split at hf
        · rename_i hst
          subst hst
          cases hf
          exact ⟨e, by simp [Instr.findNow, hk, Instr.sameNow], h2, Nat.le_refl _, by simp, hk⟩
        · rename_i hst
          have hbeq : (n == t) = false := by simpa using hst
          have ih := findI_rel (i := i + 1) h3 hf
          cases r with
          | none => simpa [Instr.findNow, hk, Instr.sameNow, hbeq] using ih
          | some p =>
            obtain ⟨j, v2⟩ := p
            obtain ⟨e2, q1, q2, q3, q4, q5⟩ := ih
            refine ⟨e2, by simpa [Instr.findNow, hk, Instr.sameNow, hbeq] using q1, q2, by omega, ?_, q5⟩
            rw [show j - i = (j - (i + 1)) + 1 by omega, List.getElem?_cons_succ]
            exact q4
      · exfalso
        cases q <;> first | exact hq rfl | (simp [mfindI] at hf)
    | _ => simp [mfindI] at hf

theorem sim_getI {o : Oper} {t kt e : TypeId} {m k : Operand} {vm vk z r : AVal} {ok : Bool} {h' : AHeap} (ho : o.op = .lookup t m k ok) (ht : C.P.underlying t = some (.map kt e)) (hk : C.P.underlying kt = some (.int .i64)) (hz : tyZero C.P e = some z) (ha : opVals C σ [m, k] = some [vm, vk]) (hm : hgetI h z ok vm vk = some (h', r)) (hr : Rel C γ0 w0 γ β σ h a w) :
    Sim C γ0 w0 o a w (σ.put o.dst (.val r)) h' := by
  obtain ⟨_, _, e0, h1, h2⟩ := args_two hr ha
  cases e0
  obtain ⟨zv, hzv, hzr⟩ := run_zeroValue hz
  have fin : ∀ (es : Array MapEntry) (q : Option (Nat × AVal)), (Instr.lookup t (a.eval m) (a.eval k) ok).run C.P w = (lookEnd kt e (a.eval k) ok es).run C.P w →
      ∀ n, a.eval k = .int .i64 n → (match q with | none => Instr.findNow (.int .i64) (.int .i64 n) es.toList 0 = some none | some (j, v) => ∃ (e : MapEntry), Instr.findNow (.int .i64) (.int .i64 n) es.toList 0 = some (some (j, e.val)) ∧ VRel γ v e.val ∧ 0 ≤ j ∧ es.toList[j - 0]? = some e ∧ e.key = .int .i64 n) →
      getFin z ok q = r → Sim C γ0 w0 o a w (σ.put o.dst (.val r)) h := by
    intro es q hes n hks hq hre
    have hck : (Instr.checkKey es.isEmpty 10000 kt (.int .i64 n)).run C.P w = .ok () w := MapKept.run_checkKey (k := .int .i64 n) hk (by simp [MapKept.IsKey]) es.isEmpty 9999
    have hrun : ∃ v, (Instr.lookup t (a.eval m) (a.eval k) ok).run C.P w = .ok v w ∧ VRel γ r v := by
      cases q with
      | none =>
        refine ⟨if ok then .tuple #[zv, .bool false] else zv, ?_, ?_⟩
        · rw [hes, hks]
          unfold lookEnd
          simp only [Sem.run_bind, Result.andThen_ok, hck, MapKept.run_findKey hk hq, hzr, Sem.run_bind, Sem.run_pure]
        · rw [← hre]
          have hvz := ofConst_rel (γ := γ) hzv
          cases ok with
          | true => exact ⟨_, rfl, _, _, rfl, hvz, _, _, rfl, rfl, rfl⟩
          | false => exact hvz
      | some p =>
        obtain ⟨j, v⟩ := p
        obtain ⟨en, q1, q2, _⟩ := hq
        refine ⟨if ok then .tuple #[en.val, .bool true] else en.val, ?_, ?_⟩
        · rw [hes, hks]
          unfold lookEnd
          simp only [Sem.run_bind, Result.andThen_ok, hck, MapKept.run_findKey hk q1, Sem.run_bind, Sem.run_pure]
        · rw [← hre]
          cases ok with
          | true => exact ⟨_, rfl, _, _, rfl, q2, _, _, rfl, rfl, rfl⟩
          | false => exact q2
    obtain ⟨v, hrun, hvr⟩ := hrun
    exact Sim.value (by simp only [execOp, ho]; exact run_value' hrun) (hr.put fun _ _ => hvr)
  unfold hgetI at hm
  split at hm
  · rename_i n
    cases hm
    exact fin #[] none (by rw [show a.eval m = _ from h1]; simp only [Instr.lookup, lookEnd, Sem.run_bind, run_underlying ht, Result.andThen_ok, Sem.run_pure]; rfl) n h2 rfl rfl
  · rename_i id n
    obtain ⟨b, hb, hme⟩ := h1
    split at hm
    · rename_i es hes
      obtain ⟨ents, clock, hw, hM, _⟩ := hr.inv.map id es hes b hb
      cases hf : mfindI n es 0 with
      | none => rw [hf] at hm; cases hm
      | some q =>
        rw [hf] at hm
        simp only [Option.map_some, Option.some.injEq, Prod.mk.injEq] at hm
        obtain ⟨rfl, hm⟩ := hm
        refine fin ents q (by
          rw [hme]
          simp only [Instr.lookup, lookEnd, Sem.run_bind, run_underlying ht, MapKept.run_getObj_map hw, Result.andThen_ok, Sem.run_pure]; rfl) n h2 ?_ ?_
        · have := findI_rel (i := 0) hM hf
          cases q with
          | none => exact this
          | some p => exact this
        · exact hm
    · cases hm
  · cases hm

theorem MRel.snoc {k v : AVal} {e : MapEntry} (hk : VRel γ k e.key) (hv : VRel γ v e.val) : ∀ {es : List (AVal × AVal)} {l : List MapEntry}, MRel γ es l → MRel γ (es ++ [(k, v)]) (l ++ [e])
  | [], l, hM => by rw [show l = [] from hM]; exact ⟨e, [], rfl, hk, hv, rfl⟩
  | (k', v') :: es, l, hM => by
    obtain ⟨e', l', rfl, h1, h2, h3⟩ := hM
    exact ⟨e', _, rfl, h1, h2, MRel.snoc hk hv h3⟩

theorem MRel.length : ∀ {es : List (AVal × AVal)} {l : List MapEntry}, MRel γ es l → l.length = es.length
  | [], l, hM => by rw [show l = [] from hM]; rfl
  | (k', v') :: es, l, hM => by
    obtain ⟨e', l', rfl, h1, h2, h3⟩ := hM
    simp [MRel.length h3]

theorem MRel.modify {v : AVal} {u : Value} (hv : VRel γ v u) : ∀ {es : List (AVal × AVal)} {l : List MapEntry} {j : Nat} {k v0 : AVal}, MRel γ es l → es[j]? = some (k, v0) → MRel γ (es.set j (k, v)) (l.modify j fun e => { e with val := u })
  | [], l, j, k, v0, hM, hj => by simp at hj
  | (k', v') :: es, l, j, k, v0, hM, hj => by
    obtain ⟨e', l', rfl, h1, h2, h3⟩ := hM
    cases j with
    | zero => cases hj; exact ⟨{ e' with val := u }, l', by simp, h1, hv, h3⟩
    | succ j => exact ⟨e', l'.modify j _, by simp, h1, h2, MRel.modify hv h3 (by simpa using hj)⟩

theorem modify_same {es : Array MapEntry} {j : Nat} {e : MapEntry} {k : Value} (hj : es[j]? = some e) (hk : e.key = k) : (es.modify j fun e => { e with key := k }) = es := by
  apply Array.ext_getElem?
  intro i
  rw [Array.getElem?_modify]
  split
  · rename_i hi; subst hi
    rw [hj]; simp [← hk]
  · rfl

theorem sim_entryI {o : Oper} {t kt e : TypeId} {m k : Operand} {vm vk z r : AVal} {h' : AHeap} (ho : o.op = .mapEntry t m k) (ht : C.P.underlying t = some (.map kt e)) (hk : C.P.underlying kt = some (.int .i64)) (hz : tyZero C.P e = some z) (ha : opVals C σ [m, k] = some [vm, vk]) (hm : hentryI h z vm vk = some (h', r)) (hr : Rel C γ0 w0 γ β σ h a w) :
    Sim C γ0 w0 o a w (σ.put o.dst (.val r)) h' := by
  obtain ⟨_, _, e0, h1, h2⟩ := args_two hr ha
  cases e0
  obtain ⟨zv, hzv, hzr⟩ := run_zeroValue hz
  unfold hentryI at hm
  split at hm
  · rename_i id n
    obtain ⟨b, hb, hme⟩ := h1
    have hke : a.eval k = .int .i64 n := h2
    split at hm
    · rename_i es hes
      obtain ⟨ents, clock, hw, hM, hB⟩ := hr.inv.map id es hes b hb
      have hck : (Instr.checkKey false 10000 kt (.int .i64 n)).run C.P w = .ok () w := MapKept.run_checkKey (k := .int .i64 n) hk (by simp [MapKept.IsKey]) false 9999
      cases hf : mfindI n es 0 with
      | none => rw [hf] at hm; cases hm
      | some q =>
        rw [hf] at hm
        have hq := findI_rel (i := 0) hM hf
        cases q with
        | none =>
          simp only [Option.map_some, Option.some.injEq, Prod.mk.injEq] at hm
          obtain ⟨rfl, rfl⟩ := hm
          have hrun : (Instr.mapEntry t (a.eval m) (a.eval k)).run C.P w = .ok (.tuple #[zv, goInt clock]) { w with heap := w.heap.setIfInBounds b (.map (ents.push { key := .int .i64 n, val := zv, born := clock }) (clock + 1)) } := by
            rw [hme, hke]
            simp [Instr.mapEntry, run_underlying ht, MapKept.run_getObj_map hw, hck, MapKept.run_findKey hk hq, hzr, MapKept.run_setObj_map _ hw, Result.andThen]
          obtain ⟨hi, hacc⟩ := write_map (es' := es ++ [(.int .i64 n, z)]) (ents' := ents.push { key := .int .i64 n, val := zv, born := clock }) (clock' := clock + 1) hr.inv hes hb hw ⟨by
            have := MRel.snoc (γ := γ) (k := .int .i64 n) (v := z) (e := { key := .int .i64 n, val := zv, born := clock }) rfl (ofConst_rel hzv) hM
            simpa using this, born_push hB⟩
          refine Sim.value (by simp only [execOp, ho]; exact run_value' hrun) ((hr.world hi hacc).put fun _ _ => ⟨_, rfl, zv, _, rfl, ofConst_rel hzv, _, [], rfl, ?_, rfl⟩)
          rw [hB.1]
          have := hM.length
          simp only [Array.length_toList] at this
          rw [← this]
          rfl
        | some p =>
          obtain ⟨j, v⟩ := p
          simp only [Option.map_some, Option.some.injEq, Prod.mk.injEq] at hm
          obtain ⟨rfl, rfl⟩ := hm
          obtain ⟨en, q1, q2, _, q4, q5⟩ := hq
          have hj : ents[j]? = some en := by simpa using q4
          have hborn := hB.2 j en hj
          have hset : w.heap.setIfInBounds b (.map ents clock) = w.heap := by
            apply Array.ext_getElem?
            intro i
            rw [Array.getElem?_setIfInBounds]
            split
            · rename_i hi; subst hi
              have hlt := (Array.getElem?_eq_some_iff.1 hw).1
              rw [if_pos hlt, hw]
            · rfl
          have hrun : (Instr.mapEntry t (a.eval m) (a.eval k)).run C.P w = .ok (.tuple #[en.val, goInt j]) w := by
            rw [hme, hke]
            simp [Instr.mapEntry, run_underlying ht, MapKept.run_getObj_map hw, hck, MapKept.run_findKey hk q1, hj, q5, MapKept.run_keyThatStays (d := .int .i64) (k := .int .i64 n) (by simp [MapKept.IsKey]), MapKept.run_setObj_map _ hw, Result.andThen, hborn, modify_same hj q5, hset]
          exact Sim.value (by simp only [execOp, ho]; exact run_value' hrun) (hr.put fun _ _ => ⟨_, rfl, _, _, rfl, q2, _, [], rfl, rfl, rfl⟩)
    · cases hm
  · cases hm

theorem findIdx_born {es : Array MapEntry} (hB : ∀ (i : Nat) (e : MapEntry), es[i]? = some e → e.born = i) {j : Nat} {e : MapEntry} (hj : es[j]? = some e) : es.findIdx? (fun e => (e.born : Int) == (j : Int)) = some j := by
  rw [Array.findIdx?_eq_some_iff_getElem]
  obtain ⟨hl, he⟩ := Array.getElem?_eq_some_iff.1 hj
  refine ⟨hl, ?_, fun i hi => ?_⟩
  · have := hB j _ (Array.getElem?_eq_getElem hl)
    simp [this]
  · have := hB i _ (Array.getElem?_eq_getElem (by omega))
    simp [this]
    omega

theorem sim_storeI {o : Oper} {t : TypeId} {m s x : Operand} {vm vs vx r : AVal} {h' : AHeap} (ho : o.op = .entryStore t m s x) (hd : o.dst = none) (ha : opVals C σ [m, s, x] = some [vm, vs, vx]) (hm : hstoreI h vm vs vx = some (h', r)) (hr : Rel C γ0 w0 γ β σ h a w) : Sim C γ0 w0 o a w σ h' := by
  obtain ⟨h1, h2, h3⟩ := args_three hr ha
  have hex : ∀ w', (Instr.entryStore t (a.eval m) (a.eval s) (a.eval x)).run C.P w = .ok () w' → (execOp a.eval o).run C.P w = .ok .skip w' := fun w' hrun => by
    simp [execOp, ho, hrun]
  unfold hstoreI at hm
  split at hm
  · rename_i id n
    obtain ⟨b, hb, hme⟩ := h1
    have hse : a.eval s = .int .i64 n := h2
    split at hm
    · rename_i es hes
      split at hm
      · rename_i hn
        split at hm
        · rename_i kk v0 hk
          cases hm
          obtain ⟨ents, clock, hw, hM, hB⟩ := hr.inv.map id es hes b hb
          have hlen := hM.length
          have hlt := (List.getElem?_eq_some_iff.1 hk).1
          have hje : ∃ en, ents[n.toNat]? = some en := ⟨ents[n.toNat]'(by simp at hlen; omega), Array.getElem?_eq_getElem _⟩
          obtain ⟨en, hj⟩ := hje
          have hnn : ((n.toNat : Nat) : Int) = n := by omega
          have hidx := findIdx_born hB.2 hj
          rw [hnn] at hidx
          have hrun : (Instr.entryStore t (a.eval m) (a.eval s) (a.eval x)).run C.P w = .ok () { w with heap := w.heap.setIfInBounds b (.map (ents.modify n.toNat fun e => { e with val := a.eval x }) clock) } := by
            rw [hme, hse]
            simp [Instr.entryStore, MapKept.run_getObj_map hw, asInt, asIntOf, hidx, MapKept.run_setObj_map _ hw, Result.andThen]
          obtain ⟨hi, hacc⟩ := write_map (es' := es.set n.toNat (kk, vx)) (ents' := ents.modify n.toNat fun e => { e with val := a.eval x }) (clock' := clock) hr.inv hes hb hw ⟨by
            have := MRel.modify h3 hM hk
            simpa using this, born_modify hB fun _ => rfl⟩
          exact Sim.skip (hex _ hrun) (by rw [hd]; exact hr.world hi hacc)
        · cases hm
      · cases hm
    · cases hm
  · cases hm
end
end Go.Am
