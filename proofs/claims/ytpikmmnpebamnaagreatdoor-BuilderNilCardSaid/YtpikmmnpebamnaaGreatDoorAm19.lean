/-
  Simulation of operations, twelfth part: new rows, and rows that grow. No law is claimed here.
-/
import Derived.Test.YtpikmmnpebamnaaGreatDoorAm18
import Derived.Deep.AppendSrc
import Derived.Great.BuildSlice
import Derived.Laws.MakeOwn
import Derived.Laws.IdiomStrings
set_option linter.unusedSimpArgs false
set_option linter.unusedVariables false
namespace Go.Am
open Go

section
variable {C : Ctx} {γ0 γ γ' : Gh} {w0 w w' : World} {β : Nat → Nat} {σ : Env} {h : AHeap} {a : Act} {fid : FuncId} {ops : List Oper}

theorem run_value' {P : Program} {s : Sem Value} {v : Value} (hs : s.run P w = .ok v w') : (do pure (Next.value (← s)) : Sem Next).run P w = .ok (.value v) w' := by
  simp [hs]

theorem flatten_get {α : Type} {z : Nat} : ∀ {rows : List (List α)}, (∀ r ∈ rows, r.length = z) → ∀ {i : Nat} {r : List α}, rows[i]? = some r → ∀ {j : Nat} {x : α}, r[j]? = some x → rows.flatten[i * z + j]? = some x
  | [], _, i, r, hi, _, _, _ => by simp at hi
  | q :: rows, hl, 0, r, hi, j, x, hj => by
    simp at hi; subst hi
    have : j < q.length := (List.getElem?_eq_some_iff.1 hj).1
    simp only [Nat.zero_mul, Nat.zero_add, List.flatten_cons]
    rw [List.getElem?_append_left this]
    exact hj
  | q :: rows, hl, i + 1, r, hi, j, x, hj => by
    simp at hi
    have hq : q.length = z := hl q (by simp)
    rw [List.flatten_cons, List.getElem?_append_right (by rw [hq, Nat.add_mul]; omega)]
    have := flatten_get (rows := rows) (fun r hr => hl r (by simp [hr])) hi hj
    rw [← this]
    congr 1
    rw [hq, Nat.add_mul]
    omega

theorem flatten_length {α : Type} {z : Nat} : ∀ {rows : List (List α)}, (∀ r ∈ rows, r.length = z) → rows.flatten.length = rows.length * z
  | [], _ => by simp
  | q :: rows, hl => by
    have hq : q.length = z := hl q (by simp)
    simp [hq, flatten_length (rows := rows) (fun r hr => hl r (by simp [hr])), Nat.add_mul, Nat.add_comm]

/-- Rows whose cells are claimed. -/
theorem rows_claimed {rows : List (List AVal)} {us : List Value} {z b o : Nat} (hl : ∀ r ∈ rows, r.length = z) (hv : VRelV γ rows.flatten us) (hi : ∀ (j : Nat) (u : Value), us[j]? = some u → γ.imm b (o + j) = some u) : VRelR γ rows z b o := by
  refine VRelR.of_get fun i r hr => ⟨hl r (List.mem_of_getElem? hr), VRelM.of_get fun j x hj => ?_⟩
  obtain ⟨u, hu, hx⟩ := hv.get (flatten_get hl hr hj)
  exact ⟨u, by rw [Nat.add_assoc]; exact hi _ _ hu, hx⟩

theorem Rel.drew (hr : Rel C γ0 w0 γ β σ h a w) : Rel C γ0 w0 γ β σ h a w.drew := hr.world (hr.inv.same rfl) (Acc.drew γ w)

theorem Env.at_length (σ : Env) : σ.at σ.length = .undef := by simp [Env.at, List.getD]

/-- An owned slice comes into a slot. -/
theorem Rel.putOwn (hr : Rel C γ0 w0 γ β σ h a w) {x : AVal} {v : Value} (hv : VRel γ x v) (ho : OwnT γ w0.heap.size w σ.length none v x) (d : Option Nat) : ∃ γ', Rel C γ0 w0 γ' β (σ.put d (.own x)) h (a.put d v) w := by
  cases d with
  | none => exact ⟨γ, hr⟩
  | some d =>
    rcases ho with ho | ⟨g, n, cap, us, e, z, rows, h1, h2, h3, h4, h5⟩
    · exact ⟨γ, hr.put fun s _ => ⟨hv, .inl ho⟩⟩
    · have hr1 := hr.retag (s' := d) (c' := none) h3 h4 (fun _ u => by rw [Env.at_length]; simp) (fun o ho => by cases ho)
      exact ⟨_, hr1.put fun s hs => by
        cases hs
        exact ⟨VRel.mono (le_retag _ _ _) _ _ hv, .inr ⟨g, n, cap, us, e, z, rows, h1, h2, by simp [Gh.retag], h4, h5⟩⟩⟩

/-- A new row that nobody else knows. -/
theorem Rel.newSlice (hr : Rel C γ0 w0 γ β σ h a w) (us : Array Value) (e : TypeId) {z n cap : Nat} {rows : List (List AVal)} (hz : 0 < z) (hn : rows.length = n) (hl : ∀ r ∈ rows, r.length = z) (hus : us.size = cap * z) (hc : n ≤ cap) (hm : cap ≤ maxLen)
    (hv : VRelV γ rows.flatten (us.toList.take (n * z))) (h1 : ∀ u ∈ us.toList.take (n * z), u.oneCell' = true) :
    ∃ γ', γ.le γ' ∧ Rel C γ0 w0 γ' β σ h a (w.alloc (.cells us e)) ∧ VRel γ' (.sl z rows) (.slice (some ⟨w.heap.size, 0, none⟩) n cap) ∧ OwnT γ' w0.heap.size (w.alloc (.cells us e)) σ.length none (.slice (some ⟨w.heap.size, 0, none⟩) n cap) (.sl z rows) := by
  obtain ⟨hi, ha⟩ := alloc_claim hr.inv us e (0, 0) (n * z) (some (.tail σ.length none (n * z))) (fun o u ho hu => h1 u (List.mem_of_getElem? (i := o) (by rw [List.getElem?_take_of_lt ho]; simpa using hu))) (.inr (.inl ⟨_, _, rfl⟩))
  refine ⟨_, ha.le, hr.world hi ha, ⟨⟨w.heap.size, 0, none⟩, cap, by rw [hn], by omega, .inl rfl, rows_claimed hl (VRelV.mono ha.le _ _ hv) fun j u hj => ?_⟩, .inr ⟨w.heap.size, n, cap, us, e, z, rows, rfl, rfl, by simp [Gh.claim], hr.acc.size, heap_alloc_new w _, hus, hc, hm, hz⟩⟩
  rw [List.getElem?_take] at hj
  split at hj
  · rename_i hlt
    simp only [Gh.claim, if_true, Nat.zero_add, if_pos hlt]
    simpa using hj
  · cases hj

theorem fill_dense {size : Nat} : ∀ (vs : List Value) (k : Nat) (cells : Array Value), (∀ v ∈ vs, v.cells.size = size) → (k + vs.length) * size ≤ cells.size →
    Instr.fill (fun i => some (i * size, size)) cells ((vs.zipIdx k).map fun p => (p.2, p.1)) = some (cells.toList.take (k * size) ++ vs.flatMap (·.cells.toList) ++ cells.toList.drop ((k + vs.length) * size)).toArray
  | [], k, cells, _, _ => by simp [Instr.fill]
  | v :: vs, k, cells, hv, hl => by
    have hs : v.cells.size = size := hv v (by simp)
    simp only [List.length_cons] at hl
    have hle : (k + 1) * size + vs.length * size ≤ cells.size := by rw [← Nat.add_mul]; exact Nat.le_trans (Nat.le_of_eq (by congr 1; omega)) hl
    have hk1 : (k + 1) * size = k * size + size := by rw [Nat.add_mul, Nat.one_mul]
    simp only [List.zipIdx_cons, List.map_cons, Instr.fill]
    have c1 : ¬ (v.cells.size ≠ size ∨ k * size + v.cells.size > cells.size) := by
      rw [hs]; omega
    simp only [ne_eq, decide_not, Bool.or_eq_true, decide_eq_true_eq, Bool.not_eq_true', decide_eq_false_iff_not] at *
    rw [if_neg c1]
    have hf := foldl_splice v.cells.toList (k * size) 0 cells (by simp [hs]; omega)
    have hzip : v.cells.zipIdx.foldl (fun cs (c, j) => cs.setIfInBounds (k * size + j) c) cells = (cells.toList.take (k * size) ++ v.cells.toList ++ cells.toList.drop (k * size + size)).toArray := by
      rw [← Array.foldl_toList, Array.toList_zipIdx]
      rw [hf]
      simp [hs]
    rw [hzip]
    have hlen : (cells.toList.take (k * size) ++ v.cells.toList ++ cells.toList.drop (k * size + size)).length = cells.size := by
      simp [hs]; omega
    rw [fill_dense vs (k + 1) _ (fun u hu => hv u (by simp [hu])) (by
      simp only [List.size_toArray]
      rw [hlen, Nat.add_mul]; exact hle)]
    congr 2
    have e1 : (cells.toList.take (k * size) ++ v.cells.toList).length = (k + 1) * size := by simp [hs]; omega
    have e2 : (cells.toList.take (k * size) ++ v.cells.toList ++ cells.toList.drop (k * size + size)).take ((k + 1) * size) = cells.toList.take (k * size) ++ v.cells.toList := by
      rw [← e1]; exact List.take_left
    have e3 : (cells.toList.take (k * size) ++ v.cells.toList ++ cells.toList.drop (k * size + size)).drop ((k + 1 + vs.length) * size) = cells.toList.drop ((k + (vs.length + 1)) * size) := by
      rw [List.drop_append, List.drop_of_length_le (by rw [e1]; exact Nat.mul_le_mul_right _ (by omega)), e1, List.drop_drop, List.nil_append]
      congr 1
      have : (k + 1 + vs.length) * size - (k + 1) * size = vs.length * size := by rw [Nat.add_mul (k + 1)]; omega
      rw [this, Nat.add_mul k, Nat.add_mul vs.length]
      omega
    rw [e2, e3]
    simp

theorem zeroOk_spec {P : Program} {t : TypeId} (h : zeroOk P t = true) : ∃ i z, P.info? t = some i ∧ i.zero = some z ∧ z.cells.size = i.size := by
  unfold zeroOk at h
  split at h
  · rename_i i hi
    split at h
    · rename_i z hz; exact ⟨i, z, hi, hz, by simpa using h⟩
    · cases h
  · cases h

theorem tySize_info {P : Program} {t : TypeId} {n : Nat} {i : TypeInfo} (h : tySize P t = some n) (hi : P.info? t = some i) : i.size = n := by simpa [tySize, hi] using h
theorem tyBytes_info {P : Program} {t : TypeId} {n : Nat} {i : TypeInfo} (h : tyBytes P t = some n) (hi : P.info? t = some i) : i.bytes = n := by simpa [tyBytes, hi] using h

theorem args_cells : ∀ {args : List AVal} {us : List Value} {z : Nat}, VRelV γ args us → (∀ x ∈ args, x.cells.length = z) → 0 < z → VRelV γ (args.map (·.cells)).flatten (us.flatMap (·.cells.toList)) ∧ (∀ u ∈ us.flatMap (·.cells.toList), u.oneCell' = true) ∧ ∀ u ∈ us, u.cells.size = z
  | [], us, z, h, _, _ => by rw [VRelV] at h; subst h; exact ⟨rfl, by simp, by simp⟩
  | x :: args, us, z, h, hl, hz => by
    obtain ⟨u, us', rfl, h1, h2⟩ := h
    have hx := hl x (by simp)
    obtain ⟨q1, q2⟩ := cells_rel h1 (by omega)
    obtain ⟨r1, r2, r3⟩ := args_cells h2 (fun y hy => hl y (by simp [hy])) hz
    refine ⟨by simpa using q1.append r1, fun v hv => ?_, fun v hv => ?_⟩
    · simp only [List.flatMap_cons, List.mem_append] at hv
      exact hv.elim (q2 v) (r2 v)
    · rcases List.mem_cons.1 hv with rfl | hv
      · have := q1.length; simp at this; omega
      · exact r3 v hv

theorem zip_parts {a : Act} : ∀ {l : List (Nat × Operand)} {k : Nat}, l.map (·.1) = List.range' k l.length → l.map (fun p => (p.1, a.eval p.2)) = ((l.map fun p => a.eval p.2).zipIdx k).map fun p => (p.2, p.1)
  | [], k, _ => by simp
  | (i, x) :: l, k, h => by
    simp only [List.map_cons, List.length_cons, List.range'_succ, List.cons.injEq] at h
    obtain ⟨rfl, h⟩ := h
    simp [List.zipIdx_cons, zip_parts h]

theorem sim_mksl {o : Oper} {t e : TypeId} {len n : Nat} {parts : Array (Nat × Operand)} {args : List AVal} {u : AVal} (ho : o.op = .buildSlice t len parts) (ht : C.P.underlying t = some (.slice e)) (hsz : tySize C.P e = some (n + 1)) (hp : parts.toList.map (·.1) = List.range len) (hzo : zeroOk C.P e = true)
    (ha : opVals C σ (parts.toList.map (·.2)) = some args) (hu : peval (.mksl (n + 1)) args = some u) (hr : Rel C γ0 w0 γ β σ h a w) : Sim C γ0 w0 o a w (σ.put o.dst (.own u)) h := by
  obtain ⟨i, z, hi, hz, hzs⟩ := zeroOk_spec hzo
  have his := tySize_info hsz hi
  simp only [peval] at hu
  split at hu
  · rename_i hc
    cases hu
    simp only [Bool.and_eq_true, List.all_eq_true, beq_iff_eq, decide_eq_true_eq] at hc
    obtain ⟨hc1, hc2⟩ := hc
    have hargs := opVals_rel hr ha
    have hlen : parts.toList.length = len := by have := congrArg List.length hp; simpa using this
    have hal : args.length = len := by have := hargs.length; simp at this; simp at hlen; omega
    obtain ⟨q1, q2, q3⟩ := args_cells hargs hc1 (Nat.succ_pos n)
    have hflen := q1.length
    rw [flatten_length (z := n + 1) (by intro r hr; obtain ⟨x, hx, rfl⟩ := List.mem_map.1 hr; exact hc1 x hx), List.length_map, hal] at hflen
    have hrun : ∃ cells : Array Value, cells.toList = (parts.toList.map (·.2) |>.map a.eval).flatMap (·.cells.toList) ∧ (Instr.buildSlice t len (parts.map fun (i, x) => (i, a.eval x))).run C.P w = .ok (.slice (some ⟨w.heap.size, 0, none⟩) len len) (w.alloc (.cells cells e)) := by
      have hpl : (parts.map fun (i, x) => (i, a.eval x)).toList = (((parts.toList.map (·.2)).map a.eval).zipIdx 0).map fun p => (p.2, p.1) := by
        have := zip_parts (a := a) (l := parts.toList) (k := 0) (by rw [hlen, ← List.range_eq_range']; exact hp)
        simp only [Array.toList_map, List.map_map]
        exact this
      have hfd := fill_dense (size := n + 1) ((parts.toList.map (·.2)).map a.eval) 0 ((Array.range (len * (n + 1))).map (z.cells[· % z.cells.size]!)) q3 (by simp at hlen ⊢; rw [hlen]; exact Nat.le_refl _)
      rw [← hpl] at hfd
      have e0 : ((Array.range (len * (n + 1))).map (z.cells[· % z.cells.size]!)).toList.drop ((0 + ((parts.toList.map (·.2)).map a.eval).length) * (n + 1)) = [] := by
        apply List.drop_of_length_le
        simp at hlen ⊢
        rw [hlen]
        exact Nat.le_refl _
      rw [e0] at hfd
      simp only [Nat.zero_mul, List.take_zero, List.nil_append, List.append_nil] at hfd
      refine ⟨_, rfl, ?_⟩
      by_cases h0 : len * (n + 1) = 0
      · have hl0 : len = 0 := by
          rcases Nat.mul_eq_zero.1 h0 with h | h
          · exact h
          · omega
        subst hl0
        have hp0 : parts = #[] := by
          apply Array.eq_empty_of_size_eq_zero; simpa using hlen
        subst hp0
        have hrz : (Array.range 0 : Array Nat) = #[] := rfl
        simp [Instr.buildSlice, run_underlying ht, sizeOf, typeInfo, hi, newRow, Instr.fill, hrz]
      · exact run_buildSlice w t e len _ _ i z ht hi hz (by rw [his]; rw [hal] at hc2; omega) (by rw [his]; exact h0) (by rw [his]; exact hfd)
    obtain ⟨cells, hcells, hrun⟩ := hrun
    have hcs : cells.size = len * (n + 1) := by
      rw [← Array.length_toList, hcells]; exact hflen
    obtain ⟨γ', hle, hr', hv', hown⟩ := hr.newSlice cells e (z := n + 1) (n := len) (cap := len) (rows := args.map (·.cells)) (Nat.succ_pos n) (by simp [hal]) (by intro r hr; obtain ⟨x, hx, rfl⟩ := List.mem_map.1 hr; exact hc1 x hx) hcs (Nat.le_refl _)
      (by rw [hal] at hc2
          have : len ≤ len * (n + 1) := Nat.le_mul_of_pos_right _ (Nat.succ_pos n)
          simp only [maxLen]; omega) (by rw [hcells, List.take_of_length_le (by rw [hflen]; exact Nat.le_refl _)]; exact q1) (by rw [hcells, List.take_of_length_le (by rw [hflen]; exact Nat.le_refl _)]; exact q2)
    obtain ⟨γ2, hr2⟩ := hr'.putOwn hv' hown o.dst
    exact Sim.value (by simp only [execOp, ho]; exact run_value' hrun) hr2
  · cases hu

/-- What is appended. -/
theorem src_rel {t' : TypeId} {size bytes : Nat} {v u r : AVal} {xv : Value} (ht' : (∃ e', C.P.underlying t' = some (.slice e')) ∨ C.P.underlying t' = some .string) (hi : Inv γ h w) (hu : VRel γ u xv) (hp : appendOf size bytes v u = some r) :
    ∃ (rows : List (List AVal)) (news : List Value), appendTo size bytes v rows = some r ∧ Src C.P size t' xv rows.length news w ∧ VRelV γ rows.flatten news ∧ (∀ r ∈ rows, r.length = size) := by
  unfold appendOf at hp
  split at hp
  · rw [show xv = _ from hu]
    exact ⟨[], [], hp, ⟨ht', fun _ => rfl, run_firstCells_none w size 0 0 0, run_firstCells_none w.drew size 0 0 0, by simp, by simp⟩, rfl, by simp⟩
  · rename_i z rows
    split at hp
    · rename_i hz
      subst hz
      obtain ⟨ad, cap, hxv, hcap, hsp, hR⟩ := hu
      obtain ⟨us, p1, p2, p3⟩ := hR.values
      have hadd : ∀ (j : Nat) (x : Value), us[j]? = some x → ad.add j = ⟨ad.block, ad.off + j, none⟩ := fun j x hj => by
        have hpos : 0 < rows.length := by
          rcases Nat.eq_zero_or_pos rows.length with h0 | h0
          · have : us.length = 0 := by rw [p2, h0, Nat.zero_mul]
            rw [List.eq_nil_of_length_eq_zero this] at hj
            simp at hj
          · exact h0
        have had := plain_addr hsp hcap hpos
        generalize ad.block = b at *
        generalize ad.off = o at *
        subst had
        unfold Addr.add; split <;> simp_all
      rw [hxv]
      refine ⟨rows, us, hp, ⟨ht', fun _ => rfl, run_firstCells_some w _ _ _ _ _ us p2 (fun j x hj => by rw [hadd j x hj]; exact (hi.imm _ _ _ (p3 j x hj)).1), run_firstCells_some w.drew _ _ _ _ _ us p2 (fun j x hj => by rw [hadd j x hj]; exact (hi.imm _ _ _ (p3 j x hj)).1), p2, fun x hx => ?_⟩, p1, fun r hr => ?_⟩
      · obtain ⟨j, hj⟩ := List.getElem?_of_mem hx
        exact (hi.imm _ _ _ (p3 j x hj)).2.1
      · obtain ⟨j, hj⟩ := List.getElem?_of_mem hr
        exact (hR.get hj).1
    · cases hp
  · rename_i s
    split at hp
    · rename_i hz
      subst hz
      rw [show xv = _ from hu]
      have hlen : (rowsOf s).length = (⟨⟨s⟩⟩ : ByteArray).size := by simp [rowsOf, ByteArray.size]
      have hrel : ∀ l : List UInt8, VRelV γ (rowsOf l).flatten (l.map fun b => Value.int .u8 b.toNat) := by
        intro l
        induction l with
        | nil => rfl
        | cons b l ih => exact ⟨_, _, rfl, rfl, ih⟩
      refine ⟨rowsOf s, byteCells ⟨⟨s⟩⟩, hp, ?_, ?_, fun r hr => ?_⟩
      · rw [hlen]
        exact ⟨ht', fun _ => rfl, firstCells_string _ w, firstCells_string _ w.drew, by rw [byteCells_length, Nat.mul_one], fun u hu => by
          obtain ⟨_, _, rfl⟩ := List.mem_map.1 hu
          rfl⟩
      · simpa [byteCells] using hrel s
      · obtain ⟨b, _, rfl⟩ := List.mem_map.1 hr
        rfl
    · cases hp
  · cases hp

/-- The spare places of an owned slice are written. -/
theorem Rel.growTail (hr : Rel C γ0 w0 γ β σ h a w) {g n cap z : Nat} {us : Array Value} {e : TypeId} {rr rows : List (List AVal)} {news : List Value} (hown : γ.own g = some (.tail σ.length none (n * z))) (hB : w0.heap.size ≤ g) (hg : w.heap[g]? = some (.cells us e (0, 0)))
    (hus : us.size = cap * z) (hm : cap ≤ maxLen) (hz : 0 < z) (hv : VRel γ (.sl z rr) (.slice (some ⟨g, 0, none⟩) n cap)) (hl : ∀ r ∈ rows, r.length = z) (hn : VRelV γ rows.flatten news) (h1 : ∀ u ∈ news, u.oneCell' = true) (hroom : n + rows.length ≤ cap) :
    ∃ γ', γ.le γ' ∧ Rel C γ0 w0 γ' β σ h a (w.setRow g (us.toList.take (n * z) ++ news ++ us.toList.drop (n * z + news.length)).toArray) ∧ VRel γ' (.sl z (rr ++ rows)) (.slice (some ⟨g, 0, none⟩) (n + rows.length) cap) ∧
      OwnT γ' w0.heap.size (w.setRow g (us.toList.take (n * z) ++ news ++ us.toList.drop (n * z + news.length)).toArray) σ.length none (.slice (some ⟨g, 0, none⟩) (n + rows.length) cap) (.sl z (rr ++ rows)) := by
  obtain ⟨ad, cap', hve, hcap, _, hR⟩ := hv
  simp only [Value.slice.injEq, Option.some.injEq] at hve
  obtain ⟨rfl, rfl, rfl⟩ := hve
  simp only at hR
  have hnl : news.length = rows.length * z := by rw [hn.length, flatten_length hl]
  have hfit : (rr.length + rows.length) * z ≤ us.size := by rw [hus]; exact Nat.mul_le_mul_right _ hroom
  rw [Nat.add_mul] at hfit
  have htl : (us.toList.take (rr.length * z)).length = rr.length * z := by simp; omega
  obtain ⟨vs, q1, q2, q3⟩ := hR.values
  have hvs : vs = us.toList.take (rr.length * z) := by
    apply List.ext_getElem?
    intro j
    by_cases hj : j < rr.length * z
    · have hjv : j < vs.length := by rw [q2]; exact hj
      have hc := (hr.inv.imm _ _ _ (q3 j _ (List.getElem?_eq_getElem hjv))).1
      rw [cell_of_row w _ _ us e (0, 0) hg, Nat.zero_add] at hc
      rw [List.getElem?_eq_getElem hjv, List.getElem?_take_of_lt hj]
      simpa using hc.symm
    · rw [List.getElem?_eq_none (by omega), List.getElem?_eq_none (by rw [htl]; omega)]
  rw [hvs] at q1
  have hu1 : ∀ u ∈ us.toList.take (rr.length * z), u.oneCell' = true := fun u hu => by
    rw [← hvs] at hu
    obtain ⟨j, hj⟩ := List.getElem?_of_mem hu
    exact (hr.inv.imm _ _ _ (q3 j u hj)).2.1
  have hkk : (rr.length + rows.length) * z = rr.length * z + rows.length * z := Nat.add_mul _ _ _
  have htake : ((us.toList.take (rr.length * z) ++ news ++ us.toList.drop (rr.length * z + news.length)).toArray).toList.take ((rr.length + rows.length) * z) = us.toList.take (rr.length * z) ++ news := by
    have : (us.toList.take (rr.length * z) ++ news).length = (rr.length + rows.length) * z := by rw [List.length_append, htl, hnl, hkk]
    rw [← this]
    exact List.take_left
  have hsz : (us.toList.take (rr.length * z) ++ news ++ us.toList.drop (rr.length * z + news.length)).length = us.size := by
    simp [hnl]; omega
  generalize hU : (us.toList.take (rr.length * z) ++ news ++ us.toList.drop (rr.length * z + news.length)).toArray = us' at *
  have hus' : us'.size = us.size := by rw [← hU]; simpa using hsz
  obtain ⟨hi, hle⟩ := write_tail hr.inv hown hg us' ((rr.length + rows.length) * z) σ.length none (fun o ho => by
      rw [← hU, List.append_assoc, List.getElem?_toArray, List.getElem?_append_left (by omega), List.getElem?_take_of_lt ho]; simp)
    (by omega) (fun o u ho hu => by
      have : u ∈ us'.toList.take ((rr.length + rows.length) * z) := by
        refine List.mem_of_getElem? (i := o) ?_
        rw [List.getElem?_take_of_lt ho]; simpa using hu
      rw [htake, List.mem_append] at this
      exact this.elim (hu1 u) (h1 u)) (fun o v hv => by
      have := (hr.inv.imm _ _ _ hv).1
      rwa [cell_of_row w _ _ us e (0, 0) hg] at this)
  have hk : KeptBut g γ w (γ.claim g us' ((rr.length + rows.length) * z) (some (.tail σ.length none ((rr.length + rows.length) * z)))) (w.setRow g us') :=
    ⟨hle, fun b x hb hx _ => ⟨by simp only [Gh.claim, if_neg hb]; exact hx, setRow_other w g b us' hb⟩⟩
  have hR' : VRelR (γ.claim g us' ((rr.length + rows.length) * z) (some (.tail σ.length none ((rr.length + rows.length) * z)))) (rr ++ rows) z g 0 := by
    refine rows_claimed (us := us'.toList.take ((rr.length + rows.length) * z)) (fun r hr => ?_) ?_ (fun j u hj => ?_)
    · rcases List.mem_append.1 hr with hr | hr
      · obtain ⟨i, hi⟩ := List.getElem?_of_mem hr
        exact (hR.get hi).1
      · exact hl r hr
    · rw [htake, List.flatten_append]
      exact (VRelV.mono hle _ _ q1).append (VRelV.mono hle _ _ hn)
    · rw [List.getElem?_take] at hj
      split at hj
      · rename_i hlt
        simp only [Gh.claim, if_true, Nat.zero_add, if_pos hlt]
        simpa using hj
      · cases hj
  refine ⟨_, hle, ⟨hi, ⟨hr.fr.size, fun s => ?_⟩, hr.acc.write (g := g) hB hle (by simp) rfl rfl rfl (fun b hb => ⟨setRow_other w g b us' hb, by simp only [Gh.claim, if_neg hb]⟩), hr.defers, fun x cs hx => VRelM.mono hle _ _ _ (hr.glob x cs hx)⟩,
    ⟨⟨g, 0, none⟩, cap, by simp, by simpa using hroom, .inl rfl, hR'⟩, .inr ⟨g, rr.length + rows.length, cap, us', e, z, rr ++ rows, rfl, rfl, by simp [Gh.claim], hB, setRow_heap w g us us' e (0, 0) hg, by rw [hus', hus], hroom, hm, hz⟩⟩
  by_cases hs : s = σ.length
  · subst hs
    rw [Env.at_length]; trivial
  · exact (hr.fr.slots s).keptBut hown hk (by simp only [Owner.slot]; intro hx; cases hx; exact hs rfl)

theorem append_types {t t' ty : TypeId} {ts : Array TypeId} {xs : Array Value} (h0 : ts[0]? = some t) (h1 : ts[1]? = some t') : Builtin.append_ ts ty xs = Builtin.append_ #[t, t'] ty xs := by
  simp only [Builtin.append_, h0, h1]
  rfl

theorem VRelV.of_take {l : List AVal} {us : List Value} {n : Nat} (h : VRelV γ l us) (hn : us.length ≤ n) : VRelV γ l (us.take n) := by rw [List.take_of_length_le hn]; exact h

theorem rowsFrom_flatten {cs : List AVal} {z : Nat} : ∀ {n off : Nat}, (rowsFrom cs z off n).flatten = (cs.drop off).take (n * z)
  | 0, off => by simp [rowsFrom]
  | n + 1, off => by
    rw [rowsFrom, List.flatten_cons, rowsFrom_flatten, Nat.add_mul, Nat.one_mul, Nat.add_comm (n * z) z, List.take_add, List.drop_drop]
theorem rowsFrom_length {cs : List AVal} {z : Nat} : ∀ {n off : Nat}, (rowsFrom cs z off n).length = n
  | 0, off => rfl
  | n + 1, off => by rw [rowsFrom, List.length_cons, rowsFrom_length]
theorem rowsFrom_rows {cs : List AVal} {z : Nat} : ∀ {n off : Nat}, off + n * z ≤ cs.length → ∀ r ∈ rowsFrom cs z off n, r.length = z
  | 0, off, _, r, hr => by simp [rowsFrom] at hr
  | n + 1, off, hl, r, hr => by
    rw [Nat.add_mul, Nat.one_mul] at hl
    rw [rowsFrom, List.mem_cons] at hr
    rcases hr with rfl | hr
    · rw [List.length_take, List.length_drop]; omega
    · exact rowsFrom_rows (by omega) r hr

/-- The rows of a slice as they are now, as what is appended. -/
theorem rows_src {t' : TypeId} {size : Nat} {u : AVal} {xv : Value} {rows : List (List AVal)} (ht' : (∃ e', C.P.underlying t' = some (.slice e')) ∨ C.P.underlying t' = some .string) (hi : Inv γ h w) (hu : VRel γ u xv) (hp : rowsAt h size u = some rows) :
    ∃ news : List Value, Src C.P size t' xv rows.length news w ∧ VRelV γ rows.flatten news ∧ (∀ r ∈ rows, r.length = size) := by
  unfold rowsAt at hp
  split at hp
  · cases hp
    rw [show xv = _ from hu]
    exact ⟨[], ⟨ht', fun _ => rfl, run_firstCells_none w size 0 0 0, run_firstCells_none w.drew size 0 0 0, by simp, by simp⟩, rfl, by simp⟩
  · rename_i z rows'
    split at hp
    · rename_i hz
      cases hp
      subst hz
      obtain ⟨ad, cap, hxv, hcap, hsp, hR⟩ := hu
      obtain ⟨us, p1, p2, p3⟩ := hR.values
      have hadd : ∀ (j : Nat) (x : Value), us[j]? = some x → ad.add j = ⟨ad.block, ad.off + j, none⟩ := fun j x hj => by
        have hpos : 0 < rows.length := by
          rcases Nat.eq_zero_or_pos rows.length with h0 | h0
          · have : us.length = 0 := by rw [p2, h0, Nat.zero_mul]
            rw [List.eq_nil_of_length_eq_zero this] at hj
            simp at hj
          · exact h0
        have had := plain_addr hsp hcap hpos
        generalize ad.block = b at *
        generalize ad.off = o at *
        subst had
        unfold Addr.add; split <;> simp_all
      rw [hxv]
      refine ⟨us, ⟨ht', fun _ => rfl, run_firstCells_some w _ _ _ _ _ us p2 (fun j x hj => by rw [hadd j x hj]; exact (hi.imm _ _ _ (p3 j x hj)).1), run_firstCells_some w.drew _ _ _ _ _ us p2 (fun j x hj => by rw [hadd j x hj]; exact (hi.imm _ _ _ (p3 j x hj)).1), p2, fun x hx => ?_⟩, p1, fun r hr => ?_⟩
      · obtain ⟨j, hj⟩ := List.getElem?_of_mem hx
        exact (hi.imm _ _ _ (p3 j x hj)).2.1
      · obtain ⟨j, hj⟩ := List.getElem?_of_mem hr
        exact (hR.get hj).1
    · cases hp
  · rename_i s
    split at hp
    · rename_i hz
      cases hp
      subst hz
      rw [show xv = _ from hu]
      have hlen : (rowsOf s).length = (⟨⟨s⟩⟩ : ByteArray).size := by simp [rowsOf, ByteArray.size]
      have hrel : ∀ l : List UInt8, VRelV γ (rowsOf l).flatten (l.map fun b => Value.int .u8 b.toNat) := by
        intro l
        induction l with
        | nil => rfl
        | cons b l ih => exact ⟨_, _, rfl, rfl, ih⟩
      refine ⟨byteCells ⟨⟨s⟩⟩, ?_, ?_, fun r hr => ?_⟩
      · rw [hlen]
        exact ⟨ht', fun _ => rfl, firstCells_string _ w, firstCells_string _ w.drew, by rw [byteCells_length, Nat.mul_one], fun u hu => by
          obtain ⟨_, _, rfl⟩ := List.mem_map.1 hu
          rfl⟩
      · simpa [byteCells] using hrel s
      · obtain ⟨b, _, rfl⟩ := List.mem_map.1 hr
        rfl
    · cases hp
  · rename_i id off n z
    split at hp
    · rename_i hz
      subst hz
      split at hp
      · rename_i cs hcs
        split at hp
        · rename_i hl
          cases hp
          obtain ⟨b, cap, hb, hxv, hcap, hz0, hsz⟩ := hu
          obtain ⟨us, e, fr, p1, pf, p2, p3⟩ := hi.cells id cs hcs b hb
          have hul : (us.toList.take cs.length).length = cs.length := p2.length
          have hnl : (((us.toList.take cs.length).drop off).take (n * z)).length = n * z := by rw [List.length_take, List.length_drop, hul]; omega
          have hadd : ∀ j, (⟨b, off, none⟩ : Addr).add j = ⟨b, off + j, none⟩ := fun j => by unfold Addr.add; split <;> simp_all
          have hcell : ∀ (j : Nat) (x : Value), (((us.toList.take cs.length).drop off).take (n * z))[j]? = some x → w.cell? ((⟨b, off, none⟩ : Addr).add j) = some x := fun j x hj => by
            rw [hadd, cell_of_row w _ _ us e fr p1]
            rw [List.getElem?_take] at hj
            split at hj
            · rw [List.getElem?_drop, List.getElem?_take] at hj
              split at hj
              · simpa using hj
              · cases hj
            · cases hj
          rw [hxv, rowsFrom_length]
          refine ⟨((us.toList.take cs.length).drop off).take (n * z), ⟨ht', fun _ => rfl, run_firstCells_some w _ _ _ _ _ _ hnl hcell, run_firstCells_some w.drew _ _ _ _ _ _ hnl (fun j x hj => hcell j x hj), hnl, fun x hx => p3 x (List.mem_of_mem_drop (List.mem_of_mem_take hx))⟩, ?_, rowsFrom_rows hl⟩
          rw [rowsFrom_flatten]
          exact (p2.drop off).take (n * z)
        · cases hp
      · cases hp
    · cases hp
  · cases hp

theorem sim_append_core {o : Oper} {c : Call} {t t' e : TypeId} {n b : Nat} {s x : Operand} {v u r : AVal} {rows : List (List AVal)} {news : List Value} (ho : o.op = .call c) (hc : c.callee = .builtin .append) (h0 : c.argTypes[0]? = some t) (h1 : c.argTypes[1]? = some t') (hargs : c.args.toList = [s, x]) (ht : C.P.underlying t = some (.slice e))
    (ht' : (∃ e', C.P.underlying t' = some (.slice e')) ∨ C.P.underlying t' = some .string) (hsz : tySize C.P e = some (n + 1)) (hby : tyBytes C.P e = some (b + 1)) (hown : isOwn C σ s = true) (hzo : zeroOk C.P e = true) (hv : opVals C σ [s, x] = some [v, u])
    (happ : appendTo (n + 1) (b + 1) v rows = some r) (hsrc : Src C.P (n + 1) t' (a.eval x) rows.length news w) (hnr : VRelV γ rows.flatten news) (hrl : ∀ q ∈ rows, q.length = n + 1) (hr : Rel C γ0 w0 γ β σ h a w) : Sim C γ0 w0 o a w ((σ.demote (demoteOf σ s)).put o.dst (.own r)) h := by
  obtain ⟨i, z, hi, hz, hzs⟩ := zeroOk_spec hzo
  have his := tySize_info hsz hi
  have hib := tyBytes_info hby hi
  obtain ⟨_, _, e0, hvs, hvx⟩ := args_two hr hv
  cases e0
  have hv1 : opVal C σ s = some v := by
    unfold opVals at hv
    split at hv
    · rename_i p ps q1 q2; cases hv; exact q1
    · cases hv
  obtain ⟨γ1, hle, hr1, hv', hT⟩ := own_operand hr hown hv1 (σ.demote (demoteOf σ s)).length none
  have hnr1 := VRelV.mono hle _ _ hnr
  have heq : c.args.map a.eval = #[a.eval s, a.eval x] := by
    apply Array.ext'; simp [hargs]
  have hex : ∀ v' w', (Builtin.append_ #[t, t'] o.type #[a.eval s, a.eval x]).run C.P w = .ok v' w' → (execOp a.eval o).run C.P w = .ok (.value v') w' := fun v' w' hrun => by
    have : execOp a.eval o = (do pure (Next.value (← Builtin.append_ #[t, t'] o.type #[a.eval s, a.eval x]))) := by
      rw [← heq, ← append_types (ty := o.type) h0 h1]
      simp only [execOp, ho, resolve, hc]
      rfl
    rw [this]; exact run_value' hrun
  have hsrc' : Src C.P i.size t' (a.eval x) rows.length news w := by rw [his]; exact hsrc
  have hnl : news.length = rows.length * (n + 1) := hsrc.newsLen
  -- a new row
  have grow : ∀ (base : Option Addr) (k cap : Nat) (rr : List (List AVal)) (olds : List Value), a.eval s = .slice base k cap → rr.length = k → (∀ q ∈ rr, q.length = n + 1) → VRelV γ1 rr.flatten olds → (∀ q ∈ olds, q.oneCell' = true) →
      (Builtin.firstCells i.size k (.slice base k cap)).run C.P w.drew = .ok olds.toArray w.drew → cap < k + rows.length → (k + rows.length) * (b + 1) ≤ maxBytes → r = .sl (n + 1) (rr ++ rows) →
      Sim C γ0 w0 o a w ((σ.demote (demoteOf σ s)).put o.dst (.own r)) h := by
    intro base k cap rr olds hs hk hrr hol ho1 hfirst hlt hbb hre
    have hb' : k + rows.length ≤ maxBytes := Nat.le_trans (Nat.le_mul_of_pos_right _ (Nat.succ_pos b)) hbb
    have hgrow := run_append_grow_src (P := C.P) w t t' o.type e i z ht hi hz base k cap olds hfirst (a.eval x) rows.length news hsrc' hlt (by simp only [maxBytes] at hb'; omega) (by rw [hib]; exact growslice_fits hlt hbb)
    rw [← hs] at hgrow
    have hge := grownCap_ge w (k + rows.length) cap e
    have hole : olds.length = k * (n + 1) := by rw [hol.length, flatten_length hrr, hk]
    have hon : (olds ++ news).length = (k + rows.length) * (n + 1) := by rw [List.length_append, hole, hnl, Nat.add_mul]
    obtain ⟨γ2, hle2, hr2, hv2, hT2⟩ := hr1.drew.newSlice ((olds ++ news).toArray ++ Builtin.zeroCells z.cells (grownCap w (k + rows.length) cap e - (k + rows.length))) e (z := n + 1) (n := k + rows.length) (cap := grownCap w (k + rows.length) cap e) (rows := rr ++ rows) (Nat.succ_pos n) (by simp [hk])
      (fun q hq => (List.mem_append.1 hq).elim (hrr q) (hrl q))
      (by simp only [Array.size_append, List.size_toArray, size_zeroCells, hzs, his, hon, ← Nat.add_mul]; congr 1; omega) hge (grownCap_le_maxLen w _ _ _ (by simp only [maxBytes] at hb'; simp only [maxLen]; omega))
      (by
        simp only [Array.toList_append, List.flatten_append]
        rw [← hon, List.take_left]
        exact hol.append hnr1)
      (fun q hq => by
        simp only [Array.toList_append] at hq
        rw [← hon, List.take_left, List.mem_append] at hq
        exact hq.elim (ho1 q) (hsrc.one q))
    rw [hre]
    obtain ⟨γ3, hr3⟩ := hr2.putOwn hv2 hT2 o.dst
    exact Sim.value (hex _ _ hgrow) hr3
  rcases hT with rfl | ⟨g, k, cap, us, e1, zz, rr, rfl, hse, hgo, hB, hg, hus, hkc, hm, hzz⟩
  · have hse : a.eval s = .slice none 0 0 := hv'
    cases rows with
    | nil =>
      have hre : r = .slnil := by simpa [appendTo] using happ.symm
      have hnn : news = [] := List.eq_nil_of_length_eq_zero (by simpa using hnl)
      subst hnn
      have hrun : (Builtin.append_ #[t, t'] o.type #[a.eval s, a.eval x]).run C.P w = .ok (.slice none 0 0) w := by
        rw [hse]
        have hl := hsrc'.len
        have hcc := hsrc'.cells
        simp only [List.length_nil] at hl hcc
        rcases ht' with ⟨e', hk⟩ | hk <;> simp [Builtin.append_, run_underlying ht, run_underlying hk, sizeOf, typeInfo, hi, hl, hcc]
      rw [hre]
      exact Sim.value (hex _ _ hrun) (hr1.put fun _ _ => ⟨rfl, .inl rfl⟩)
    | cons q rows =>
      have happ' : r = .sl (n + 1) (q :: rows) ∧ (q :: rows).length * (b + 1) ≤ maxBytes := by
        simp only [appendTo] at happ
        split at happ
        · rename_i hb; cases happ; exact ⟨rfl, hb⟩
        · cases happ
      exact grow none 0 0 [] [] hse rfl (by simp) rfl (by simp) (run_firstCells_none _ _ _ _ _) (by simp) (by simpa using happ'.2) (by simpa using happ'.1)
  · obtain ⟨ad0, cap0, hve, hcap, _, hR⟩ := id hv'
    rw [hse] at hve
    simp only [Value.slice.injEq, Option.some.injEq] at hve
    obtain ⟨rfl, hk, rfl⟩ := hve
    subst hk
    simp only at hR
    have hzn : zz = n + 1 ∧ r = .sl (n + 1) (rr ++ rows) ∧ (rows = [] ∨ (rr.length + rows.length) * (b + 1) ≤ maxBytes) := by
      cases rows with
      | nil =>
        simp only [appendTo] at happ
        split at happ
        · rename_i hz'; cases happ; exact ⟨hz', by simp [hz'], .inl rfl⟩
        · cases happ
      | cons q rows =>
        simp only [appendTo] at happ
        split at happ
        · rename_i hz'; cases happ; exact ⟨hz'.1, rfl, .inr hz'.2⟩
        · cases happ
    obtain ⟨rfl, hre, hbb⟩ := hzn
    by_cases hroom : rr.length + rows.length ≤ cap
    · have hfit : rr.length * (n + 1) + news.length ≤ us.size := by rw [hnl, hus, ← Nat.add_mul]; exact Nat.mul_le_mul_right _ hroom
      have hrun := run_append_room_src (P := C.P) w t t' o.type e i ht hi g 0 rr.length cap (a.eval x) rows.length news hsrc' hroom (fun j hj => by
          rw [cell_of_row w _ _ us e1 (0, 0) hg, his, Array.getElem?_eq_getElem (by omega)]; rfl) (fun j hj => frozen_of_row w _ _ us e1 hg)
      rw [Nat.zero_add, his, setCells_row news _ us w hg hfit, ← hse] at hrun
      rw [hse] at hv'
      obtain ⟨γ2, hle2, hr2, hv2, hT2⟩ := hr1.growTail hgo hB hg hus hm (Nat.succ_pos n) hv' hrl hnr1 hsrc.one hroom
      obtain ⟨γ3, hr3⟩ := hr2.putOwn hv2 hT2 o.dst
      rw [hre]
      exact Sim.value (hex _ _ hrun) hr3
    · obtain ⟨vs, q1, q2, q3⟩ := hR.values
      have hadd : ∀ j, (⟨g, 0, none⟩ : Addr).add j = ⟨g, 0 + j, none⟩ := fun j => by unfold Addr.add; split <;> simp_all
      refine grow (some ⟨g, 0, none⟩) rr.length cap rr vs hse rfl (fun q hq => ?_) q1 (fun q hq => ?_) ?_ (by omega) ?_ hre
      · obtain ⟨j, hj⟩ := List.getElem?_of_mem hq
        exact (hR.get hj).1
      · obtain ⟨j, hj⟩ := List.getElem?_of_mem hq
        exact (hr1.inv.imm _ _ _ (q3 j q hj)).2.1
      · rw [his]
        exact run_firstCells_some w.drew _ _ _ _ _ vs q2 (fun j y hj => by rw [hadd]; exact (hr1.inv.imm _ _ _ (q3 j y hj)).1)
      · rcases hbb with rfl | hbb
        · simp at hroom; omega
        · exact hbb

theorem sim_append {o : Oper} {c : Call} {t t' e : TypeId} {n b : Nat} {s x : Operand} {v u r : AVal} (ho : o.op = .call c) (hc : c.callee = .builtin .append) (h0 : c.argTypes[0]? = some t) (h1 : c.argTypes[1]? = some t') (hargs : c.args.toList = [s, x]) (ht : C.P.underlying t = some (.slice e))
    (ht' : (∃ e', C.P.underlying t' = some (.slice e')) ∨ C.P.underlying t' = some .string) (hsz : tySize C.P e = some (n + 1)) (hby : tyBytes C.P e = some (b + 1)) (hown : isOwn C σ s = true) (hzo : zeroOk C.P e = true) (hv : opVals C σ [s, x] = some [v, u])
    (hp : peval (.append (n + 1) (b + 1)) [v, u] = some r) (hr : Rel C γ0 w0 γ β σ h a w) : Sim C γ0 w0 o a w ((σ.demote (demoteOf σ s)).put o.dst (.own r)) h := by
  obtain ⟨_, _, e0, hvs, hvx⟩ := args_two hr hv
  cases e0
  simp only [peval] at hp
  obtain ⟨rows, news, happ, hsrc, hnr, hrl⟩ := src_rel (w := w) ht' hr.inv hvx hp
  exact sim_append_core ho hc h0 h1 hargs ht ht' hsz hby hown hzo hv happ hsrc hnr hrl hr

theorem sim_appendM {o : Oper} {c : Call} {t t' e : TypeId} {n b : Nat} {s x : Operand} {v u r : AVal} (ho : o.op = .call c) (hc : c.callee = .builtin .append) (h0 : c.argTypes[0]? = some t) (h1 : c.argTypes[1]? = some t') (hargs : c.args.toList = [s, x]) (ht : C.P.underlying t = some (.slice e))
    (ht' : (∃ e', C.P.underlying t' = some (.slice e')) ∨ C.P.underlying t' = some .string) (hsz : tySize C.P e = some (n + 1)) (hby : tyBytes C.P e = some (b + 1)) (hown : isOwn C σ s = true) (hzo : zeroOk C.P e = true) (hv : opVals C σ [s, x] = some [v, u])
    (hp : happM h (n + 1) (b + 1) v u = some r) (hr : Rel C γ0 w0 γ β σ h a w) : Sim C γ0 w0 o a w ((σ.demote (demoteOf σ s)).put o.dst (.own r)) h := by
  obtain ⟨_, _, e0, hvs, hvx⟩ := args_two hr hv
  cases e0
  unfold happM at hp
  cases hq : rowsAt h (n + 1) u with
  | none => rw [hq] at hp; cases hp
  | some rows =>
    rw [hq] at hp
    obtain ⟨news, hsrc, hnr, hrl⟩ := rows_src (w := w) ht' hr.inv hvx hq
    exact sim_append_core ho hc h0 h1 hargs ht ht' hsz hby hown hzo hv hp hsrc hnr hrl hr
end
end Go.Am
