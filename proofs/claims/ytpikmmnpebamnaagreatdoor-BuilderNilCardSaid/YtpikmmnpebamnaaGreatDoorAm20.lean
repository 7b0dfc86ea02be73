/-
  Simulation of operations, thirteenth part: objects, conversions of strings, calls. No law is claimed here.
-/
import Derived.Test.YtpikmmnpebamnaaGreatDoorAm19
set_option linter.unusedSimpArgs false
set_option linter.unusedVariables false
namespace Go.Am
open Go

section
variable {C : Ctx} {γ0 γ γ' : Gh} {w0 w w' : World} {β : Nat → Nat} {σ : Env} {h : AHeap} {a : Act} {fid : FuncId} {ops : List Oper}

theorem rowsOf_cells : ∀ s : Bytes, (rowsOf s).flatten = s.map fun b => AVal.int .u8 b.toNat
  | [] => rfl
  | _ :: s => by
    have := rowsOf_cells s
    simp only [rowsOf, List.map_cons, List.flatten_cons] at this ⊢
    rw [this]; rfl

theorem rowsOf_flatten (γ : Gh) : ∀ l : Bytes, VRelV γ (rowsOf l).flatten (l.map fun b => Value.int .u8 b.toNat)
  | [] => rfl
  | _ :: l => ⟨_, _, rfl, rfl, rowsOf_flatten γ l⟩

theorem bytesRow_take (s : Bytes) (cap : Nat) : (bytesRow ⟨⟨s⟩⟩ cap).toList.take s.length = s.map fun b => Value.int .u8 b.toNat := by
  have : (s.map fun b => Value.int .u8 (b.toNat : Int)).length = s.length := by simp
  simp only [bytesRow, Array.toList_append, Array.toList_map]
  rw [← this]
  exact List.take_left

theorem size_mk (s : Bytes) : (⟨⟨s⟩⟩ : ByteArray).size = s.length := by simp [ByteArray.size]

theorem sim_s2b {o : Oper} {src dst e : TypeId} {x : Operand} {v u : AVal} (ho : o.op = .convert src dst x) (hs : C.P.underlying src = some .string) (hd : C.P.underlying dst = some (.slice e)) (he : C.P.underlying e = some (.int .u8)) (hx : opVals C σ [x] = some [v]) (hp : peval .s2b [v] = some u) (hr : Rel C γ0 w0 γ β σ h a w) :
    Sim C γ0 w0 o a w (σ.put o.dst (.val u)) h := by
  obtain ⟨_, e0, hv⟩ := args_one hr hx
  cases e0
  simp only [peval] at hp
  split at hp
  · rename_i s heq
    cases heq
    split at hp
    · cases hp
      have hrun := run_bytes_of_string (P := C.P) w src dst e ⟨⟨s⟩⟩ hs hd he
      rw [← rel_str hv] at hrun
      have hgc := grownCap_ge w s.length 0 e
      rw [size_mk] at hrun
      obtain ⟨hi, ha⟩ := alloc_claim hr.drew.inv (bytesRow ⟨⟨s⟩⟩ (grownCap w s.length 0 e)) e ((bytesRow ⟨⟨s⟩⟩ (grownCap w s.length 0 e)).size, (bytesRow ⟨⟨s⟩⟩ (grownCap w s.length 0 e)).size + 1) s.length none (fun o u ho hu => by
        have hm : u ∈ (bytesRow ⟨⟨s⟩⟩ (grownCap w s.length 0 e)).toList.take s.length := List.mem_of_getElem? (i := o) (by rw [List.getElem?_take_of_lt ho]; simpa using hu)
        rw [bytesRow_take] at hm
        obtain ⟨b, _, rfl⟩ := List.mem_map.1 hm
        rfl) (.inl rfl)
      have hr' := hr.drew.world hi ha
      refine Sim.value (v := .slice (some ⟨w.heap.size, 0, none⟩) s.length (grownCap w s.length 0 e)) (by simp only [execOp, ho]; exact run_value' hrun) (hr'.put fun _ _ => ⟨⟨w.heap.size, 0, none⟩, grownCap w s.length 0 e, by simp [rowsOf], by simpa [rowsOf] using hgc, .inl rfl, ?_⟩)
      refine rows_claimed (us := s.map fun b => Value.int .u8 b.toNat) (fun r hr => ?_) (rowsOf_flatten _ s) (fun j u hj => ?_)
      · obtain ⟨b, _, rfl⟩ := List.mem_map.1 hr
        rfl
      · rw [← bytesRow_take s (grownCap w s.length 0 e), List.getElem?_take] at hj
        split at hj
        · rename_i hlt
          simp only [Gh.claim, heap_drew, if_true, Nat.zero_add, if_pos hlt]
          simpa using hj
        · cases hj
    · cases hp
  · cases hp

theorem sim_bytesObj {o : Oper} {src dst e : TypeId} {x : Operand} {v u : AVal} {h' : AHeap} (ho : o.op = .convert src dst x) (hs : C.P.underlying src = some .string) (hd : C.P.underlying dst = some (.slice e)) (he : C.P.underlying e = some (.int .u8)) (hx : opVal C σ x = some v) (hp : hbytesObj h v = some (h', u)) (hr : Rel C γ0 w0 γ β σ h a w) :
    Sim C γ0 w0 o a w (σ.put o.dst (.val u)) h' := by
  have hv := opVal_rel hr hx
  unfold hbytesObj at hp
  split at hp
  · rename_i s
    split at hp
    · cases hp
      have hrun := run_bytes_of_string (P := C.P) w src dst e ⟨⟨s⟩⟩ hs hd he
      rw [← rel_str hv] at hrun
      have hgc := grownCap_ge w s.length 0 e
      rw [size_mk] at hrun
      have hl : (s.map fun b => AVal.int .u8 b.toNat).length = s.length := by simp
      have hbs : (bytesRow ⟨⟨s⟩⟩ (grownCap w s.length 0 e)).size = grownCap w s.length 0 e := by
        have e0 : ByteArray.size ⟨⟨s⟩⟩ = s.length := size_mk s
        simp only [bytesRow, Array.size_append, Array.size_map, Array.size_replicate, e0]
        simp only [List.size_toArray]
        omega
      have hsl : s.length ≤ maxLen := by
        have hsl : s.length ≤ maxBytes := by assumption
        simp only [maxBytes] at hsl
        simp only [maxLen]; omega
      obtain ⟨γ', hle, hm, hr', hsz⟩ := hr.drew.newObj (bytesRow ⟨⟨s⟩⟩ (grownCap w s.length 0 e)) e ((bytesRow ⟨⟨s⟩⟩ (grownCap w s.length 0 e)).size, (bytesRow ⟨⟨s⟩⟩ (grownCap w s.length 0 e)).size + 1) (s.map fun b => AVal.int .u8 b.toNat) (.inr (Nat.le_refl _))
        (by
          rw [hl, bytesRow_take]
          have := rowsOf_flatten γ s
          rw [rowsOf_cells] at this; exact this)
        (fun u hu => by
          rw [hl, bytesRow_take] at hu
          obtain ⟨b, _, rfl⟩ := List.mem_map.1 hu
          rfl)
      exact Sim.value (v := .slice (some ⟨w.heap.size, 0, none⟩) s.length (grownCap w s.length 0 e)) (by simp only [execOp, ho]; exact run_value' hrun) (hr'.put fun _ _ => ⟨w.heap.size, _, hm, rfl, hgc, ⟨Nat.succ_pos 0, grownCap_le_maxLen w _ _ _ hsl⟩, by rw [Nat.zero_add, Nat.mul_one, ← hbs]; exact hsz⟩)
    · cases hp
  · cases hp

theorem flatten_replicate_get {α : Type} (l : List α) : ∀ (c j : Nat), j < c * l.length → (List.replicate c l).flatten[j]? = l[j % l.length]?
  | 0, j, h => by simp at h
  | c + 1, j, h => by
    have h' : j < c * l.length + l.length := by rw [Nat.add_mul] at h; omega
    rw [List.replicate_succ, List.flatten_cons]
    by_cases hj : j < l.length
    · rw [List.getElem?_append_left hj, Nat.mod_eq_of_lt hj]
    · rw [List.getElem?_append_right (by omega), flatten_replicate_get l c _ (by omega), show j % l.length = (j - l.length) % l.length from Nat.mod_eq_sub_mod (by omega)]

theorem sim_make {o : Oper} {t e : TypeId} {l c : Operand} {n b : Nat} {z : AVal} {vl vc u : AVal} {h' : AHeap} (ho : o.op = .makeSlice t l c) (ht : C.P.underlying t = some (.slice e)) (hsz : tySize C.P e = some (n + 1)) (hby : tyBytes C.P e = some (b + 1)) (hz : tyZero C.P e = some z) (hl : opVal C σ l = some vl) (hc : opVal C σ c = some vc)
    (hm : hmake h (n + 1) (b + 1) z.cells vl vc = some (h', u)) (hr : Rel C γ0 w0 γ β σ h a w) : Sim C γ0 w0 o a w (σ.put o.dst (.val u)) h' := by
  unfold hmake at hm
  split at hm
  · rename_i k m
    split at hm
    · rename_i hcond
      obtain ⟨c1, c2, c3, c4⟩ := hcond
      cases hm
      unfold tyZero at hz
      cases hi : C.P.info? e with
      | none => rw [hi] at hz; cases hz
      | some i =>
        rw [hi] at hz
        cases hzv : i.zero with
        | none => simp [hzv] at hz
        | some zv =>
          simp only [Option.bind_some, hzv] at hz
          have his := tySize_info hsz hi
          have hib := tyBytes_info hby hi
          obtain ⟨q1, q2⟩ := cells_rel (γ := γ) (ofConst_rel hz) (by omega)
          have hzs : zv.cells.size = n + 1 := by have := q1.length; simp at this; omega
          have hmb : m.toNat * (b + 1) ≤ maxBytes := c3
          have hmm : m.toNat ≤ maxBytes := Nat.le_trans (Nat.le_mul_of_pos_right m.toNat (Nat.succ_pos b)) hmb
          have hrun := run_make (P := C.P) w t e i zv ht hi hzv .i64 .i64 k m c1 c2 (by
            rw [hib]
            have e1 : ((b + 1 : Nat) : Int) * m = ((m.toNat * (b + 1) : Nat) : Int) := by
              rw [Int.natCast_mul, Int.toNat_of_nonneg (by omega), Int.mul_comm]
            rw [e1]
            simp only [maxBytes] at hmb
            omega) (by simp only [maxBytes] at hmm; omega)
          rw [← rel_int (opVal_rel hr hl), ← rel_int (opVal_rel hr hc)] at hrun
          have hlen : ((List.replicate m.toNat z.cells).flatten).length = m.toNat * (n + 1) := by
            rw [flatten_length (z := n + 1) (fun r hr => by rw [List.eq_of_mem_replicate hr, c4]), List.length_replicate]
          have hmc : ∀ (j : Nat) (u : Value), (madeCells zv.cells (m.toNat * i.size)).toList[j]? = some u → j < m.toNat * (n + 1) ∧ zv.cells.toList[j % (n + 1)]? = some u := by
            intro j u hj
            have hjl : j < m.toNat * (n + 1) := by
              have := (List.getElem?_eq_some_iff.1 hj).1
              simpa [size_madeCells, his] using this
            refine ⟨hjl, ?_⟩
            have hmod : j % (n + 1) < zv.cells.size := by rw [hzs]; exact Nat.mod_lt _ (Nat.succ_pos n)
            simp only [madeCells, Array.toList_map, List.getElem?_map] at hj
            have hrange : (Array.range (m.toNat * i.size)).toList[j]? = some j := by
              simp [his, hjl]
            rw [hrange] at hj
            simp only [Option.map_some, Option.some.injEq] at hj
            rw [hzs] at hj
            rw [← hj]
            simp [hmod]
          have hV : VRelV γ (List.replicate m.toNat z.cells).flatten (madeCells zv.cells (m.toNat * i.size)).toList := by
            refine VRelV.of_get (by simp [hlen, size_madeCells, his]) fun j x u hx hu => ?_
            obtain ⟨hjl, hju⟩ := hmc j u hu
            rw [flatten_replicate_get z.cells _ _ (by rw [c4]; exact hjl), c4] at hx
            obtain ⟨u', hu', hxr⟩ := q1.get hx
            rw [hju] at hu'; cases hu'
            exact hxr
          obtain ⟨γ', hle, hm', hr', hszm⟩ := hr.newObj (madeCells zv.cells (m.toNat * i.size)) e (0, 0) (List.replicate m.toNat z.cells).flatten (.inl rfl) (hV.of_take (by rw [hV.length]; exact Nat.le_refl _)) (fun u hu => by
            obtain ⟨j, hj⟩ := List.getElem?_of_mem (List.mem_of_mem_take hu)
            exact q2 u (List.mem_of_getElem? (hmc j u hj).2))
          exact Sim.value (by simp only [execOp, ho]; exact run_value' hrun) (hr'.put fun _ _ => ⟨w.heap.size, m.toNat, hm', rfl, by omega, ⟨Nat.succ_pos n, by simp only [maxBytes] at hmm; simp only [maxLen]; omega⟩, by rw [hszm, size_madeCells, his, Nat.zero_add]⟩)
    · cases hm
  · cases hm

/-- An owned row without elements becomes an object. -/
theorem Rel.adopt (hr : Rel C γ0 w0 γ β σ h a w) {g : Nat} (hown : γ.own g = some (.tail σ.length none 0)) (hB : w0.heap.size ≤ g) {us : Array Value} {e : TypeId} (hg : w.heap[g]? = some (.cells us e (0, 0))) (us' : Array Value) (cs : List AVal)
    (hv : VRelV γ cs (us'.toList.take cs.length)) (h1 : ∀ u ∈ us'.toList.take cs.length, u.oneCell' = true) : ∃ γ', γ.le γ' ∧ γ'.mu h.length = some g ∧ Rel C γ0 w0 γ' β σ (h ++ [.cells cs]) a (w.setRow g us') ∧ γ'.sz g = some us'.size := by
  have hmu : γ.mu h.length = none := by
    cases hc : γ.mu h.length with
    | none => rfl
    | some y => exact absurd (hr.inv.mu _ y hc) (Nat.lt_irrefl _)
  have hsz : γ.sz g = none := by
    cases hc : γ.sz g with
    | none => rfl
    | some y =>
      obtain ⟨_, r⟩ := hr.inv.sz g y hc
      rw [hown] at r
      rcases r with r | ⟨_, r⟩ <;> cases r
  have hle : γ.le (γ.object g h.length (some us'.size)) := ⟨fun _ _ _ hv => hv, fun id b hm => by
    have : id ≠ h.length := fun he => by rw [he, hmu] at hm; cases hm
    simp only [Gh.object, if_neg this]; exact hm, fun b n hm => by
    have : b ≠ g := fun he => by rw [he, hsz] at hm; cases hm
    simp only [Gh.object, if_neg this]; exact hm⟩
  have hszi : ∀ b n, (γ.object g h.length (some us'.size)).sz b = some n → (∃ us e fr, (w.setRow g us').heap[b]? = some (.cells us e fr) ∧ us.size = n) ∧ ((γ.object g h.length (some us'.size)).own b = none ∨ ∃ id, (γ.object g h.length (some us'.size)).own b = some (.obj id)) := fun b n hb => by
    by_cases he : b = g
    · subst he
      simp only [Gh.object, if_true] at hb
      cases hb
      exact ⟨⟨us', e, (0, 0), setRow_heap w b us us' e (0, 0) hg, rfl⟩, .inr ⟨h.length, by simp [Gh.object]⟩⟩
    · simp only [Gh.object, if_neg he] at hb ⊢
      obtain ⟨p, r⟩ := hr.inv.sz b n hb
      exact ⟨by rw [setRow_other w g b us' he]; exact p, r⟩
  have hne : ∀ b id, γ.own b = some (.obj id) → b ≠ g := fun b id hb he => by rw [he, hown] at hb; cases hb
  have hk : KeptBut g γ w (γ.object g h.length (some us'.size)) (w.setRow g us') := ⟨hle, fun b x hb hx _ => ⟨by simp only [Gh.object, if_neg hb]; exact hx, setRow_other w g b us' hb⟩⟩
  refine ⟨_, hle, by simp [Gh.object], ⟨⟨fun b o v hb => ?_, fun id y hid hy => ?_, fun id cs' hc b hb => ?_, fun id es hc b hb => ?_, fun id b hb => ?_, fun b y hy => ?_, hszi⟩, ⟨hr.fr.size, fun s => ?_⟩, hr.acc.write (g := g) hB hle (by simp) rfl rfl rfl (fun b hb => ⟨setRow_other w g b us' hb, by simp only [Gh.object, if_neg hb]⟩), hr.defers, fun x cs' hx => VRelM.mono hle _ _ _ (hr.glob x cs' hx)⟩, by simp [Gh.object]⟩
  · obtain ⟨p, q, r⟩ := hr.inv.imm b o v hb
    have hbe : b ≠ g := fun he => by
      subst he
      rw [hown] at r
      rcases r with r | ⟨_, _, _, r, hl⟩
      · cases r
      · cases r; omega
    exact ⟨by rw [cell?_of_heap (setRow_other w g b us' hbe)]; exact p, q, by simp only [Gh.object, if_neg hbe]; exact r⟩
  · by_cases he : id = h.length
    · exact ⟨g, by simp [Gh.object, he], by simp [Gh.object, he]⟩
    · have hid' : id < h.length := by
        rw [List.getElem?_eq_some_iff] at hid
        obtain ⟨hl, _⟩ := hid
        simp at hl; omega
      rw [List.getElem?_append_left hid'] at hid
      obtain ⟨b, p, q⟩ := hr.inv.obj id y hid hy
      exact ⟨b, by simp only [Gh.object, if_neg he]; exact p, by simp only [Gh.object, if_neg (hne b id q)]; exact q⟩
  · by_cases he : id = h.length
    · subst he
      simp [Gh.object] at hb
      subst hb
      simp at hc
      subst hc
      exact ⟨us', e, (0, 0), setRow_heap w g us us' e (0, 0) hg, .inl rfl, VRelV.mono hle _ _ hv, h1⟩
    · simp only [Gh.object, if_neg he] at hb
      have hid' := hr.inv.mu id b hb
      rw [List.getElem?_append_left hid'] at hc
      obtain ⟨b', p1, p2⟩ := hr.inv.obj id _ hc (by simp)
      rw [hb] at p1; cases p1
      obtain ⟨us2, e2, fr2, p, pf, q, r⟩ := hr.inv.cells id cs' hc b hb
      exact ⟨us2, e2, fr2, by rw [setRow_other w g b us' (hne b id p2)]; exact p, pf, VRelV.mono hle _ _ q, r⟩
  · by_cases he : id = h.length
    · subst he
      simp at hc
    · simp only [Gh.object, if_neg he] at hb
      have hid' := hr.inv.mu id b hb
      rw [List.getElem?_append_left hid'] at hc
      obtain ⟨b', p1, p2⟩ := hr.inv.obj id _ hc (by simp)
      rw [hb] at p1; cases p1
      obtain ⟨ents, clock, p, q⟩ := hr.inv.map id es hc b hb
      exact ⟨ents, clock, by rw [setRow_other w g b us' (hne b id p2)]; exact p, q.mono hle⟩
  · by_cases he : id = h.length
    · simp [he]
    · simp only [Gh.object, if_neg he] at hb
      have := hr.inv.mu id b hb
      simp; omega
  · by_cases hbe : b = g
    · subst hbe
      have := hr.inv.own _ _ hown
      simpa using this
    · simp only [Gh.object, if_neg hbe] at hy
      have := hr.inv.own b y hy
      simpa using this
  · by_cases hs : s = σ.length
    · subst hs
      rw [Env.at_length]; trivial
    · exact (hr.fr.slots s).keptBut hown hk (by simp only [Owner.slot]; intro hx; cases hx; exact hs rfl)

/-- A slice of an object becomes a plain one. -/
theorem Rel.frz (hr : Rel C γ0 w0 γ β σ h a w) {v v' : AVal} {u : Value} {h' : AHeap} (hv : VRel γ v u) (hf : hfrz h v = some (h', v')) : ∃ γ', γ.le γ' ∧ Rel C γ0 w0 γ' β σ h' a w ∧ VRel γ' v' u := by
  unfold hfrz at hf
  split at hf
  · rename_i id off n z
    obtain ⟨b, cap, hb, hu, hc, hz, hsz⟩ := hv
    split at hf
    · rename_i cs hcs
      split at hf
      · rename_i hl
        cases hf
        obtain ⟨us, e, fr, p1, pf, p2, p3⟩ := hr.inv.cells id cs hcs b hb
        obtain ⟨hi, ha⟩ := free_obj hr.inv hcs hb p1 p3
        have hrl : ∀ (k o : Nat), (rowsFrom cs z o k).length = k := by
          intro k
          induction k with
          | zero => intro o; rfl
          | succ k ih => intro o; simp [rowsFrom, ih]
        have hrg : ∀ (k o i : Nat) (r : List AVal), (rowsFrom cs z o k)[i]? = some r → i < k ∧ r = (cs.drop (o + i * z)).take z := by
          intro k
          induction k with
          | zero => intro o i r h; simp [rowsFrom] at h
          | succ k ih =>
            intro o i r h
            cases i with
            | zero => simp [rowsFrom] at h; exact ⟨Nat.succ_pos _, by simpa using h.symm⟩
            | succ i =>
              simp [rowsFrom] at h
              obtain ⟨q1, q2⟩ := ih _ _ _ h
              exact ⟨by omega, by rw [q2]; congr 2; rw [Nat.add_mul]; omega⟩
        refine ⟨_, ha.le, hr.world hi ha, ⟨b, off, none⟩, cap, by rw [hrl]; exact hu, by rw [hrl]; exact hc, .inl rfl, VRelR.of_get fun i r hir => ?_⟩
        obtain ⟨q1, rfl⟩ := hrg n off i r hir
        have hiz : i * z + z ≤ n * z := by
          have := Nat.mul_le_mul_right z (show i + 1 ≤ n by omega)
          rwa [Nat.add_mul, Nat.one_mul] at this
        refine ⟨by simp; omega, VRelM.of_get fun j x hj => ?_⟩
        rw [List.getElem?_take] at hj
        split at hj
        · rename_i hjz
          rw [List.getElem?_drop] at hj
          obtain ⟨y, hy, hxy⟩ := p2.get hj
          have hlt : off + i * z + j < cs.length := (List.getElem?_eq_some_iff.1 hj).1
          refine ⟨y, ?_, VRel.mono ha.le _ _ hxy⟩
          simp only [Gh.claim, if_true, if_pos hlt]
          rw [List.getElem?_take_of_lt hlt] at hy
          simpa using hy
        · cases hj
      · cases hf
    · cases hf
  · cases hf
    exact ⟨γ, .refl _, hr, hv⟩

theorem bytesOf_ints : ∀ {rows : List (List AVal)} {s : Bytes}, bytesOf rows = some s → ∃ ns : List Int, rows = ns.map (fun n => [.int .u8 n]) ∧ s = ns.map fun n => UInt8.ofNat n.toNat
  | [], s, hs => by cases hs; exact ⟨[], rfl, rfl⟩
  | r :: rows, s, hs => by
    unfold bytesOf at hs
    split at hs
    · rename_i heq; cases heq
    · rename_i n rs heq
      cases heq
      cases hq : bytesOf rows with
      | none => rw [hq] at hs; cases hs
      | some l =>
        rw [hq] at hs; cases hs
        obtain ⟨ns, rfl, rfl⟩ := bytesOf_ints hq
        exact ⟨n :: ns, rfl, rfl⟩
    · cases hs

theorem foldl_push : ∀ (ns : List Int) (r : ByteArray), ns.foldl (fun r n => r.push (UInt8.ofNat n.toNat)) r = ⟨r.data ++ (ns.map fun n => UInt8.ofNat n.toNat).toArray⟩
  | [], r => by simp
  | n :: ns, r => by
    rw [List.foldl_cons, foldl_push ns]
    simp [ByteArray.push]

theorem sim_b2s {o : Oper} {src dst e : TypeId} {x : Operand} {v v' u : AVal} {h' : AHeap} (ho : o.op = .convert src dst x) (hs : C.P.underlying src = some (.slice e)) (hd : C.P.underlying dst = some .string) (he : C.P.underlying e = some (.int .u8)) (hx : opVal C σ x = some v) (hf : hfrz h v = some (h', v')) (hp : peval .b2s [v'] = some u)
    (hr : Rel C γ0 w0 γ β σ h a w) : Sim C γ0 w0 o a w (σ.put o.dst (.val u)) h' := by
  obtain ⟨γ', hle, hr', hv'⟩ := hr.frz (opVal_rel hr hx) hf
  have hex : ∀ s, (Conv.bytesToString (a.eval x)).run C.P w = .ok s w → (∃ p l c, a.eval x = .slice p l c) → (execOp a.eval o).run C.P w = .ok (.value s) w := fun s hrun ⟨p, l, c, hsl⟩ => by
    simp only [execOp, ho]
    refine run_value' ?_
    rw [hsl] at hrun ⊢
    rw [run_convert_bytes_string w src dst e p l c hs he hd]
    exact hrun
  simp only [peval] at hp
  unfold textOf at hp
  split at hp
  · rename_i rows
    cases hq : bytesOf rows with
    | none => rw [hq] at hp; cases hp
    | some s =>
      rw [hq] at hp; cases hp
      obtain ⟨ns, rfl, rfl⟩ := bytesOf_ints hq
      obtain ⟨ad, cap, hsl, hc, hsp, hR⟩ := hv'
      have hadd : ∀ (j : Nat) (v : Value), (ns.map (Value.int .u8))[j]? = some v → ad.add j = ⟨ad.block, ad.off + j, none⟩ := fun j v hj => by
        have hpos : 0 < ns.length := by
          have := (List.getElem?_eq_some_iff.1 hj).1
          simp at this
          omega
        have had := plain_addr hsp hc (by simpa using hpos)
        generalize ad.block = b at *
        generalize ad.off = o at *
        subst had
        unfold Addr.add; split <;> simp_all
      have hl := run_loadCells_list (P := C.P) w ad (ns.map (Value.int .u8)) (fun j v hj => by
        rw [hadd j v hj]
        simp only [List.getElem?_map] at hj
        cases hn : ns[j]? with
        | none => rw [hn] at hj; cases hj
        | some n =>
          rw [hn] at hj; cases hj
          obtain ⟨_, hM⟩ := hR.get (i := j) (r := [.int .u8 n]) (by simp [hn])
          obtain ⟨y, hy, hyr⟩ := hM.get (i := 0) (a := .int .u8 n) rfl
          rw [show y = _ from hyr] at hy
          have := (hr'.inv.imm _ _ _ hy).1
          simpa using this)
      simp only [List.length_map] at hl
      have hrun := run_bytesToString (P := C.P) w ad ns.length cap ns hl
      have he0 : ByteArray.empty.data = #[] := rfl
      rw [foldl_push, he0, Array.empty_append] at hrun
      have e1 : a.eval x = .slice (some ad) ns.length cap := by rw [hsl]; simp
      rw [← e1] at hrun
      exact Sim.value (hex _ hrun ⟨_, _, _, e1⟩) (hr'.put fun _ _ => rfl)
  · cases hp
    have e1 : a.eval x = .slice none 0 0 := hv'
    have hrun : (Conv.bytesToString (a.eval x)).run C.P w = .ok (.string ⟨⟨[]⟩⟩) w := by
      rw [e1]
      simp [Conv.bytesToString]
      rfl
    exact Sim.value (hex _ hrun ⟨_, _, _, e1⟩) (hr'.put fun _ _ => rfl)
  · cases hp

/-- A function that is slices.Insert of one int, given in memory of its own. -/
def InsOk (C : Ctx) (f : FuncId) : Prop :=
  (∃ fn c, C.P.funcs[f]? = some fn ∧ (fn.name == "runtime.NumGoroutine") = false ∧ fn.body = some c) ∧
  ∀ (γ : Gh) (h : AHeap) (w : World) (s : AVal) (sv : Value) (i x : Int) (h' : AHeap) (r : AVal) (g vcap : Nat) (us : Array Value) (e : TypeId), Inv γ h w → VRel γ s sv → gInsert h [s, .int .i64 i, .sl 1 [[.int .i64 x]]] = some (h', r) →
    w.heap[g]? = some (.cells us e (0, 0)) → us[0]? = some (.int .i64 x) → (∀ id, γ.own g ≠ some (.obj id)) → 1 ≤ vcap → us.size = vcap →
    Calls C.P f #[sv, .int .i64 i, .slice (some ⟨g, 0, none⟩) 1 vcap] w fun e w' => match e with
      | .returned v => ∃ γ', Inv γ' h' w' ∧ Acc γ w γ' w' ∧ VRel γ' r v
      | _ => False

/-- The calls of a program's functions, as the abstract machine runs them. -/
def SimCalls (C : Ctx) (run : IT → AHeap → Option Res) : Prop :=
  ((∀ g cs, C.glob g = some cs → cs.all AVal.flat = true) ∧ ∀ f, C.ins f = true → InsOk C f) ∧
  ∀ (f : FuncId) (args : List AVal) (h : AHeap) (r : AVal) (h' : AHeap), run (afun C f args) h = some (.ret, [r], h') →
    (∃ fn c, C.P.funcs[realOf f]? = some fn ∧ (fn.name == "runtime.NumGoroutine") = false ∧ fn.body = some c) ∧
    ∀ (γ : Gh) (w : World) (cargs : Array Value), Inv γ h w → (∀ g cs, C.glob g = some cs → VRelM γ cs g 0) → VRelV γ args cargs.toList →
      Calls C.P (realOf f) cargs w fun e w' => match e with
        | .returned v => ∃ γ', Inv γ' h' w' ∧ Acc γ w γ' w' ∧ VRel γ' r v ∧ (C.ownRet f = true → ∃ s c, OwnT γ' w.heap.size w' s c v r)
        | _ => False

theorem OwnT.lower {B B' : Nat} {s : Nat} {c : Option Nat} {v : Value} {x : AVal} (hB : B' ≤ B) (h : OwnT γ B w s c v x) : OwnT γ B' w s c v x := by
  rcases h with h | ⟨g, n, cap, us, e, z, rows, h1, h2, h3, h4, h5⟩
  · exact .inl h
  · exact .inr ⟨g, n, cap, us, e, z, rows, h1, h2, h3, Nat.le_trans hB h4, h5⟩

/-- What comes back from a call. -/
theorem Rel.back (hr : Rel C γ0 w0 γ β σ h a w) {h' : AHeap} {r : AVal} {v : Value} (hi : Inv γ' h' w') (ha : Acc γ w γ' w') (hv : VRel γ' r v) {own : Bool} (ho : own = true → ∃ s c, OwnT γ' w.heap.size w' s c v r) (d : Option Nat) :
    ∃ γ2, Rel C γ0 w0 γ2 β (σ.put d (if own then .own r else .val r)) h' (a.put d v) w' := by
  cases own with
  | false => exact ⟨γ', (hr.world hi ha).put fun _ _ => hv⟩
  | true =>
    obtain ⟨s, c, hT⟩ := ho rfl
    rcases hT with rfl | ⟨g, n, cap, us, e, z, rows, rfl, h2, h3, h4, h5⟩
    · exact ⟨γ', (hr.world hi ha).put fun _ _ => ⟨hv, .inl rfl⟩⟩
    · have ha' : Acc γ w (γ'.retag g (.tail σ.length none (n * z))) w' := ⟨ha.le.trans (le_retag _ _ _), ha.size, ha.os, ha.tape, ha.output, fun b hb hn => by
        obtain ⟨p, q⟩ := ha.keep b hb hn
        exact ⟨p, by simp only [Gh.retag, if_neg (show b ≠ g by omega)]; exact q⟩⟩
      have hr' := hr.world (hi.retag (s' := σ.length) (c' := none) h3) ha'
      exact hr'.putOwn (VRel.mono (le_retag _ _ _) _ _ hv) (.inr ⟨g, n, cap, us, e, z, rows, rfl, h2, by simp [Gh.retag], Nat.le_trans hr.acc.size h4, h5⟩) d

theorem run_callFunc_body {P : Program} {f : FuncId} {fn : Func} {c : Code} (hf : P.funcs[f]? = some fn) (hname : (fn.name == "runtime.NumGoroutine") = false) (hb : fn.body = some c) (args : Array Value) (w : World) :
    (callFunc f args).run P w = .ok (.enter f args) w := by
  have hn : ¬ fn.name = "runtime.NumGoroutine" := by simpa using hname
  simp [callFunc, hf, hn, hb]

theorem wp_enter {o : Oper} {f : FuncId} {cargs : Array Value} {K : Act → World → Prop} {Q : Exit → Act → World → Prop} (he : (execOp a.eval o).run C.P w = .ok (.enter f cargs) w) {R : Value → World → Prop}
    (hc : Calls C.P f cargs w fun e w' => match e with | .returned v => R v w' | _ => False) (hk : ∀ v w', R v w' → K (a.put o.dst v) w') : o.wp C.P a w K Q := by
  unfold Oper.wp
  rw [he]
  refine hc.mono fun e w' h => ?_
  cases e with
  | returned v => exact hk v w' h
  | _ => exact h.elim

theorem sim_call {run : IT → AHeap → Option Res} (hS : SimCalls C run) {o : Oper} {c : Call} {f : FuncId} {args : List AVal} {r : AVal} {h' : AHeap} {K : Act → World → Prop} {Q : Exit → Act → World → Prop} (ho : o.op = .call c) (hcl : c.callee = .value (.func (realOf f))) (ha : opVals C σ c.args.toList = some args)
    (hrun : run (afun C f args) h = some (.ret, [r], h')) (hr : Rel C γ0 w0 γ β σ h a w) (hK : ∀ γ' v w', Rel C γ0 w0 γ' β (σ.put o.dst (if C.ownRet f then .own r else .val r)) h' (a.put o.dst v) w' → K (a.put o.dst v) w') : o.wp C.P a w K Q := by
  obtain ⟨⟨fn, cd, hf, hname, hb⟩, hcalls⟩ := hS.2 f args h r h' hrun
  have hcargs : VRelV γ args (c.args.map a.eval).toList := by simpa using opVals_rel hr ha
  refine wp_enter (f := realOf f) (cargs := c.args.map a.eval) ?_ (hcalls γ w _ hr.inv hr.glob hcargs) fun v w' ⟨γ', hi, hacc, hv, hown⟩ => ?_
  · have h0 : a.eval (.func (realOf f)) = .func (.func (realOf f)) #[] #[] := rfl
    simp only [execOp, ho, resolve, hcl, Deferred.ofValue, h0, Sem.run_bind, Sem.run_pure, Result.andThen_ok, invoke]
    simpa using run_callFunc_body hf hname hb (c.args.map a.eval) w
  · obtain ⟨γ2, hr2⟩ := hr.back hi hacc hv hown o.dst
    exact hK γ2 v w' hr2

/-- An insert of one int. -/
theorem sim_ins {run : IT → AHeap → Option Res} (hS : SimCalls C run) {o : Oper} {c : Call} {f : FuncId} {s i x : Operand} {args : List AVal} {r : AVal} {h' : AHeap} {K : Act → World → Prop} {Q : Exit → Act → World → Prop} (ho : o.op = .call c) (hcl : c.callee = .value (.func f)) (hf : C.ins f = true) (hargs : c.args.toList = [s, i, x]) (hown : isOwn C σ x = true)
    (ha : opVals C σ [s, i, x] = some args) (hp : gInsert h args = some (h', r)) (hr : Rel C γ0 w0 γ β σ h a w) (hK : ∀ γ' v w', Rel C γ0 w0 γ' β (σ.put o.dst (.val r)) h' (a.put o.dst v) w' → K (a.put o.dst v) w') : o.wp C.P a w K Q := by
  obtain ⟨⟨fn, cd, hfn, hname, hb⟩, hins⟩ := hS.1.2 f hf
  have hvv := opVals_rel hr ha
  obtain ⟨u1, us1, f1, g1, f2⟩ : ∃ u1 us1, [a.eval s, a.eval i, a.eval x] = u1 :: us1 ∧ VRel γ (args.getD 0 .nilIface) u1 ∧ True := by
    cases args with
    | nil => cases hvv
    | cons y l => obtain ⟨u, us, e, p, q⟩ := hvv; exact ⟨u, us, e, p, trivial⟩
  obtain ⟨s', i', x', he, k, xx, hx'⟩ : ∃ s' i' x', args = [s', .int .i64 i', .sl 1 [[.int .i64 x']]] ∧ ∃ (k : VRel γ s' (a.eval s)) (xx : a.eval i = .int .i64 i'), VRel γ (.sl 1 [[.int .i64 x']]) (a.eval x) := by
    unfold gInsert at hp
    split at hp
    · obtain ⟨_, _, _, e, p1, p2, p3⟩ := hvv.three
      simp only [List.map_cons, List.map_nil, List.cons.injEq, and_true] at e
      obtain ⟨rfl, rfl, rfl⟩ := e
      exact ⟨_, _, _, rfl, p1, p2, p3⟩
    · obtain ⟨_, _, _, e, p1, p2, p3⟩ := hvv.three
      simp only [List.map_cons, List.map_nil, List.cons.injEq, and_true] at e
      obtain ⟨rfl, rfl, rfl⟩ := e
      exact ⟨_, _, _, rfl, p1, p2, p3⟩
    · cases hp
  subst he
  have hvx : opVal C σ x = some (.sl 1 [[.int .i64 x']]) := by
    simp only [opVals] at ha
    cases h1 : opVal C σ s <;> cases h2 : opVal C σ i <;> cases h3 : opVal C σ x <;> simp_all
  -- the row is its owner's
  obtain ⟨sl, hsl⟩ : ∃ sl, opSlot C σ x = some sl := by
    unfold isOwn at hown
    cases hs : opSlot C σ x with
    | none => rw [hs] at hown; cases hown
    | some sl => exact ⟨sl, rfl⟩
  have hsl' : ∃ v, sl = .own v := by
    unfold isOwn at hown
    rw [hsl] at hown
    cases sl <;> first | exact ⟨_, rfl⟩ | cases hown
  obtain ⟨v, rfl⟩ := hsl'
  obtain ⟨s0, hrel, _⟩ := opSlot_any hr hsl
  have hveq : v = .sl 1 [[.int .i64 x']] := by
    simp only [opVal, hsl, Option.bind_some, Slot.value?, Option.some.injEq] at hvx
    exact hvx
  subst hveq
  obtain ⟨hvr, hT⟩ := hrel
  rcases hT with hT | ⟨g, n, cap, us, e, z, rows, h1, h2, h3, h4, h5, h6, h7, h8, h9⟩
  · cases hT
  · cases h1
    obtain ⟨ad, cap2, e1, e2, e3, e4⟩ := hx'
    rw [h2] at e1
    cases e1
    obtain ⟨_, hm, _⟩ := e4
    obtain ⟨⟨u, hu, hru⟩, _⟩ := hm
    obtain ⟨hcell, _, _⟩ := hr.inv.imm _ _ _ hu
    have hus : us[0]? = some (.int .i64 x') := by
      rw [cell_of_row w _ _ us e (0, 0) h5] at hcell
      rw [hcell]; exact congrArg some hru
    have hcargs : c.args.map a.eval = #[a.eval s, .int .i64 i', .slice (some ⟨g, 0, none⟩) 1 cap] := by
      apply Array.ext'
      simp only [Array.toList_map, hargs, List.map_cons, List.map_nil, xx, h2]
      rfl
    have hcc := hins γ h w s' _ i' x' h' r g cap us e hr.inv k hp h5 hus (fun id hid => by rw [h3] at hid; cases hid) h7 (by rw [h6, Nat.mul_one])
    rw [← hcargs] at hcc
    refine wp_enter (f := f) (cargs := c.args.map a.eval) ?_ hcc fun v w' ⟨γ', hi, hacc, hv⟩ => ?_
    · have h0 : a.eval (.func f) = .func (.func f) #[] #[] := rfl
      simp only [execOp, ho, resolve, hcl, Deferred.ofValue, h0, Sem.run_bind, Sem.run_pure, Result.andThen_ok, invoke]
      simpa using run_callFunc_body hfn hname hb (c.args.map a.eval) w
    · obtain ⟨γ2, hr2⟩ := hr.back (own := false) hi hacc hv (fun e => by cases e) o.dst
      exact hK γ2 v w' (by simpa using hr2)

/-- What is known of the memory, when the objects are left out. -/
def Gh.apart (γ : Gh) : Gh := { imm := γ.imm, mu := fun _ => none, own := fun b => match γ.own b with | some (.obj _) => none | x => x, sz := γ.sz }

theorem Inv.apart (hi : Inv γ h w) : Inv γ.apart [] w := by
  refine ⟨fun b o v hb => ?_, fun id x hx => by simp at hx, fun id cs hx => by simp at hx, fun id es hx => by simp at hx, fun id b hb => (by cases hb), fun b x hx => ?_, fun b n hb => ?_⟩
  rotate_left 2
  · obtain ⟨p, r⟩ := hi.sz b n hb
    refine ⟨p, .inl ?_⟩
    simp only [Gh.apart]
    rcases r with r | ⟨_, r⟩ <;> rw [r]
  · obtain ⟨p, q, r⟩ := hi.imm b o v hb
    refine ⟨p, q, ?_⟩
    simp only [Gh.apart]
    rcases r with r | ⟨s, c, st, r, hl⟩
    · exact .inl (by rw [r])
    · exact .inr ⟨s, c, st, by rw [r], hl⟩
  · simp only [Gh.apart] at hx
    split at hx
    · cases hx
    · exact hi.own b x hx

/-- A call that neither takes nor gives addresses leaves all as it was. -/
theorem Rel.besides (hr : Rel C γ0 w0 γ β σ h a w) {γ1 : Gh} {h1 : AHeap} (hi : Inv γ1 h1 w') (ha : Acc γ.apart w γ1 w') : ∃ γ2, Rel C γ0 w0 γ2 β σ h a w' := by
  have hno : ∀ b id, γ.apart.own b ≠ some (.obj id) := fun b id e => by
    simp only [Gh.apart] at e
    split at e
    · cases e
    · rename_i hn; exact hn id e
  have hsame : ∀ b, b < w.heap.size → w'.heap[b]? = w.heap[b]? := fun b hb => (ha.keep b hb (hno b)).1
  refine ⟨γ, hr.world ⟨fun b o v hb => ?_, hr.inv.obj, fun id cs hc b hb => ?_, fun id es hc b hb => ?_, hr.inv.mu, fun b x hx => Nat.lt_of_lt_of_le (hr.inv.own b x hx) ha.size, fun b n hb => (by
      obtain ⟨⟨us, e, fr, p, q⟩, r⟩ := hr.inv.sz b n hb
      exact ⟨⟨us, e, fr, by rw [hsame b (Array.getElem?_eq_some_iff.1 p).1]; exact p, q⟩, r⟩)⟩
    ⟨.refl _, ha.size, ha.os, ha.tape, ha.output, fun b hb _ => ⟨hsame b hb, rfl⟩⟩⟩
  · obtain ⟨p, q, r⟩ := hr.inv.imm b o v hb
    exact ⟨by rw [cell?_of_heap (hsame b (lt_of_cell p))]; exact p, q, r⟩
  · obtain ⟨us, e, fr, p, q⟩ := hr.inv.cells id cs hc b hb
    exact ⟨us, e, fr, by rw [hsame b (Array.getElem?_eq_some_iff.1 p).1]; exact p, q⟩
  · obtain ⟨ents, clock, p, q⟩ := hr.inv.map id es hc b hb
    exact ⟨ents, clock, by rw [hsame b (Array.getElem?_eq_some_iff.1 p).1]; exact p, q⟩

theorem flat_rel {γ γ' : Gh} {x : AVal} {v : Value} (hf : x.flat = true) (hv : VRel γ x v) : VRel γ' x v := by
  cases x <;> first | exact hv | cases hf

theorem flats_rel {γ γ' : Gh} : ∀ {l : List AVal} {us : List Value}, l.all AVal.flat = true → VRelV γ l us → VRelV γ' l us
  | [], us, _, h => h
  | x :: l, us, hf, h => by
    obtain ⟨u, us', e, h1, h2⟩ := h
    simp only [List.all_cons, Bool.and_eq_true] at hf
    exact ⟨u, us', e, flat_rel hf.1 h1, flats_rel hf.2 h2⟩

theorem VRelM.apart {γ : Gh} : ∀ {l : List AVal} {b o : Nat}, VRelM γ l b o → l.all AVal.flat = true → VRelM γ.apart l b o
  | [], _, _, _, _ => trivial
  | x :: l, b, o, h, hf => by
    obtain ⟨⟨u, h1, h2⟩, h3⟩ := h
    simp only [List.all_cons, Bool.and_eq_true] at hf
    exact ⟨⟨u, h1, flat_rel hf.1 h2⟩, h3.apart hf.2⟩

theorem sim_pcall {run : IT → AHeap → Option Res} (hS : SimCalls C run) {o : Oper} {c : Call} {f : FuncId} {args : List AVal} {r : AVal} {h1 : AHeap} {K : Act → World → Prop} {Q : Exit → Act → World → Prop} (ho : o.op = .call c) (hcl : c.callee = .value (.func (realOf f))) (ha : opVals C σ c.args.toList = some args)
    (hfa : args.all AVal.flat = true) (hrun : run (afun C f args) [] = some (.ret, [r], h1)) (hfr : r.flat = true) (hr : Rel C γ0 w0 γ β σ h a w) (hK : ∀ γ' v w', Rel C γ0 w0 γ' β (σ.put o.dst (.val r)) h (a.put o.dst v) w' → K (a.put o.dst v) w') : o.wp C.P a w K Q := by
  obtain ⟨⟨fn, cd, hf, hname, hb⟩, hcalls⟩ := hS.2 f args [] r h1 hrun
  have hcargs : VRelV γ.apart args (c.args.map a.eval).toList := flats_rel hfa (by simpa using opVals_rel hr ha)
  refine wp_enter (f := realOf f) (cargs := c.args.map a.eval) ?_ (hcalls γ.apart w _ hr.inv.apart (fun g cs hg => (hr.glob g cs hg).apart (hS.1.1 g cs hg)) hcargs) fun v w' ⟨γ', hi, hacc, hv, _⟩ => ?_
  · have h0 : a.eval (.func (realOf f)) = .func (.func (realOf f)) #[] #[] := rfl
    simp only [execOp, ho, resolve, hcl, Deferred.ofValue, h0, Sem.run_bind, Sem.run_pure, Result.andThen_ok, invoke]
    simpa using run_callFunc_body hf hname hb (c.args.map a.eval) w
  · obtain ⟨γ2, hr2⟩ := hr.besides hi hacc
    exact hK γ2 v w' (hr2.put fun _ _ => flat_rel hfr hv)

theorem sim_callv {run : IT → AHeap → Option Res} (hS : SimCalls C run) {o : Oper} {c : Call} {g : Operand} {gv : AVal} {f : FuncId} {args args' : List AVal} {r : AVal} {h' : AHeap} {K : Act → World → Prop} {Q : Exit → Act → World → Prop} (ho : o.op = .call c) (hcl : c.callee = .value g) (hg : opVal C σ g = some gv)
    (ha : opVals C σ c.args.toList = some args) (ht : targetOf gv args = some (f, args')) (hrun : run (afun C f args') h = some (.ret, [r], h')) (hr : Rel C γ0 w0 γ β σ h a w) (hK : ∀ γ' v w', Rel C γ0 w0 γ' β (σ.put o.dst (.val r)) h' (a.put o.dst v) w' → K (a.put o.dst v) w') : o.wp C.P a w K Q := by
  obtain ⟨⟨fn, cd, hf, hname, hb⟩, hcalls⟩ := hS.2 f args' h r h' hrun
  have hgv := opVal_rel hr hg
  unfold targetOf at ht
  split at ht
  · rename_i f0 first captured
    split at ht
    rotate_left
    · cases ht
    rename_i hf0
    cases ht
    rw [show realOf f = f from if_pos hf0] at hf hcalls
    obtain ⟨fs, cs, hge, h1, h2⟩ := hgv
    have hcargs : VRelV γ (first ++ args ++ captured) (fs ++ c.args.map a.eval ++ cs).toList := by
      simpa using (h1.append (opVals_rel hr ha)).append h2
    refine wp_enter (f := f) (cargs := fs ++ c.args.map a.eval ++ cs) ?_ (hcalls γ w _ hr.inv hr.glob hcargs) fun v w' ⟨γ', hi, hacc, hv, hown⟩ => ?_
    · simp only [execOp, ho, resolve, hcl, Deferred.ofValue, hge, Sem.run_bind, Sem.run_pure, Result.andThen_ok, invoke]
      exact run_callFunc_body hf hname hb _ w
    · obtain ⟨γ2, hr2⟩ := hr.back (own := false) hi hacc hv (fun e => by cases e) o.dst
      exact hK γ2 v w' (by simpa using hr2)
  · cases ht
end
end Go.Am
