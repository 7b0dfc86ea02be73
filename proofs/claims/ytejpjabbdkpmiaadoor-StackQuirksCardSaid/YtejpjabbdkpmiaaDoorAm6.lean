/-
  What new blocks and writes do to what is known of the world. No law is claimed here.
-/
import Derived.Test.YtejpjabbdkpmiaaDoorAm5
set_option linter.unusedSimpArgs false
set_option linter.unusedVariables false
namespace Go.Am

theorem cell?_of_heap {w w' : World} {b o : Nat} (h : w'.heap[b]? = w.heap[b]?) : w'.cell? ⟨b, o, none⟩ = w.cell? ⟨b, o, none⟩ := by
  simp [World.cell?, h]

theorem lt_of_cell {w : World} {b o : Nat} {v : Value} (h : w.cell? ⟨b, o, none⟩ = some v) : b < w.heap.size := by
  rcases Nat.lt_or_ge b w.heap.size with h' | h'
  · exact h'
  · simp [World.cell?, Array.getElem?_eq_none h'] at h

theorem Inv.imm_lt {γ : Gh} {h : AHeap} {w : World} (hi : Inv γ h w) {b o : Nat} {v : Value} (hb : γ.imm b o = some v) : b < w.heap.size := lt_of_cell (hi.imm b o v hb).1

/-- A world with the same memory. -/
theorem Inv.same {γ : Gh} {h : AHeap} {w w' : World} (hi : Inv γ h w) (hh : w'.heap = w.heap) : Inv γ h w' := by
  refine ⟨fun b o v hb => ?_, hi.obj, fun id cs hc b hb => ?_, fun id es hc b hb => ?_, hi.mu, fun b x hx => ?_⟩
  · obtain ⟨h1, h2, h3⟩ := hi.imm b o v hb
    have e := cell?_of_heap (w := w) (w' := w') (b := b) (o := o) (by rw [hh])
    exact ⟨e.trans h1, h2, h3⟩
  · rw [hh]; exact hi.cells id cs hc b hb
  · rw [hh]; exact hi.map id es hc b hb
  · rw [hh]; exact hi.own b x hx

theorem Acc.same {γ : Gh} {w w' : World} (hh : w'.heap = w.heap) (h1 : w'.os = w.os) (h2 : w'.tape = w.tape) (h3 : w'.output = w.output) : Acc γ w γ w' :=
  ⟨.refl _, by rw [hh]; exact Nat.le_refl _, h1, h2, h3, fun _ _ _ => ⟨by rw [hh], rfl⟩⟩

theorem Acc.drew (γ : Gh) (w : World) : Acc γ w γ w.drew := Acc.same rfl rfl rfl rfl

def Gh.claim (γ : Gh) (b : Nat) (us : Array Value) (k : Nat) (x : Option Owner) : Gh :=
  { imm := fun b' o => if b' = b then (if o < k then us[o]? else none) else γ.imm b' o, mu := γ.mu, own := fun b' => if b' = b then x else γ.own b' }

def Gh.object (γ : Gh) (b id : Nat) : Gh :=
  { imm := γ.imm, mu := fun i => if i = id then some b else γ.mu i, own := fun b' => if b' = b then some (.obj id) else γ.own b' }

section
variable {γ : Gh} {h : AHeap} {w : World}

theorem heap_alloc_lt (w : World) (o : Obj) {b : Nat} (hb : b < w.heap.size) : (w.alloc o).heap[b]? = w.heap[b]? := heap_alloc_old w o b hb

/-- A new row of cells: claimed up to k; what lies behind is owned. -/
theorem alloc_claim (hi : Inv γ h w) (us : Array Value) (e : TypeId) (fr : Nat × Nat) (k : Nat) (x : Option Owner) (h1 : ∀ o u, o < k → us[o]? = some u → u.oneCell' = true)
    (hx : x = none ∨ (∃ s c, x = some (.tail s c k)) ∨ (k = 0 ∧ ∀ id, x ≠ some (.obj id))) :
    Inv (γ.claim w.heap.size us k x) h (w.alloc (.cells us e fr)) ∧ Acc γ w (γ.claim w.heap.size us k x) (w.alloc (.cells us e fr)) := by
  have hown : γ.own w.heap.size = none := by
    cases hc : γ.own w.heap.size with
    | none => rfl
    | some y => exact absurd (hi.own _ y hc) (Nat.lt_irrefl _)
  have himm : ∀ o, γ.imm w.heap.size o = none := fun o => by
    cases hc : γ.imm w.heap.size o with
    | none => rfl
    | some y => exact absurd (hi.imm_lt hc) (Nat.lt_irrefl _)
  have hle : γ.le (γ.claim w.heap.size us k x) := ⟨fun b' o' v' hv' => by
    have : b' ≠ w.heap.size := fun he => by rw [he, himm] at hv'; cases hv'
    simp only [Gh.claim, if_neg this]; exact hv', fun _ _ hm => hm⟩
  constructor
  · refine ⟨fun b o v hb => ?_, fun id y hid hy => ?_, fun id cs hc b hb => ?_, fun id es hc b hb => ?_, hi.mu, fun b y hy => ?_⟩
    · by_cases hbe : b = w.heap.size
      · subst hbe
        simp only [Gh.claim, if_true] at hb ⊢
        split at hb
        · rename_i hlt
          refine ⟨by rw [cell_of_row _ _ _ us e fr (heap_alloc_new w _)]; exact hb, h1 o v hlt hb, ?_⟩
          rcases hx with hx | ⟨s, c, hx⟩ | ⟨hx, _⟩
          · exact .inl hx
          · exact .inr ⟨s, c, k, hx, hlt⟩
          · omega
        · cases hb
      · simp only [Gh.claim, if_neg hbe] at hb ⊢
        obtain ⟨p, q, r⟩ := hi.imm b o v hb
        exact ⟨by rw [cell?_of_heap (heap_alloc_lt w _ (lt_of_cell p))]; exact p, q, r⟩
    · obtain ⟨b, p, q⟩ := hi.obj id y hid hy
      refine ⟨b, p, ?_⟩
      have : b ≠ w.heap.size := fun he => by rw [he, hown] at q; cases q
      simp only [Gh.claim, if_neg this]; exact q
    · obtain ⟨us', e', fr', p, pf, q, r⟩ := hi.cells id cs hc b hb
      exact ⟨us', e', fr', by rw [heap_alloc_lt _ _ (by rw [Array.getElem?_eq_some_iff] at p; exact p.1)]; exact p, pf, VRelV.mono hle cs _ q, r⟩
    · obtain ⟨ents, clock, p, q⟩ := hi.map id es hc b hb
      refine ⟨ents, clock, by rw [heap_alloc_lt _ _ (by rw [Array.getElem?_eq_some_iff] at p; exact p.1)]; exact p, ?_⟩
      clear hc p
      revert q
      generalize ents.toList = l
      intro q
      induction es generalizing l with
      | nil => exact q
      | cons kv es ih =>
        obtain ⟨kk, vv⟩ := kv
        obtain ⟨en, es', hl, a1, a2, a3⟩ := q
        exact ⟨en, es', hl, VRel.mono hle _ _ a1, VRel.mono hle _ _ a2, ih es' a3⟩
    · by_cases hbe : b = w.heap.size
      · subst hbe; simp
      · simp only [Gh.claim, if_neg hbe] at hy
        have := hi.own b y hy
        simp; omega
  · refine ⟨hle, by simp, rfl, rfl, rfl, fun b hb _ => ⟨heap_alloc_lt _ _ hb, ?_⟩⟩
    simp only [Gh.claim, if_neg (Nat.ne_of_lt hb)]

theorem MRel.mono {γ γ' : Gh} (hle : γ.le γ') : ∀ {es : List (AVal × AVal)} {l : List MapEntry}, MRel γ es l → MRel γ' es l
  | [], l, q => q
  | (kk, vv) :: es, l, q => by
    obtain ⟨en, es', hl, a1, a2, a3⟩ := q
    exact ⟨en, es', hl, VRel.mono hle _ _ a1, VRel.mono hle _ _ a2, a3.mono hle⟩

/-- A new object of the abstract heap. -/
theorem alloc_object (hi : Inv γ h w) (o : Obj) (x : AObj)
    (hx : (∃ cs us e fr, x = .cells cs ∧ o = .cells us e fr ∧ freeFr fr us.size ∧ VRelV γ cs (us.toList.take cs.length) ∧ ∀ u ∈ us.toList.take cs.length, u.oneCell' = true) ∨ (x = .map [] ∧ o = .map #[] 0)) :
    Inv (γ.object w.heap.size h.length) (h ++ [x]) (w.alloc o) ∧ Acc γ w (γ.object w.heap.size h.length) (w.alloc o) := by
  have hown : γ.own w.heap.size = none := by
    cases hc : γ.own w.heap.size with
    | none => rfl
    | some y => exact absurd (hi.own _ y hc) (Nat.lt_irrefl _)
  have hmu : γ.mu h.length = none := by
    cases hc : γ.mu h.length with
    | none => rfl
    | some y => exact absurd (hi.mu _ y hc) (Nat.lt_irrefl _)
  have hle : γ.le (γ.object w.heap.size h.length) := ⟨fun _ _ _ hv => hv, fun id b hm => by
    have : id ≠ h.length := fun he => by rw [he, hmu] at hm; cases hm
    simp only [Gh.object, if_neg this]; exact hm⟩
  constructor
  · refine ⟨fun b o' v hb => ?_, fun id y hid hy => ?_, fun id cs hc b hb => ?_, fun id es hc b hb => ?_, fun id b hb => ?_, fun b y hy => ?_⟩
    · obtain ⟨p, q, r⟩ := hi.imm b o' v hb
      have hbe : b ≠ w.heap.size := Nat.ne_of_lt (lt_of_cell p)
      exact ⟨by rw [World.cell?_alloc_old _ _ _ hbe]; exact p, q, by simp only [Gh.object, if_neg hbe]; exact r⟩
    · by_cases he : id = h.length
      · exact ⟨w.heap.size, by simp [Gh.object, he], by simp [Gh.object, he]⟩
      · have hid' : id < h.length := by
          rw [List.getElem?_eq_some_iff] at hid
          obtain ⟨hl, _⟩ := hid
          simp at hl; omega
        rw [List.getElem?_append_left hid'] at hid
        obtain ⟨b, p, q⟩ := hi.obj id y hid hy
        have hbe : b ≠ w.heap.size := fun he => by rw [he, hown] at q; cases q
        exact ⟨b, by simp only [Gh.object, if_neg he]; exact p, by simp only [Gh.object, if_neg hbe]; exact q⟩
    · by_cases he : id = h.length
      · subst he
        simp [Gh.object] at hb
        subst hb
        simp at hc
        rcases hx with ⟨cs', us, e, fr, rfl, rfl, pf, p, q⟩ | ⟨rfl, rfl⟩
        · cases hc; exact ⟨us, e, fr, heap_alloc_new w _, pf, VRelV.mono hle _ _ p, q⟩
        · cases hc
      · simp only [Gh.object, if_neg he] at hb
        have hid' := hi.mu id b hb
        rw [List.getElem?_append_left hid'] at hc
        obtain ⟨us', e', fr', p, pf, q, r⟩ := hi.cells id cs hc b hb
        exact ⟨us', e', fr', by rw [heap_alloc_lt _ _ (by rw [Array.getElem?_eq_some_iff] at p; exact p.1)]; exact p, pf, VRelV.mono hle _ _ q, r⟩
    · by_cases he : id = h.length
      · subst he
        simp [Gh.object] at hb
        subst hb
        simp at hc
        rcases hx with ⟨cs', us, e, fr, rfl, rfl, pf, p, q⟩ | ⟨rfl, rfl⟩
        · cases hc
        · cases hc; exact ⟨#[], 0, heap_alloc_new w _, rfl⟩
      · simp only [Gh.object, if_neg he] at hb
        have hid' := hi.mu id b hb
        rw [List.getElem?_append_left hid'] at hc
        obtain ⟨ents, clock, p, q⟩ := hi.map id es hc b hb
        exact ⟨ents, clock, by rw [heap_alloc_lt _ _ (by rw [Array.getElem?_eq_some_iff] at p; exact p.1)]; exact p, q.mono hle⟩
    · by_cases he : id = h.length
      · simp [he]
      · simp only [Gh.object, if_neg he] at hb
        have := hi.mu id b hb
        simp; omega
    · by_cases hbe : b = w.heap.size
      · subst hbe; simp
      · simp only [Gh.object, if_neg hbe] at hy
        have := hi.own b y hy
        simp; omega
  · refine ⟨hle, by simp, rfl, rfl, rfl, fun b hb _ => ⟨heap_alloc_lt _ _ hb, ?_⟩⟩
    simp only [Gh.object, if_neg (Nat.ne_of_lt hb)]

/-- A write into a block that a place of the frame owns whole. -/
theorem write_loc (hi : Inv γ h w) {g s : Nat} (hg : γ.own g = some (.loc s)) (us : Array Value) : Inv γ h (w.setRow g us) := by
  refine ⟨fun b o v hb => ?_, hi.obj, fun id cs hc b hb => ?_, fun id es hc b hb => ?_, hi.mu, fun b x hx => ?_⟩
  · obtain ⟨p, q, r⟩ := hi.imm b o v hb
    have : b ≠ g := fun he => by
      subst he
      rw [hg] at r
      rcases r with r | ⟨_, _, _, r, _⟩ <;> cases r
    exact ⟨by rw [cell?_of_heap (setRow_other w g b us this)]; exact p, q, r⟩
  · have hb' : b ≠ g := fun he => by
      subst he
      obtain ⟨b', p, q⟩ := hi.obj id _ hc (by simp)
      rw [hb] at p; cases p; rw [hg] at q; cases q
    rw [setRow_other w g b us hb']; exact hi.cells id cs hc b hb
  · have hb' : b ≠ g := fun he => by
      subst he
      obtain ⟨b', p, q⟩ := hi.obj id _ hc (by simp)
      rw [hb] at p; cases p; rw [hg] at q; cases q
    rw [setRow_other w g b us hb']; exact hi.map id es hc b hb
  · have := hi.own b x hx
    simpa [World.setRow] using this

/-- An object's cells are written. -/
theorem write_obj (hi : Inv γ h w) {g id : Nat} {cs : List AVal} (hcs : h[id]? = some (.cells cs)) (hg : γ.mu id = some g) {us : Array Value} {e : TypeId} {fr : Nat × Nat} (hw : w.heap[g]? = some (.cells us e fr)) (us' : Array Value) (cs' : List AVal) (hfr : freeFr fr us'.size)
    (hr : VRelV γ cs' (us'.toList.take cs'.length)) (h1 : ∀ u ∈ us'.toList.take cs'.length, u.oneCell' = true) :
    Inv γ (h.set id (.cells cs')) (w.setRow g us') ∧ Acc γ w γ (w.setRow g us') := by
  obtain ⟨g', p, hgo⟩ := hi.obj id _ hcs (by simp)
  rw [hg] at p; cases p
  have uniq : ∀ id' x, h[id']? = some x → x ≠ .dead → γ.mu id' = some g → id' = id := fun id' x hx hxd hm => by
    obtain ⟨b', p, q⟩ := hi.obj id' x hx hxd
    rw [hm] at p; cases p; rw [hgo] at q; cases q; rfl
  constructor
  · refine ⟨fun b o v hb => ?_, fun id' y hid hy => ?_, fun id' cs hc b hb => ?_, fun id' es hc b hb => ?_, fun id' b hb => by simpa using hi.mu id' b hb, fun b x hx => ?_⟩
    · obtain ⟨p, q, r⟩ := hi.imm b o v hb
      have : b ≠ g := fun he => by
        subst he
        rw [hgo] at r
        rcases r with r | ⟨_, _, _, r, _⟩ <;> cases r
      exact ⟨by rw [cell?_of_heap (setRow_other w g b us' this)]; exact p, q, r⟩
    · by_cases he : id' = id
      · subst he; exact ⟨g, hg, hgo⟩
      · rw [List.getElem?_set_ne (fun x => he x.symm)] at hid
        exact hi.obj id' y hid hy
    · by_cases he : id' = id
      · subst he
        rw [hg] at hb; cases hb
        rw [List.getElem?_set_self (hi.mu _ _ hg)] at hc
        cases hc
        exact ⟨us', e, fr, setRow_heap w g us us' e fr hw, hfr, hr, h1⟩
      · rw [List.getElem?_set_ne (fun x => he x.symm)] at hc
        have hb' : b ≠ g := fun hx => by subst hx; exact he (uniq id' _ hc (by simp) hb)
        rw [setRow_other w g b us' hb']; exact hi.cells id' cs hc b hb
    · by_cases he : id' = id
      · subst he
        rw [List.getElem?_set_self (hi.mu _ _ hg)] at hc
        cases hc
      · rw [List.getElem?_set_ne (fun x => he x.symm)] at hc
        have hb' : b ≠ g := fun hx => by subst hx; exact he (uniq id' _ hc (by simp) hb)
        rw [setRow_other w g b us' hb']; exact hi.map id' es hc b hb
    · have := hi.own b x hx
      simpa [World.setRow] using this
  · refine ⟨.refl _, by simp [World.setRow], rfl, rfl, rfl, fun b hb hn => ⟨?_, rfl⟩⟩
    exact setRow_other w g b us' (fun he => by subst he; exact hn id hgo)

/-- The spare places of a block are written, and claimed; another place owns the rest. -/
theorem write_tail (hi : Inv γ h w) {g s st : Nat} {c : Option Nat} (hg : γ.own g = some (.tail s c st)) {us : Array Value} {e : TypeId} (hw : w.heap[g]? = some (.cells us e (0, 0))) (us' : Array Value) (k : Nat) (s' : Nat) (c' : Option Nat)
    (hsame : ∀ o, o < st → us'[o]? = us[o]?) (hk : st ≤ k) (h1 : ∀ o u, o < k → us'[o]? = some u → u.oneCell' = true) (hall : ∀ o v, γ.imm g o = some v → us[o]? = some v) :
    Inv (γ.claim g us' k (some (.tail s' c' k))) h (w.setRow g us') ∧ γ.le (γ.claim g us' k (some (.tail s' c' k))) := by
  have hlt : ∀ o v, γ.imm g o = some v → o < st := fun o v ho => by
    obtain ⟨_, _, r⟩ := hi.imm g o v ho
    rw [hg] at r
    rcases r with r | ⟨_, _, _, r, hl⟩
    · cases r
    · cases r; exact hl
  have hle : γ.le (γ.claim g us' k (some (.tail s' c' k))) := ⟨fun b o v hb => by
    by_cases he : b = g
    · subst he
      have := hlt o v hb
      simp only [Gh.claim, if_true, if_pos (Nat.lt_of_lt_of_le this hk)]
      rw [hsame o this]; exact hall o v hb
    · simp only [Gh.claim, if_neg he]; exact hb, fun _ _ hm => hm⟩
  refine ⟨⟨fun b o v hb => ?_, fun id y hid hy => ?_, fun id cs hc b hb => ?_, fun id es hc b hb => ?_, hi.mu, fun b x hx => ?_⟩, hle⟩
  · by_cases he : b = g
    · subst he
      simp only [Gh.claim, if_true] at hb ⊢
      split at hb
      · rename_i hl
        exact ⟨by rw [cell_of_row _ _ _ us' e (0, 0) (setRow_heap w b us us' e (0, 0) hw)]; exact hb,
          h1 o v hl hb, .inr ⟨s', c', k, rfl, hl⟩⟩
      · cases hb
    · simp only [Gh.claim, if_neg he] at hb ⊢
      obtain ⟨p, q, r⟩ := hi.imm b o v hb
      exact ⟨by rw [cell?_of_heap (setRow_other w g b us' he)]; exact p, q, r⟩
  · obtain ⟨b, p, q⟩ := hi.obj id y hid hy
    have : b ≠ g := fun he => by subst he; rw [hg] at q; cases q
    exact ⟨b, p, by simp only [Gh.claim, if_neg this]; exact q⟩
  · replace hb : γ.mu id = some b := hb
    obtain ⟨b', p, q⟩ := hi.obj id _ hc (by simp)
    rw [hb] at p; cases p
    have : b ≠ g := fun he => by subst he; rw [hg] at q; cases q
    rw [setRow_other w g b us' this]
    obtain ⟨us2, e2, fr2, p2, pf2, q2, r2⟩ := hi.cells id cs hc b hb
    exact ⟨us2, e2, fr2, p2, pf2, VRelV.mono hle _ _ q2, r2⟩
  · replace hb : γ.mu id = some b := hb
    obtain ⟨b', p, q⟩ := hi.obj id _ hc (by simp)
    rw [hb] at p; cases p
    have : b ≠ g := fun he => by subst he; rw [hg] at q; cases q
    rw [setRow_other w g b us' this]
    obtain ⟨ents, clock, p2, q2⟩ := hi.map id es hc b hb
    exact ⟨ents, clock, p2, q2.mono hle⟩
  · by_cases he : b = g
    · subst he
      have := hi.own b _ hg
      simpa [World.setRow] using this
    · simp only [Gh.claim, if_neg he] at hx
      have := hi.own b x hx
      simpa [World.setRow] using this

/-- What a call has not begun with may change. -/
theorem Acc.write {γ0 γ1 : Gh} {w0 : World} (ha : Acc γ0 w0 γ w) {w1 : World} {g : Nat} (hg : w0.heap.size ≤ g) (hle : γ.le γ1) (hs : w1.heap.size = w.heap.size) (h1 : w1.os = w.os) (h2 : w1.tape = w.tape) (h3 : w1.output = w.output)
    (hk : ∀ b, b ≠ g → w1.heap[b]? = w.heap[b]? ∧ γ1.own b = γ.own b) : Acc γ0 w0 γ1 w1 := by
  refine ⟨ha.le.trans hle, by rw [hs]; exact ha.size, h1.trans ha.os, h2.trans ha.tape, h3.trans ha.output, fun b hb hn => ?_⟩
  · obtain ⟨p, q⟩ := ha.keep b hb hn
    obtain ⟨p', q'⟩ := hk b (by omega)
    exact ⟨p'.trans p, q'.trans q⟩

/-- An object is given up: from now on nobody writes its cells. -/
theorem free_obj (hi : Inv γ h w) {g id : Nat} {cs : List AVal} (hcs : h[id]? = some (.cells cs)) (hg : γ.mu id = some g) {us : Array Value} {e : TypeId} {fr : Nat × Nat} (hw : w.heap[g]? = some (.cells us e fr)) (h1 : ∀ u ∈ us.toList.take cs.length, u.oneCell' = true) :
    Inv (γ.claim g us cs.length none) (h.set id .dead) w ∧ Acc γ w (γ.claim g us cs.length none) w := by
  obtain ⟨g', p, hgo⟩ := hi.obj id _ hcs (by simp)
  rw [hg] at p; cases p
  have uniq : ∀ id' x, h[id']? = some x → x ≠ .dead → γ.mu id' = some g → id' = id := fun id' x hx hxd hm => by
    obtain ⟨b', p, q⟩ := hi.obj id' x hx hxd
    rw [hm] at p; cases p; rw [hgo] at q; cases q; rfl
  have hne : ∀ o v, γ.imm g o = some v → False := fun o v hv => by
    obtain ⟨_, _, r⟩ := hi.imm g o v hv
    rw [hgo] at r
    rcases r with r | ⟨_, _, _, r, _⟩ <;> cases r
  have hle : γ.le (γ.claim g us cs.length none) := ⟨fun b o v hb => by
    have : b ≠ g := fun he => by subst he; exact hne o v hb
    simp only [Gh.claim, if_neg this]; exact hb, fun _ _ hm => hm⟩
  constructor
  · refine ⟨fun b o v hb => ?_, fun id' y hid hy => ?_, fun id' cs' hc b hb => ?_, fun id' es hc b hb => ?_, fun id' b hb => by simpa using hi.mu id' b hb, fun b x hx => ?_⟩
    · by_cases he : b = g
      · subst he
        simp only [Gh.claim, if_true] at hb ⊢
        split at hb
        · rename_i hlt
          exact ⟨by rw [cell_of_row _ _ _ us e fr hw]; exact hb, h1 v (List.mem_of_getElem? (i := o) (by rw [List.getElem?_take_of_lt hlt]; simpa using hb)), .inl (by simp)⟩
        · cases hb
      · simp only [Gh.claim, if_neg he] at hb ⊢
        exact hi.imm b o v hb
    · by_cases he : id' = id
      · subst he
        rw [List.getElem?_set_self (hi.mu _ _ hg)] at hid
        cases hid; exact absurd rfl hy
      · rw [List.getElem?_set_ne (fun x => he x.symm)] at hid
        obtain ⟨b, p, q⟩ := hi.obj id' y hid hy
        have : b ≠ g := fun hx => by subst hx; exact he (uniq id' y hid hy p)
        exact ⟨b, p, by simp only [Gh.claim, if_neg this]; exact q⟩
    · by_cases he : id' = id
      · subst he
        rw [List.getElem?_set_self (hi.mu _ _ hg)] at hc
        cases hc
      · rw [List.getElem?_set_ne (fun x => he x.symm)] at hc
        obtain ⟨us', e', fr', p, pf, q, r⟩ := hi.cells id' cs' hc b hb
        exact ⟨us', e', fr', p, pf, VRelV.mono hle _ _ q, r⟩
    · by_cases he : id' = id
      · subst he
        rw [List.getElem?_set_self (hi.mu _ _ hg)] at hc
        cases hc
      · rw [List.getElem?_set_ne (fun x => he x.symm)] at hc
        obtain ⟨us', e', p, q⟩ := hi.map id' es hc b hb
        exact ⟨us', e', p, q.mono hle⟩
    · by_cases he : b = g
      · subst he; exact hi.own b _ hgo
      · simp only [Gh.claim, if_neg he] at hx; exact hi.own b x hx
  · refine ⟨hle, Nat.le_refl _, rfl, rfl, rfl, fun b hb hn => ⟨rfl, ?_⟩⟩
    have : b ≠ g := fun he => by subst he; exact hn id hgo
    simp only [Gh.claim, if_neg this]
end
end Go.Am
