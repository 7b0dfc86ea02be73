/-
  What an operation does, as a relation; operands. No law is claimed here.
-/
import Derived.Test.YtejpjabbdkpmiaaDoorAm6
set_option linter.unusedSimpArgs false
set_option linter.unusedVariables false
namespace Go.Am

/-- What an operation does to the slots and the heap. -/
def OpR.does (C : Ctx) (run : IT → AHeap → Option Res) (σ : Env) (h : AHeap) (σ' : Env) (h' : AHeap) : OpR → Prop
  | .pure ws => σ' = σ.puts ws ∧ h' = h
  | .op p args dst own dem => ∃ v, peval p args = some v ∧ σ' = (σ.demote dem).put dst (if own then .own v else .val v) ∧ h' = h
  | .box n v d => v.cells.length = n ∧ σ' = σ.set d (.box 0 v.cells []) ∧ h' = h
  | .closure fn a b fz d => σ' = (σ.puts (fz.map fun (s, cs) => (s, .val (.rptr cs)))).set d (.val (.func fn a b)) ∧ h' = h
  | .bstore s off n v own dem ver cells owned => v.cells.length = n ∧ σ' = (σ.demote dem).set s (.box (ver + 1) (splice cells off n v.cells) (ownAfter owned off n own)) ∧ h' = h
  | .load n p dst => ∃ v, hload h n p = some v ∧ σ' = σ.put dst (.val v) ∧ h' = h
  | .store n p v => hstore h n p v = some h' ∧ σ' = σ
  | .alloc n v dst => v.cells.length = n ∧ h' = h ++ [.cells v.cells] ∧ σ' = σ.put dst (.val (.ptr (some (h.length, 0))))
  | .call f args dst => ∃ r, run (afun C f args) h = some (.ret, [r], h') ∧ σ' = σ.put dst (if C.ownRet f then .own r else .val r)
  | .callv g args dst => ∃ f args' r, targetOf g args = some (f, args') ∧ run (afun C f args') h = some (.ret, [r], h') ∧ σ' = σ.put dst (.val r)
  | .pcall f args dst => args.all AVal.flat = true ∧ ∃ r h1, run (afun C f args) [] = some (.ret, [r], h1) ∧ r.flat = true ∧ σ' = σ.put dst (.val r) ∧ h' = h
  | .mnew dst => h' = h ++ [.map []] ∧ σ' = σ.put dst (.val (.map (some h.length)))
  | .mset m k v => hmset h m k v = some h' ∧ σ' = σ
  | .make z b zero l c dst => ∃ v, hmake h z b zero l c = some (h', v) ∧ σ' = σ.put dst (.val v)
  | .objOf z b s x dst dem => ∃ v, hobjOf h z b s x = some (h', v) ∧ σ' = (σ.demote dem).put dst (.val v)
  | .bytesObj s dst => ∃ v, hbytesObj h s = some (h', v) ∧ σ' = σ.put dst (.val v)
  | .b2s s dst => ∃ v u, hfrz h s = some (h', v) ∧ peval .b2s [v] = some u ∧ σ' = σ.put dst (.val u)
  | .mget z ok m k dst => ∃ v, hmget h z ok m k = some v ∧ σ' = σ.put dst (.val v) ∧ h' = h

theorem unpack_eq {n : Nat} {cs : List AVal} (h : cs.length = n) : unpack n cs = cs := by
  subst h
  apply List.ext_getElem?
  intro i
  simp only [unpack, List.getElem?_map, List.getD]
  by_cases hi : i < cs.length
  · simp [List.getElem?_range hi, List.getElem?_eq_getElem hi]
  · simp [hi]

theorem tree_does {C : Ctx} {run : IT → AHeap → Option Res} {σ : Env} {K : Env → IT} {h : AHeap} {R : Res} {r : OpR}
    (hr : IT.step (afun C) run (r.tree C σ K) h = some R) : ∃ σ' h', r.does C run σ h σ' h' ∧ IT.step (afun C) run (K σ') h' = some R := by
  cases r with
  | pure ws => exact ⟨_, _, ⟨rfl, rfl⟩, hr⟩
  | op p args dst own dem =>
    simp only [OpR.tree, IT.step] at hr
    split at hr
    · rename_i v hv; exact ⟨_, _, ⟨v, hv, rfl, rfl⟩, hr⟩
    · cases hr
  | box n v d =>
    simp only [OpR.tree, IT.step] at hr
    split at hr
    · rename_i hn; rw [unpack_eq hn] at hr; exact ⟨_, _, ⟨hn, rfl, rfl⟩, hr⟩
    · cases hr
  | closure fn a b fz d => exact ⟨_, _, ⟨rfl, rfl⟩, hr⟩
  | bstore s off n v own dem ver cells owned =>
    simp only [OpR.tree, IT.step] at hr
    split at hr
    · rename_i hn; rw [unpack_eq hn] at hr; exact ⟨_, _, ⟨hn, rfl, rfl⟩, hr⟩
    · cases hr
  | load n p dst =>
    simp only [OpR.tree, IT.step] at hr
    split at hr
    · rename_i v hv; exact ⟨_, _, ⟨v, hv, rfl, rfl⟩, hr⟩
    · cases hr
  | store n p v =>
    simp only [OpR.tree, IT.step] at hr
    split at hr
    · rename_i h1 hv; exact ⟨_, _, ⟨hv, rfl⟩, hr⟩
    · cases hr
  | alloc n v dst =>
    simp only [OpR.tree, IT.step, halloc] at hr
    by_cases hn : v.cells.length = n
    · rw [if_pos hn] at hr; exact ⟨_, _, ⟨hn, rfl, rfl⟩, hr⟩
    · rw [if_neg hn] at hr; cases hr
  | call f args dst =>
    simp only [OpR.tree, IT.step] at hr
    split at hr
    · rename_i r h1 hv; exact ⟨_, _, ⟨r, hv, rfl⟩, hr⟩
    · cases hr
  | callv g args dst =>
    simp only [OpR.tree, IT.step] at hr
    split at hr
    · rename_i f a' ht
      split at hr
      · rename_i r h1 hv; exact ⟨_, _, ⟨f, a', r, ht, hv, rfl⟩, hr⟩
      · cases hr
    · cases hr
  | pcall f args dst =>
    simp only [OpR.tree, IT.step] at hr
    split at hr
    · rename_i hfl
      split at hr
      · rename_i r h1 hv
        split at hr
        · rename_i hf2; exact ⟨_, _, ⟨hfl, r, h1, hv, hf2, rfl, rfl⟩, hr⟩
        · cases hr
      · cases hr
    · cases hr
  | mnew dst => exact ⟨_, _, ⟨rfl, rfl⟩, hr⟩
  | mset m k v =>
    simp only [OpR.tree, IT.step] at hr
    split at hr
    · rename_i h1 hv; exact ⟨_, _, ⟨hv, rfl⟩, hr⟩
    · cases hr
  | mget z ok m k dst =>
    simp only [OpR.tree, IT.step] at hr
    split at hr
    · rename_i v hv; exact ⟨_, _, ⟨v, hv, rfl, rfl⟩, hr⟩
    · cases hr
  | make z b zero l c dst =>
    simp only [OpR.tree, IT.step] at hr
    split at hr
    · rename_i h1 v hv; exact ⟨_, _, ⟨v, hv, rfl⟩, hr⟩
    · cases hr
  | objOf z b s x dst dem =>
    simp only [OpR.tree, IT.step] at hr
    split at hr
    · rename_i h1 v hv; exact ⟨_, _, ⟨v, hv, rfl⟩, hr⟩
    · cases hr
  | bytesObj s dst =>
    simp only [OpR.tree, IT.step] at hr
    split at hr
    · rename_i h1 v hv; exact ⟨_, _, ⟨v, hv, rfl⟩, hr⟩
    · cases hr
  | b2s s dst =>
    simp only [OpR.tree, IT.step] at hr
    split at hr
    · rename_i h1 v hv
      split at hr
      · rename_i u hu; exact ⟨_, _, ⟨v, u, hv, hu, rfl⟩, hr⟩
      · cases hr
    · cases hr

/-- Everything that is known in the middle of a call. -/
structure Rel (C : Ctx) (γ0 : Gh) (w0 : World) (γ : Gh) (β : Nat → Nat) (σ : Env) (h : AHeap) (a : Act) (w : World) : Prop where
  inv : Inv γ h w
  fr : FR γ β w0.heap.size σ a.tmps w
  acc : Acc γ0 w0 γ w
  defers : a.defers = []
  glob : ∀ g cs, C.glob g = some cs → VRelM γ cs g 0

theorem ofScalar_rel {γ : Gh} {v : Value} {a : AVal} (h : ofScalar v = some a) : VRel γ a v ∧ v.oneCell' = true := by
  unfold ofScalar at h
  split at h
  case h_7 =>
    rename_i fn f c
    split at h
    · rename_i hs
      cases h
      have e1 : f = #[] := Array.eq_empty_of_size_eq_zero hs.1
      have e2 : c = #[] := Array.eq_empty_of_size_eq_zero hs.2
      subst e1; subst e2
      exact ⟨⟨#[], #[], rfl, rfl, rfl⟩, rfl⟩
    · cases h
  all_goals first
    | (cases h; exact ⟨rfl, rfl⟩)
    | cases h

theorem ofScalars_rel {γ : Gh} : ∀ {vs : List Value} {as : List AVal}, ofScalars vs = some as → VRelV γ as vs ∧ ∀ v ∈ vs, v.oneCell' = true
  | [], as, h => by cases h; exact ⟨rfl, by simp⟩
  | v :: vs, as, h => by
    unfold ofScalars at h
    split at h
    · rename_i a as' h1 h2
      cases h
      obtain ⟨p, q⟩ := ofScalar_rel (γ := γ) h1
      obtain ⟨p', q'⟩ := ofScalars_rel (γ := γ) h2
      exact ⟨⟨v, vs, rfl, p, p'⟩, fun x hx => (List.mem_cons.1 hx).elim (fun e => by rw [e]; exact q) (q' x)⟩
    · cases h

theorem ofConst_rel {γ : Gh} {v : Value} {a : AVal} (h : ofConst v = some a) : VRel γ a v := by
  unfold ofConst at h
  split at h
  · rename_i cs
    cases hs : ofScalars cs.toList with
    | none => rw [hs] at h; cases h
    | some as =>
      rw [hs] at h; cases h
      obtain ⟨p, q⟩ := ofScalars_rel (γ := γ) hs
      exact ⟨cs, rfl, p, q⟩
  · exact (ofScalar_rel h).1

section
variable {C : Ctx} {γ0 γ : Gh} {w0 w : World} {β : Nat → Nat} {σ : Env} {h : AHeap} {a : Act}

theorem opSlot_rel (hr : Rel C γ0 w0 γ β σ h a w) {x : Operand} {sl : Slot} (hx : opSlot C σ x = some sl) (hn : ∀ s, x ≠ .tmp s) : ∃ s, SRel γ β w0.heap.size w s sl (a.eval x) := by
  unfold opSlot at hx
  split at hx
  · exact absurd rfl (hn _)
  · cases hx; exact ⟨0, rfl⟩
  · cases hx; exact ⟨0, rfl, .inl rfl⟩
  · rename_i v _ _
    cases hc : ofConst v with
    | none => rw [hc] at hx; cases hx
    | some u => rw [hc] at hx; cases hx; exact ⟨0, ofConst_rel hc⟩
  · rename_i g
    cases hc : C.glob g with
    | none => rw [hc] at hx; cases hx
    | some cs => rw [hc] at hx; cases hx; exact ⟨0, g, 0, rfl, hr.glob g cs hc⟩
  · cases hx; exact ⟨0, #[], #[], rfl, rfl, rfl⟩

theorem slot_rel (hr : Rel C γ0 w0 γ β σ h a w) (s : Nat) : SRel γ β w0.heap.size w s (σ.at s) (a.eval (.tmp s)) := hr.fr.slots s

/-- A slot or a constant: what it holds. -/
theorem opSlot_any (hr : Rel C γ0 w0 γ β σ h a w) {x : Operand} {sl : Slot} (hx : opSlot C σ x = some sl) : ∃ s, SRel γ β w0.heap.size w s sl (a.eval x) ∧ ∀ t, x = .tmp t → s = t := by
  cases x with
  | tmp t => cases hx; exact ⟨t, slot_rel hr t, fun _ h => by cases h; rfl⟩
  | const v => obtain ⟨s, h1⟩ := opSlot_rel hr hx (by intro s h; cases h); exact ⟨s, h1, fun _ h => by cases h⟩
  | global g => obtain ⟨s, h1⟩ := opSlot_rel hr hx (by intro s h; cases h); exact ⟨s, h1, fun _ h => by cases h⟩
  | func f => obtain ⟨s, h1⟩ := opSlot_rel hr hx (by intro s h; cases h); exact ⟨s, h1, fun _ h => by cases h⟩

theorem value_rel {B s : Nat} {sl : Slot} {v : Value} {u : AVal} (hs : SRel γ β B w s sl v) (hv : sl.value? = some u) : VRel γ u v := by
  cases sl <;> simp [Slot.value?] at hv
  · subst hv; exact hs
  · subst hv; exact hs
  · subst hv; exact hs.1

theorem opVal_rel (hr : Rel C γ0 w0 γ β σ h a w) {x : Operand} {u : AVal} (hx : opVal C σ x = some u) : VRel γ u (a.eval x) := by
  unfold opVal at hx
  cases hs : opSlot C σ x with
  | none => rw [hs] at hx; cases hx
  | some sl =>
    rw [hs] at hx
    obtain ⟨s, h1, _⟩ := opSlot_any hr hs
    exact value_rel h1 hx

theorem opVals_rel (hr : Rel C γ0 w0 γ β σ h a w) : ∀ {xs : List Operand} {us : List AVal}, opVals C σ xs = some us → VRelV γ us (xs.map a.eval)
  | [], us, hx => by cases hx; rfl
  | x :: xs, us, hx => by
    unfold opVals at hx
    split at hx
    · rename_i u us' h1 h2
      cases hx
      exact ⟨_, _, rfl, opVal_rel hr h1, opVals_rel hr h2⟩
    · cases hx

/-- One slot is written. -/
theorem FR.put {B : Nat} {tmps : Array Value} (hf : FR γ β B σ tmps w) {d : Nat} {x : Slot} {v : Value} (hx : SRel γ β B w d x v) : FR γ β B (σ.set d x) (tmps.setIfInBounds d v) w := by
  refine ⟨by simp [hf.size], fun s => ?_⟩
  have hs := hf.slots s
  by_cases he : s = d
  · subst he
    by_cases hl : s < σ.length
    · have hl' : s < tmps.size := by rw [← hf.size]; exact hl
      simpa [Env.at, List.getD, hl, hl', Array.getD] using hx
    · have hl' : ¬ s < tmps.size := by rw [← hf.size]; exact hl
      simpa [Env.at, List.getD, hl, hl', Array.getD] using hs
  · have h1 : Env.at (σ.set d x) s = σ.at s := by simp [Env.at, List.getD, List.getElem?_set_ne (fun e => he e.symm)]
    have h2 : (tmps.setIfInBounds d v).getD s undef = tmps.getD s undef := by
      simp [Array.getD_eq_getD_getElem?, Array.getElem?_setIfInBounds_ne (fun e => he e.symm)]
    rw [h1, h2]; exact hs

/-- A slot's description turns, its value stays. -/
theorem FR.turn {B : Nat} {tmps : Array Value} (hf : FR γ β B σ tmps w) {d : Nat} {x : Slot} (hx : SRel γ β B w d x (tmps.getD d undef)) : FR γ β B (σ.set d x) tmps w := by
  refine ⟨by simp [hf.size], fun s => ?_⟩
  have hs := hf.slots s
  by_cases he : s = d
  · subst he
    by_cases hl : s < σ.length
    · simpa [Env.at, List.getD, hl] using hx
    · simpa [Env.at, List.getD, hl] using hs
  · have h1 : Env.at (σ.set d x) s = σ.at s := by simp [Env.at, List.getD, List.getElem?_set_ne (fun e => he e.symm)]
    rw [h1]; exact hs

theorem Rel.put (hr : Rel C γ0 w0 γ β σ h a w) {d : Option Nat} {x : Slot} {v : Value} (hx : ∀ s, d = some s → SRel γ β w0.heap.size w s x v) : Rel C γ0 w0 γ β (σ.put d x) h (a.put d v) w := by
  cases d with
  | none => exact hr
  | some d => exact ⟨hr.inv, hr.fr.put (hx d rfl), hr.acc, hr.defers, hr.glob⟩

theorem Rel.turn (hr : Rel C γ0 w0 γ β σ h a w) {d : Nat} {x : Slot} (hx : SRel γ β w0.heap.size w d x (a.tmps.getD d undef)) : Rel C γ0 w0 γ β (σ.set d x) h a w :=
  ⟨hr.inv, hr.fr.turn hx, hr.acc, hr.defers, hr.glob⟩

/-- Old addresses are forgotten. -/
theorem Rel.drop (hr : Rel C γ0 w0 γ β σ h a w) (ds : List Nat) : Rel C γ0 w0 γ β (σ.drop ds) h a w := by
  cases ds with
  | nil => exact hr
  | cons d ds =>
    refine ⟨hr.inv, ⟨by simp [Env.drop, hr.fr.size], fun s => ?_⟩, hr.acc, hr.defers, hr.glob⟩
    have hs := hr.fr.slots s
    have e : (Env.drop σ (d :: ds)).at s = match σ.at s with | .lref t o => if (d :: ds).contains t then .undef else .lref t o | x => x := by
      simp only [Env.drop, Env.at, List.getD, List.getElem?_map]
      cases hg : σ[s]? with
      | none => rfl
      | some x => cases x <;> rfl
    rw [e]
    cases hx : σ.at s with
    | lref t o =>
      rw [hx] at hs
      simp only
      split
      · trivial
      · exact hs
    | _ => rw [hx] at hs; exact hs

/-- The world has moved on; the frame's own things have not. -/
theorem Rel.world (hr : Rel C γ0 w0 γ β σ h a w) {γ' : Gh} {h' : AHeap} {w' : World} (hi : Inv γ' h' w') (ha : Acc γ w γ' w') : Rel C γ0 w0 γ' β σ h' a w' :=
  ⟨hi, hr.fr.kept (Kept.of_acc hr.inv ha), hr.acc.trans ha, hr.defers, fun g cs hg => VRelM.mono ha.le _ _ _ (hr.glob g cs hg)⟩

theorem wp_value {P : Program} {o : Oper} {v : Value} {w' : World} {next : Act → World → Prop} {Q : Exit → Act → World → Prop} (he : (execOp a.eval o).run P w = .ok (.value v) w') (hn : next (a.put o.dst v) w') : o.wp P a w next Q := by
  unfold Oper.wp
  rw [he]
  exact hn

theorem wp_skipped {P : Program} {o : Oper} {w' : World} {next : Act → World → Prop} {Q : Exit → Act → World → Prop} (he : (execOp a.eval o).run P w = .ok .skip w') (hn : next (a.put o.dst undef) w') : o.wp P a w next Q := by
  unfold Oper.wp
  rw [he]
  exact hn
end
end Go.Am
