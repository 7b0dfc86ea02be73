/-
  Functions: a run of the abstract machine is a call of the model's. No law is claimed here.
-/
import Derived.Test.YtejpjabbdkpmiaaDoorAm28
set_option linter.unusedSimpArgs false
set_option linter.unusedVariables false
namespace Go.Am
open Go

section
variable {C : Ctx} {γ0 γ : Gh} {w0 w : World} {β : Nat → Nat} {σ : Env} {h : AHeap} {a : Act} {fid : FuncId} {run : IT → AHeap → Option Res}

/-- What one result variable yields. -/
def resultOf (tmps : Array Value) : ResultVar → Sem Value
  | .tmp t => pure (tmps.getD t undef)
  | .cell a t => do loadVar t (← asAddr (tmps.getD a undef))

theorem loadVar_of_loadAt {P : Program} {t : TypeId} {b o : Nat} {v : Value} (h : (Instr.loadAt t (.pointer (some ⟨b, o, none⟩))).run P w = .ok v w) : (loadVar t ⟨b, o, none⟩).run P w = .ok v w := by
  simpa [Instr.loadAt, Instr.sureAddr] using h

theorem results_rel {K : List AVal → IT} {R : Res} : ∀ {rs : List ResultVar} {acc : List AVal}, IT.step (afun C) run (sxResults C σ rs acc K) h = some R → Rel C γ0 w0 γ β σ h a w →
    ∃ vs us, (rs.mapM (resultOf a.tmps)).run C.P w = .ok us w ∧ VRelV γ vs us ∧ IT.step (afun C) run (K (acc.reverse ++ vs)) h = some R
  | [], acc, hrun, hr => ⟨[], [], by simp, rfl, by simpa [sxResults] using hrun⟩
  | rv :: rs, acc, hrun, hr => by
    have one : ∀ (v : AVal) (u : Value), (resultOf a.tmps rv).run C.P w = .ok u w → VRel γ v u → IT.step (afun C) run (sxResults C σ rs (v :: acc) K) h = some R →
        ∃ vs us, ((rv :: rs).mapM (resultOf a.tmps)).run C.P w = .ok us w ∧ VRelV γ vs us ∧ IT.step (afun C) run (K (acc.reverse ++ vs)) h = some R := by
      intro v u h1 h2 h3
      obtain ⟨vs, us, k1, k2, k3⟩ := results_rel h3 hr
      refine ⟨v :: vs, u :: us, ?_, ⟨u, us, rfl, h2, k2⟩, by simpa using k3⟩
      simp [List.mapM_cons, h1, k1]
    cases rv with
    | tmp t =>
      simp only [sxResults] at hrun
      split at hrun
      · rename_i v hv
        exact one v _ (by simp [resultOf]) (value_rel (hr.fr.slots t) hv) hrun
      · cases hrun
    | cell p t =>
      have hld : ∀ (b o : Nat) (v : AVal), a.tmps.getD p undef = .pointer (some ⟨b, o, none⟩) → (∃ u, (Instr.loadAt t (.pointer (some ⟨b, o, none⟩))).run C.P w = .ok u w ∧ VRel γ v u) → IT.step (afun C) run (sxResults C σ rs (v :: acc) K) h = some R →
          ∃ vs us, ((ResultVar.cell p t :: rs).mapM (resultOf a.tmps)).run C.P w = .ok us w ∧ VRelV γ vs us ∧ IT.step (afun C) run (K (acc.reverse ++ vs)) h = some R := by
        intro b o v hp ⟨u, h1, h2⟩ h3
        refine one v u ?_ h2 h3
        simp only [resultOf, hp, asAddr, Sem.run_bind, Sem.run_pure, Result.andThen_ok]
        exact loadVar_of_loadAt h1
      simp only [sxResults] at hrun
      split at hrun
      · rename_i s off ver cs ow ht ha
        split at hrun
        · rename_i hlt
          obtain ⟨hs, hx⟩ := addrOf_priv hr ha
          obtain ⟨u, q1, q2, _⟩ := run_load_priv hr ht hs (r := cs.getD off .nilIface) (off := off) (by simp [partOf, List.getD, List.getElem?_eq_getElem hlt])
          exact hld _ _ _ hx ⟨u, q1, q2⟩ hrun
        · cases hrun
      · rename_i n s off ver cs ow ht ha
        split at hrun
        · rename_i hle
          obtain ⟨hs, hx⟩ := addrOf_priv hr ha
          obtain ⟨u, q1, q2, _⟩ := run_load_priv hr ht hs (r := .agg ((cs.drop off).take n)) (off := off) (by simp [partOf, hle])
          exact hld _ _ _ hx ⟨u, q1, q2⟩ hrun
        · cases hrun
      · rename_i n p' ht ha
        simp only [IT.step] at hrun
        split at hrun
        · rename_i v hv
          have hvr := addrOf_ptr hr ha
          unfold hload at hv
          split at hv
          · rename_i cs
            obtain ⟨b, k, hve, hm⟩ := hvr
            obtain ⟨us, p1, p2⟩ := hm.values
            exact hld b k v hve (run_loadAt_rel (w := w) ht p1 (fun j u hj => (hr.inv.imm _ _ _ (p2 j u hj)).1) (fun u hu => by
              obtain ⟨j, hj⟩ := List.getElem?_of_mem hu
              exact (hr.inv.imm _ _ _ (p2 j u hj)).2.1) hv) hrun
          · rename_i id off
            obtain ⟨b, hb, hve⟩ := hvr
            split at hv
            · rename_i cs hcs
              obtain ⟨us, e, fr, p1, pf, p2, p3⟩ := hr.inv.cells id cs hcs b hb
              refine hld b off v hve (run_loadAt_rel (w := w) (b := b) (o := off) ht (p2.drop off) (fun j u hj => ?_) (fun u hu => p3 u (List.mem_of_mem_drop hu)) (partOf_drop hv)) hrun
              rw [cell_of_row w _ _ us e fr p1]
              rw [List.getElem?_drop, List.getElem?_take] at hj
              split at hj
              · simpa using hj
              · cases hj
            · cases hv
          · cases hv
        · cases hrun
      · cases hrun

/-- A field of an object that held a slice of an object holds a plain one. -/
theorem Rel.frzAt (hr : Rel C γ0 w0 γ β σ h a w) {p : AVal} {u : Value} {h' : AHeap} (hp : VRel γ p u) (hf : hfrzAt h p = some h') : ∃ γ', Rel C γ0 w0 γ' β σ h' a w := by
  unfold hfrzAt at hf
  split at hf
  · rename_i id o
    obtain ⟨b, hb, _⟩ := hp
    split at hf
    · rename_i cs hcs
      split at hf
      · rename_i v hv
        obtain ⟨us, e, fr, p1, pf, p2, p3⟩ := hr.inv.cells id cs hcs b hb
        obtain ⟨x, hx, hxr⟩ := p2.get hv
        cases hq : hfrz h v with
        | none => rw [hq] at hf; cases hf
        | some q =>
          obtain ⟨h1, v'⟩ := q
          rw [hq] at hf
          simp only [Option.bind_some] at hf
          split at hf
          · rename_i cs' hcs'
            cases hf
            obtain ⟨γ1, hle, hr1, hv1⟩ := hr.frz hxr hq
            have hb1 := hle.mu _ _ hb
            obtain ⟨us1, e1, fr1, r1, rf, r2, r3⟩ := hr1.inv.cells id cs' hcs' b hb1
            rw [p1] at r1
            cases r1
            have hset : VRelV γ1 (cs'.set o v') (us.toList.take (cs'.set o v').length) := by
              rw [List.length_set]
              refine VRelV.of_get (by simp [r2.length]) fun i y z hy hz => ?_
              by_cases hi : o = i
              · subst hi
                by_cases hlt : o < cs'.length
                · rw [List.getElem?_set_self hlt] at hy
                  cases hy
                  have hxz : x = z := by
                    rw [List.getElem?_take_of_lt hlt] at hz
                    have hlt0 : o < cs.length := (List.getElem?_eq_some_iff.1 hv).1
                    rw [List.getElem?_take_of_lt hlt0] at hx
                    rw [hx] at hz
                    exact Option.some.inj hz
                  rw [← hxz]; exact hv1
                · rw [List.getElem?_eq_none (by simpa using hlt)] at hy
                  cases hy
              · rw [List.getElem?_set_ne hi] at hy
                obtain ⟨z', hz', hyz⟩ := r2.get hy
                rw [hz] at hz'; cases hz'
                exact hyz
            obtain ⟨hi2, ha2⟩ := write_obj hr1.inv hcs' hb1 p1 us (cs'.set o v') rf hset (by rw [List.length_set]; exact r3)
            rw [setRow_self w b us e fr p1] at hi2 ha2
            exact ⟨γ1, hr1.world hi2 ha2⟩
          · cases hf
      · cases hf
    · cases hf
  · cases hf

theorem frz_rel {t : IT} {R : Res} : ∀ {l : List (Nat × Nat)} {γ : Gh} {h : AHeap}, IT.step (afun C) run (sxFrz C σ l t) h = some R → Rel C γ0 w0 γ β σ h a w → ∃ γ' h', Rel C γ0 w0 γ' β σ h' a w ∧ IT.step (afun C) run t h' = some R
  | [], γ, h, hrun, hr => ⟨γ, h, hr, hrun⟩
  | (s, off) :: l, γ, h, hrun, hr => by
    simp only [sxFrz] at hrun
    split at hrun
    · rename_i p hp
      simp only [IT.step] at hrun
      split at hrun
      · rename_i q hq
        split at hrun
        · rename_i h1 hf
          have hv := value_rel (hr.fr.slots s) hp
          simp only [peval] at hq
          obtain ⟨ad, _, hqr⟩ := off_rel hv hq
          obtain ⟨γ1, hr1⟩ := hr.frzAt hqr hf
          exact frz_rel hrun hr1
        · cases hrun
      · cases hrun
    · cases hrun

theorem run_results {fn : Func} {tmps : Array Value} {us : List Value} (h : (fn.results.toList.mapM (resultOf tmps)).run C.P w = .ok us w) : (results fn tmps).run C.P w = .ok (if hh : us.toArray.size = 1 then us.toArray[0] else .tuple us.toArray) w := by
  have e : fn.results.mapM (resultOf tmps) = (do let l ← fn.results.toList.mapM (resultOf tmps); pure l.toArray : Sem (Array Value)) := by
    rw [Array.mapM_eq_mapM_toList]
    simp
  have e2 : results fn tmps = (do let vs ← fn.results.mapM (resultOf tmps); pure (if hh : vs.size = 1 then vs[0] else .tuple vs) : Sem Value) := by
    unfold results
    congr 2
  rw [e2, e]
  simp only [Sem.run_bind, h, Result.andThen_ok, Sem.run_pure]

theorem sim_end {fn : Func} {R : Res} (hrun : IT.step (afun C) run (sxEnd C fid fn σ) h = some R) (hr : Rel C γ0 w0 γ β σ h a w) :
    ∃ r h' v γ', R = (.ret, [r], h') ∧ (results fn a.tmps).run C.P w = .ok v w ∧ Inv γ' h' w ∧ Acc γ0 w0 γ' w ∧ VRel γ' r v ∧ (C.ownRet fid = true → ∃ s c, OwnT γ' w0.heap.size w s c v r) := by
  unfold sxEnd at hrun
  split at hrun
  · cases hrun
  · rename_i hown
    obtain ⟨γ1, h1, hr1, hrun1⟩ := frz_rel hrun hr
    by_cases ho : C.ownRet fid = true
    · have hor : ∃ t x, fn.results.toList = [.tmp t] ∧ σ.at t = .own x := by
        have : ownResult σ fn.results.toList = true := by
          cases hq : ownResult σ fn.results.toList with
          | true => rfl
          | false => exact absurd (by simp [ho, hq]) hown
        unfold ownResult at this
        split at this
        · rename_i t heq
          split at this
          · rename_i x hx; exact ⟨t, x, heq, hx⟩
          · cases this
        · cases this
      obtain ⟨t, x, hrs, hx⟩ := hor
      have h0 := hr1.fr.slots t
      rw [hx] at h0
      have hres := run_results (C := C) (w := w) (fn := fn) (tmps := a.tmps) (us := [a.tmps.getD t undef]) (by rw [hrs]; simp [resultOf])
      rw [hrs] at hrun1
      simp only [sxResults, hx, Slot.value?, List.reverse_cons, List.reverse_nil, List.nil_append] at hrun1
      have hfrz' : hfrz h1 x = some (h1, x) := by
        rcases h0.2 with rfl | ⟨_, _, _, _, _, _, _, rfl, _⟩ <;> rfl
      have hR : R = (.ret, [x], h1) := by
        split at hrun1
        · simp only [IT.step, hfrz'] at hrun1
          cases hrun1; rfl
        · simp only [IT.step] at hrun1
          cases hrun1; rfl
      exact ⟨x, h1, _, γ1, hR, by simpa using hres, hr1.inv, hr1.acc, h0.1, fun _ => ⟨t, none, h0.2⟩⟩
    · obtain ⟨vs, us, k1, k2, hrun2⟩ := results_rel hrun1 hr1
      simp only [List.reverse_nil, List.nil_append] at hrun2
      have hres := run_results (C := C) k1
      split at hrun2
      · rename_i v
        obtain ⟨u, us', rfl, hvu, hnil⟩ := k2
        rw [show us' = [] from hnil] at hres
        have hres' : (results fn a.tmps).run C.P w = .ok u w := by simpa using hres
        split at hrun2
        · simp only [IT.step] at hrun2
          split at hrun2
          · rename_i h2 v2 hf
            cases hrun2
            obtain ⟨γ2, hle, hr2, hv2⟩ := hr1.frz hvu hf
            exact ⟨v2, h2, u, γ2, rfl, hres', hr2.inv, hr2.acc, hv2, fun e => absurd e ho⟩
          · cases hrun2
        · simp only [IT.step] at hrun2
          cases hrun2
          exact ⟨v, h1, u, γ1, rfl, hres', hr1.inv, hr1.acc, hvu, fun e => absurd e ho⟩
      · rename_i hne
        simp only [IT.step] at hrun2
        cases hrun2
        have hlen : us.length ≠ 1 := fun e => by
          have := k2.length
          rw [e] at this
          obtain ⟨v, hv⟩ := List.length_eq_one_iff.1 this.symm
          exact hne v hv
        exact ⟨_, h1, .tuple us.toArray, γ1, rfl, by simpa [hlen] using hres, hr1.inv, hr1.acc, ⟨us.toArray, rfl, by simpa using k2⟩, fun e => absurd e ho⟩

/-- The frame at the start of a call. -/
theorem Rel.start {γ : Gh} {h : AHeap} {w : World} (hi : Inv γ h w) (hg : ∀ g cs, C.glob g = some cs → VRelM γ cs g 0) {args : List AVal} {cargs : Array Value} (ha : VRelV γ args cargs.toList) (n : Nat) (β : Nat → Nat) :
    Rel C γ w γ β (args.map .val ++ List.replicate (n - args.length) .undef) h { tmps := cargs ++ Array.replicate (n - cargs.size) undef, defers := [] } w := by
  have hlen : cargs.size = args.length := by have := ha.length; simpa using this
  refine ⟨hi, ⟨by simp [hlen], fun s => ?_⟩, Acc.refl γ w, rfl, hg⟩
  by_cases hs : s < args.length
  · have h1 : Env.at (args.map .val ++ List.replicate (n - args.length) .undef) s = .val args[s] := by
      simp [Env.at, List.getD, List.getElem?_append_left, hs]
    obtain ⟨u, hu, hr⟩ := ha.get (List.getElem?_eq_getElem hs)
    have h2 : (cargs ++ Array.replicate (n - cargs.size) undef).getD s undef = u := by
      rw [Array.getD_eq_getD_getElem?, Array.getElem?_append_left (by omega)]
      have : cargs[s]? = some u := by simpa using hu
      rw [this]; rfl
    rw [h1, h2]
    exact hr
  · have h1 : Env.at (args.map .val ++ List.replicate (n - args.length) .undef) s = .undef := by
      have hm : (args.map Slot.val).length = args.length := by simp
      simp only [Env.at, List.getD]
      rw [List.getElem?_append_right (by omega), List.getElem?_replicate]
      split <;> rfl
    rw [h1]; trivial

theorem simCalls (hm : C.P.follows .mixedOrders = true) (hgf : ∀ g cs, C.glob g = some cs → cs.all AVal.flat = true) : ∀ n, SimCalls C (IT.run (afun C) n)
  | 0 => ⟨hgf, fun f args h r h' hrun => by simp [IT.run] at hrun⟩
  | n + 1 => ⟨hgf, fun f args h r h' hrun => by
    have ih := simCalls hm hgf n
    simp only [IT.run] at hrun
    unfold afun at hrun
    split at hrun
    · rename_i fn hf
      split at hrun
      · cases hrun
      · rename_i hname
        unfold sxFunc at hrun
        split at hrun
        · cases hrun
        · rename_i c hb
          refine ⟨⟨fn, c, hf, by simpa using hname, hb⟩, fun γ w cargs hi hg ha => calls_of_wp hf hb ?_⟩
          refine sim_code (C := C) (fid := f) hm c n ih hrun (Rel.start hi hg ha fn.ntmps (fun _ => 0)) fun x γ' β' σ' h1 a' w' k1 _ k3 => ?_
          have fin : IT.step (afun C) (IT.run (afun C) n) (sxEnd C f fn σ') h1 = some (.ret, [r], h') → a'.defers = [] ∧ ∃ v, (results fn a'.tmps).run C.P w' = .ok v w' ∧ ∃ γ'', Inv γ'' h' w' ∧ Acc γ w γ'' w' ∧ VRel γ'' r v ∧ (C.ownRet f = true → ∃ s c, OwnT γ'' w.heap.size w' s c v r) := fun hend => by
            obtain ⟨r', h2, v, γ'', e, p1, p2, p3, p4, p5⟩ := sim_end hend k3
            cases e
            exact ⟨k3.defers, v, p1, γ'', p2, p3, p4, p5⟩
          cases x with
          | normal => exact fin k1
          | ret => exact fin k1
          | exit i => cases k1
    · cases hrun⟩
end

/-- A call that the abstract machine runs to an end. -/
theorem Ev.calls {C : Ctx} (hm : C.P.follows .mixedOrders = true) (hgf : ∀ g cs, C.glob g = some cs → cs.all AVal.flat = true) {f : FuncId} {args : List AVal} {h : AHeap} {Q : AVal → AHeap → Prop} (hev : Ev C f args h Q) {γ : Gh} {w : World} {cargs : Array Value} (hi : Inv γ h w) (hg : ∀ g cs, C.glob g = some cs → VRelM γ cs g 0) (ha : VRelV γ args cargs.toList) :
    Calls C.P f cargs w fun e w' => match e with
      | .returned v => ∃ r h' γ', Q r h' ∧ Inv γ' h' w' ∧ Acc γ w γ' w' ∧ VRel γ' r v
      | _ => False := by
  obtain ⟨n, x, vs, h', hrun, rfl, r, rfl, hQ⟩ := hev
  refine (((simCalls hm hgf n).2 f args h r h' hrun).2 γ w cargs hi hg ha).mono fun e w' he => ?_
  cases e with
  | returned v =>
    obtain ⟨γ', p1, p2, p3, _⟩ := he
    exact ⟨r, h', γ', hQ, p1, p2, p3⟩
  | _ => exact he
end Go.Am
