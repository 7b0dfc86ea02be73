/-
  Regions whose order is open, third part: every order does what ours does. No law is claimed here.
-/
import Derived.Test.YtejpjabbdkpmiaaDoorAm24
set_option linter.unusedSimpArgs false
set_option linter.unusedVariables false
namespace Go.Am
open Go

section
variable {C : Ctx} {fid : FuncId} {ops : List Oper} {run : IT → AHeap → Option Res} {an : List Nat}

theorem not_meets {a b : List Nat} (h : (!meets a b) = true) {x : Nat} (hx : x ∈ a) : x ∉ b := fun hb => by
  have : meets a b = true := meets_iff.2 ⟨x, hx, hb⟩
  simp [this] at h

/-- Two steps that do not touch change places. -/
theorem swap {p s : St} {σ σa σ1 : Env} {h ha h1 : AHeap} (hp : AStep C fid ops run p σ h σa ha) (hs : AStep C fid ops run s σa ha σ1 h1) (hok : pairOk p.fp s.fp = true)
    (hre : s.fp.eff = true → ∀ f, p.fl = some f → hload h1 f.n f.p = some f.v) :
    ∃ σs hs', AStep C fid ops run s σ h σs hs' ∧ AStep C fid ops run p σs hs' σ1 h1 ∧ (s.fp.eff = true → hs' = h1) ∧ (p.fp.eff = true → h1 = ha) := by
  unfold pairOk FP.apart at hok
  simp only [Bool.and_eq_true] at hok
  obtain ⟨⟨⟨⟨pf, sf⟩, ⟨⟨a1, a2⟩, a3⟩, a4⟩, he⟩, hl⟩ := hok
  obtain ⟨wsp, rfl, hpw, hpl, hpo, hpn, hph, hpf, hpall⟩ := hp.spec pf
  obtain ⟨wss, rfl, hsw, hsl, hso, hsn, hsh, hsf, hsall⟩ := hs.spec sf
  have outp : ∀ x ∈ s.fp.rs ++ s.fp.wf, (σ.puts wsp).at x = σ.at x := fun x hx => Env.at_puts_out wsp σ x fun q hq e => not_meets a1 (hpw q hq) (by rw [e]; exact hx)
  have hnsσ : noLref σ s.fp.news = true := by
    rw [noLref_iff] at hsn ⊢
    intro x t o hx
    by_cases hw : x ∈ p.fp.wf
    · exact not_meets a3 (hpo x hw t o hx)
    · refine hsn x t o ?_
      rw [Env.at_puts_out wsp σ x fun q hq e => hw (by rw [← e]; exact hpw q hq)]
      exact hx
  have hlen : ∀ (τ : Env) (ws : List (Nat × Slot)), (τ.puts ws).length = τ.length := fun τ ws => Env.length_puts ws τ
  have hcomm : (σ.puts wss).puts wsp = (σ.puts wsp).puts wss := (Env.puts_comm fun q hq r hr e => by
    have := not_meets a1 (hpw q hq)
    exact this (List.mem_append_right _ (by rw [e]; exact hsw r hr))).symm
  have outs : ∀ x ∈ p.fp.rs ++ p.fp.wf, (σ.puts wss).at x = σ.at x := fun x hx => Env.at_puts_out wss σ x fun q hq e => by
    rcases List.mem_append.1 hx with hx | hx
    · exact not_meets a2 (hsw q hq) (by rw [e]; exact hx)
    · exact not_meets a1 hx (List.mem_append_right _ (by rw [← e]; exact hsw q hq))
  have hnp : noLref (σ.puts wss) p.fp.news = true := by
    rw [noLref_iff] at hpn ⊢
    intro x t o hx
    rcases Env.at_puts_or wss σ x with h0 | ⟨q, hq, _, h2⟩
    · exact hpn x t o (by rw [← h0]; exact hx)
    · rw [h2] at hx
      exact not_meets a4 (hsl q hq t o hx)
  by_cases hse : s.fp.eff = true
  · have hpe : p.fp.eff = false := by
      cases hq : p.fp.eff with
      | false => rfl
      | true => simp [hse, hq] at he
    have hha : ha = h := hph hpe
    subst hha
    refine ⟨σ.puts wss, h1, hsall σ ha h1 (hlen σ wsp).symm (fun x hx => (outp x hx).symm) hnsσ (.inl ⟨rfl, rfl⟩), ?_, fun _ => rfl, fun e => by rw [hpe] at e; cases e⟩
    rw [← hcomm]
    exact hpall (σ.puts wss) h1 h1 (hlen σ wss) outs hnp (.inr ⟨hpe, rfl, fun _ f hf => hre hse f hf⟩)
  · have hse' : s.fp.eff = false := by simpa using hse
    have hh1 : h1 = ha := hsh hse'
    subst hh1
    refine ⟨σ.puts wss, h, ?_, ?_, fun e => absurd e hse, fun _ => rfl⟩
    · by_cases hpe : p.fp.eff = true
      · refine hsall σ h h (hlen σ wsp).symm (fun x hx => (outp x hx).symm) hnsσ (.inr ⟨hse', rfl, fun hh => ?_⟩)
        simp [hpe, hh] at hl
      · have hpe' : p.fp.eff = false := by simpa using hpe
        have hha := hph hpe'
        exact hsall σ h h (hlen σ wsp).symm (fun x hx => (outp x hx).symm) hnsσ (.inl ⟨hha.symm, hha.symm⟩)
    · rw [← hcomm]
      exact hpall (σ.puts wss) h h1 (hlen σ wss) outs hnp (.inl ⟨rfl, rfl⟩)

/-- A row of steps, in our order; what was loaded is looked at again behind each effect that may come ahead of it. -/
inductive Steps (C : Ctx) (fid : FuncId) (ops : List Oper) (run : IT → AHeap → Option Res) (an : List Nat) : List Float → List St → Env → AHeap → Env → AHeap → Prop
  | nil {fl : List Float} {σ : Env} {h : AHeap} : Steps C fid ops run an fl [] σ h σ h
  | cons {fl : List Float} {s : St} {L : List St} {σ σ1 σf : Env} {h h1 hf : AHeap} : AStep C fid ops run s σ h σ1 h1 → (s.fp.eff = true → ∀ f ∈ fl, isBefore an f.idx s.idx = false → hload h1 f.n f.p = some f.v) →
      Steps C fid ops run an (s.fl.toList ++ fl) L σ1 h1 σf hf → Steps C fid ops run an fl (s :: L) σ h σf hf

theorem Steps.sub {fl : List Float} {L : List St} {σ σf : Env} {h hf : AHeap} (hs : Steps C fid ops run an fl L σ h σf hf) : ∀ {fl' : List Float}, (∀ f ∈ fl', f ∈ fl) → Steps C fid ops run an fl' L σ h σf hf := by
  induction hs with
  | nil => intro fl' _; exact .nil
  | cons h1 h2 _ ih =>
    intro fl' hsub
    refine .cons h1 (fun he f hf hb => h2 he f (hsub f hf) hb) (ih fun f hf => ?_)
    rcases List.mem_append.1 hf with hf | hf
    · exact List.mem_append_left _ hf
    · exact List.mem_append_right _ (hsub f hf)

theorem AStep.fl_idx {s : St} {σ σ' : Env} {h h' : AHeap} (hs : AStep C fid ops run s σ h σ' h') {f : Float} (hf : s.fl = some f) : f.idx = s.idx := by
  obtain ⟨o, _, ⟨_, _, hfl, _⟩ | ⟨r, σ1, _, _, _, _, hfl, _⟩⟩ := hs
  · rw [hfl] at hf; cases hf
  · rw [hfl] at hf
    unfold floatOf at hf
    split at hf
    · split at hf
      · cases hf; rfl
      · cases hf
    · cases hf

theorem Steps.lt {fl : List Float} {L : List St} {σ σf : Env} {h hf : AHeap} (hs : Steps C fid ops run an fl L σ h σf hf) : ∀ q ∈ L, q.idx < ops.length := by
  induction hs with
  | nil => simp
  | cons h1 _ _ ih =>
    intro q hq
    rcases List.mem_cons.1 hq with rfl | hq
    · obtain ⟨o', h2, _⟩ := h1
      exact (List.getElem?_eq_some_iff.1 h2).1
    · exact ih q hq

/-- A step may come first, if those ahead of it do not touch it. -/
theorem front {s : St} {B : List St} {σf : Env} {hf : AHeap} : ∀ {A : List St} {fl : List Float} {σ : Env} {h : AHeap}, Steps C fid ops run an fl (A ++ s :: B) σ h σf hf → (∀ p ∈ A, pairOk p.fp s.fp = true ∧ isBefore an p.idx s.idx = false) →
    ∃ σ1 h1, AStep C fid ops run s σ h σ1 h1 ∧ (s.fp.eff = true → ∀ f ∈ fl, isBefore an f.idx s.idx = false → hload h1 f.n f.p = some f.v) ∧ Steps C fid ops run an (s.fl.toList ++ fl) (A ++ B) σ1 h1 σf hf
  | [], fl, σ, h, hs, _ => by
    cases hs with
    | cons h1 h2 h3 => exact ⟨_, _, h1, h2, h3⟩
  | p :: A, fl, σ, h, hs, hA => by
    cases hs with
    | cons h1 h2 h3 =>
      rename_i σa ha
      obtain ⟨σ1, h1', k1, k2, k3⟩ := front h3 fun q hq => hA q (by simp [hq])
      obtain ⟨hok, hbef⟩ := hA p (by simp)
      obtain ⟨σs, hs', w1, w2, w3, w4⟩ := swap h1 k1 hok fun he f hf => k2 he f (by rw [hf]; simp) (by rw [h1.fl_idx hf]; exact hbef)
      refine ⟨σs, hs', w1, fun he f hf hb => ?_, .cons w2 (fun he f hf hb => ?_) (k3.sub fun f hf => ?_)⟩
      · rw [w3 he]
        exact k2 he f (List.mem_append_right _ hf) hb
      · rw [w4 he]
        rcases List.mem_append.1 hf with hf | hf
        · exfalso
          unfold pairOk at hok
          simp only [Bool.and_eq_true] at hok
          obtain ⟨⟨⟨⟨_, sf⟩, _⟩, hee⟩, hl⟩ := hok
          cases hsfl : s.fl with
          | none => rw [hsfl] at hf; simp at hf
          | some g =>
            -- a load may not come ahead of an effect
            have hhl : s.fp.hl = true := by
              obtain ⟨o, _, ⟨_, _, hfl, _⟩ | ⟨r, σ1', _, _, hfp, _, hfl, _⟩⟩ := k1
              · rw [hfl] at hsfl; cases hsfl
              · rw [hfl] at hsfl
                unfold floatOf at hsfl
                split at hsfl
                · rw [hfp]; rfl
                · cases hsfl
            simp [he, hhl] at hl
        · exact h2 he f hf hb
      · rcases List.mem_append.1 hf with hf | hf
        · exact List.mem_append_right _ (List.mem_append_left _ hf)
        · rcases List.mem_append.1 hf with hf | hf
          · exact List.mem_append_left _ hf
          · exact List.mem_append_right _ (List.mem_append_right _ hf)

theorem testBit_foldl {acc : List Nat} {x : Nat} : ∀ (ds : List Nat) (m : Nat), (ds.foldl (fun m e => m ||| bit e ||| acc.getD e 0) m).testBit x = true ↔ m.testBit x = true ∨ ∃ e ∈ ds, x = e ∨ (acc.getD e 0).testBit x = true
  | [], m => by simp
  | d :: ds, m => by
    rw [List.foldl_cons, testBit_foldl ds]
    simp only [Nat.testBit_or, bit, Nat.testBit_two_pow, Bool.or_eq_true, decide_eq_true_eq, List.mem_cons, exists_eq_or_imp]
    constructor
    · rintro ((h | h) | h)
      · rcases h with h | h
        · exact .inl h
        · exact .inr (.inl (.inl h.symm))
      · exact .inr (.inl (.inr h))
      · exact .inr (.inr h)
    · rintro (h | (h | h) | h)
      · exact .inl (.inl (.inl h))
      · exact .inl (.inl (.inr h.symm))
      · exact .inl (.inr h)
      · exact .inr h

theorem ancsFrom_old : ∀ (l : List Oper) (acc : List Nat) (i : Nat), i < acc.length → (ancsFrom acc l).getD i 0 = acc.getD i 0
  | [], acc, i, h => rfl
  | o :: l, acc, i, h => by
    rw [ancsFrom, ancsFrom_old l _ i (by simp; omega)]
    simp [List.getD, List.getElem?_append_left h]

/-- What comes before an operation: its own edges, and what comes before these. -/
theorem ancsFrom_spec : ∀ (l : List Oper) (acc : List Nat) (k : Nat) (o : Oper), l[k]? = some o → (∀ e ∈ Oper.deps o, e < acc.length + k) → ∀ x,
    ((ancsFrom acc l).getD (acc.length + k) 0).testBit x = true ↔ ∃ e ∈ Oper.deps o, x = e ∨ ((ancsFrom acc l).getD e 0).testBit x = true
  | [], acc, k, o, h, _, x => by simp at h
  | o' :: l, acc, 0, o, h, hd, x => by
    simp at h
    subst h
    rw [ancsFrom, ancsFrom_old l _ (acc.length + 0) (by simp)]
    have e1 : (acc ++ [(Oper.deps o').foldl (fun m e => m ||| bit e ||| acc.getD e 0) 0]).getD (acc.length + 0) 0 = (Oper.deps o').foldl (fun m e => m ||| bit e ||| acc.getD e 0) 0 := by
      simp [List.getD]
    rw [e1, testBit_foldl]
    simp only [Nat.zero_testBit, Bool.false_eq_true, false_or]
    constructor
    · rintro ⟨e, he, h⟩
      refine ⟨e, he, h.imp id fun h => ?_⟩
      have hlt : e < acc.length := hd e he
      rw [ancsFrom_old l _ e (by simp; omega)]
      simpa [List.getD, List.getElem?_append_left hlt] using h
    · rintro ⟨e, he, h⟩
      refine ⟨e, he, h.imp id fun h => ?_⟩
      have hlt : e < acc.length := hd e he
      rw [ancsFrom_old l _ e (by simp; omega)] at h
      simpa [List.getD, List.getElem?_append_left hlt] using h
  | o' :: l, acc, k + 1, o, h, hd, x => by
    simp at h
    rw [ancsFrom]
    have := ancsFrom_spec l (acc ++ [(Oper.deps o').foldl (fun m e => m ||| bit e ||| acc.getD e 0) 0]) k o h (fun e he => by have := hd e he; simp; omega) x
    simp only [List.length_append, List.length_cons, List.length_nil, Nat.zero_add] at this
    rw [show acc.length + (k + 1) = acc.length + 1 + k by omega]
    exact this

theorem ancs_spec {i : Nat} {o : Oper} (ho : ops[i]? = some o) (hd : ∀ e ∈ Oper.deps o, e < i) (x : Nat) : isBefore (ancs ops) x i = true ↔ ∃ e ∈ Oper.deps o, x = e ∨ isBefore (ancs ops) x e = true := by
  have := ancsFrom_spec ops [] i o ho (by simpa using hd) x
  simpa [isBefore, ancs] using this

theorem depsOk_spec (h : depsOk ops = true) {i : Nat} {o : Oper} (ho : ops[i]? = some o) : ∀ e ∈ Oper.deps o, e < i := by
  unfold depsOk at h
  rw [List.all_eq_true] at h
  have := h (o, i) (by
    refine List.mem_of_getElem? (i := i) ?_
    simp [List.getElem?_zipIdx, ho])
  intro e he
  simpa using List.all_eq_true.1 this e he

theorem drawOk_go : ∀ {l : List (Nat × FP)}, drawOk.go an l = true → l.Pairwise fun x y => x.1 ≠ y.1 ∧ isBefore an y.1 x.1 = false ∧ (isBefore an x.1 y.1 = true ∨ pairOk x.2 y.2 = true)
  | [], _ => .nil
  | (i, f) :: l, h => by
    simp only [drawOk.go, Bool.and_eq_true, List.all_eq_true] at h
    refine .cons (fun y hy => ?_) (drawOk_go h.2)
    have := h.1 y hy
    simp only [bne_iff_ne, Bool.not_eq_true', Bool.or_eq_true] at this
    exact ⟨this.1.1, this.1.2, this.2⟩

theorem step_ask {d : Option Nat} {σ : Env} {K : Env → IT} {h : AHeap} {R : Res} (hr : IT.step (afun C) run (askAt d σ K) h = some R) : ∃ σ', Asked d σ σ' ∧ IT.step (afun C) run (K σ') h = some R := by
  unfold askAt at hr
  cases d with
  | none => exact ⟨σ, rfl, hr⟩
  | some d =>
    simp only at hr
    cases hx : σ.at d with
    | val v =>
      rw [hx] at hr
      simp only [IT.step] at hr
      split at hr
      · exact ⟨σ.set d (.cst true), by simp only [Asked, hx]; exact ⟨true, rfl, rfl⟩, hr⟩
      · exact ⟨σ.set d (.cst false), by simp only [Asked, hx]; exact ⟨false, rfl, rfl⟩, hr⟩
      · cases hr
    | _ => rw [hx] at hr; exact ⟨σ, by simp only [Asked, hx], hr⟩

theorem step_recheck {i : Nat} {t : IT} {h : AHeap} {R : Res} : ∀ {fl : List Float}, IT.step (afun C) run (recheck an i fl t) h = some R → (∀ f ∈ fl, isBefore an f.idx i = false → hload h f.n f.p = some f.v) ∧ IT.step (afun C) run t h = some R
  | [], hr => ⟨by simp, hr⟩
  | f :: fl, hr => by
    unfold recheck at hr
    by_cases hb : isBefore an f.idx i = true
    · rw [if_pos hb] at hr
      obtain ⟨k1, k2⟩ := step_recheck hr
      refine ⟨fun g hg hgb => ?_, k2⟩
      rcases List.mem_cons.1 hg with rfl | hg
      · rw [hb] at hgb; cases hgb
      · exact k1 g hg hgb
    · rw [if_neg hb] at hr
      simp only [IT.step] at hr
      split at hr
      · rename_i v hv
        split at hr
        · rename_i heq
          obtain ⟨k1, k2⟩ := step_recheck hr
          refine ⟨fun g hg hgb => ?_, k2⟩
          rcases List.mem_cons.1 hg with rfl | hg
          · rw [AVal.beq_eq heq]; exact hv
          · exact k1 g hg hgb
        · cases hr
      · cases hr

/-- The tree of a region whose order is open runs as a row of steps. -/
theorem draw_steps {K : Env → IT} {R : Res} : ∀ {rest : List Nat} {ann : List (Nat × FP)} {fl : List Float} {σ : Env} {h : AHeap}, IT.step (afun C) run (sxDraw C fid ops an rest ann fl σ K) h = some R →
    ∃ L σf hf, Steps C fid ops run an fl L σ h σf hf ∧ drawOk ops.length an (ann.reverse ++ L.map fun s => (s.idx, s.fp)) = true ∧ IT.step (afun C) run (K σf) hf = some R
  | [], ann, fl, σ, h, hr => by
    unfold sxDraw at hr
    split at hr
    · rename_i hok; exact ⟨[], σ, h, .nil, by simpa using hok, hr⟩
    · cases hr
  | i :: rest, ann, fl, σ, h, hr => by
    unfold sxDraw at hr
    cases ho : ops[i]? with
    | none => rw [ho] at hr; cases hr
    | some o =>
      rw [ho] at hr
      simp only at hr
      split at hr
      · rename_i hg
        split at hr
        · cases hr
        · rename_i r hc
          obtain ⟨σ1, h1, hd, hr⟩ := tree_does hr
          have hr' : (r.eff = true → ∀ f ∈ fl, isBefore an f.idx i = false → hload h1 f.n f.p = some f.v) ∧ IT.step (afun C) run (askAt (if isGuard ops i then o.dst else none) σ1 fun σ'' => sxDraw C fid ops an rest ((i, fpOf C ops σ o (some r)) :: ann) (floatsAfter i r σ1 fl) σ'' K) h1 = some R := by
            split at hr
            · obtain ⟨k1, k2⟩ := step_recheck hr; exact ⟨fun _ => k1, k2⟩
            · rename_i he; exact ⟨fun e => absurd e he, hr⟩
          obtain ⟨hre, hr⟩ := hr'
          obtain ⟨σ', ha, hr⟩ := step_ask hr
          rw [floatsAfter_eq] at hr
          obtain ⟨L, σf, hf, k1, k2, k3⟩ := draw_steps hr
          exact ⟨{ idx := i, fp := fpOf C ops σ o (some r), fl := floatOf i r σ1 } :: L, σf, hf, .cons ⟨o, ho, .inr ⟨r, σ1, hg, hc, rfl, hd, rfl, ha⟩⟩ hre k1, by simpa using k2, k3⟩
      · rename_i hg
        obtain ⟨L, σf, hf, k1, k2, k3⟩ := draw_steps hr
        exact ⟨{ idx := i, fp := fpOf C ops σ o none, fl := none } :: L, σf, hf, .cons ⟨o, ho, .inl ⟨hg, rfl, rfl, rfl, rfl⟩⟩ (fun e => by simp [fpOf] at e) k1, by simpa using k2, k3⟩
      · cases hr
end

section
variable {C : Ctx} {γ0 γ : Gh} {w0 w : World} {β : Nat → Nat} {σ : Env} {h : AHeap} {a : Act} {fid : FuncId}

/-- The guard of an operation, in the model. -/
theorem guard_wanted (hr : Rel C γ0 w0 γ β σ h a w) {ops : Array Oper} {o : Oper} {b : Bool} (hg : guardOf ops.toList σ o = .known b) : Region.wanted o (yielded ops a.tmps) = b := by
  unfold guardOf at hg
  unfold Region.wanted
  cases ho : o.guard with
  | none => rw [ho] at hg; cases hg; rfl
  | some g =>
    obtain ⟨j, want⟩ := g
    rw [ho] at hg
    simp only [Array.getElem?_toList] at hg ⊢
    unfold yielded
    cases hd : (ops[j]?).bind (·.dst) with
    | none => rw [hd] at hg; cases hg
    | some s =>
      rw [hd] at hg
      simp only [Option.bind_some] at hg ⊢
      have h0 := hr.fr.slots s
      cases hx : σ.at s with
      | cst c =>
        rw [hx] at hg h0
        cases hg
        have hl : s < a.tmps.size := by rw [← hr.fr.size]; exact Env.at_lt (by rw [hx]; simp)
        have hv : a.tmps.getD s undef = .bool c := h0
        have : a.tmps[s]? = some (.bool c) := by
          rw [Array.getElem?_eq_getElem hl]
          rw [Array.getD_eq_getD_getElem?, Array.getElem?_eq_getElem hl] at hv
          exact congrArg some hv
        rw [this]
        rfl
      | skip =>
        rw [hx] at hg h0
        cases hg
        have hv : a.tmps.getD s undef = undef := h0
        have hne : ∀ c, a.tmps[s]? ≠ some (.bool c) := fun c hc => by
          rw [Array.getD_eq_getD_getElem?, hc] at hv
          cases hv
        cases ht : a.tmps[s]? with
        | none => rfl
        | some v =>
          cases v with
          | bool c => exact absurd ht (hne c)
          | _ => rfl
      | val v => rw [hx] at hg; cases hg
      | _ => rw [hx] at hg; cases hg

theorem Rel.asked (hr : Rel C γ0 w0 γ β σ h a w) {d : Option Nat} {σ' : Env} (ha : Asked d σ σ') : Rel C γ0 w0 γ β σ' h a w := by
  unfold Asked at ha
  cases d with
  | none => simp only at ha; rw [ha]; exact hr
  | some d =>
    simp only at ha
    cases hx : σ.at d with
    | val v =>
      rw [hx] at ha
      obtain ⟨b, rfl, rfl⟩ := ha
      have h0 := hr.fr.slots d
      rw [hx] at h0
      exact hr.turn h0
    | _ => rw [hx] at ha; rw [ha]; exact hr

/-- What is known of the operations that are still to come. -/
structure Open (ops : Array Oper) (listed : Array Bool) (L : List St) : Prop where
  size : listed.size = ops.size
  un : ∀ i, i < ops.size → (listed.getD i false = false ↔ i ∈ L.map (·.idx))
  closed : ∀ j, listed.getD j false = true → ∀ e, isBefore (ancs ops.toList) e j = true → listed.getD e false = true

abbrev Ordered (an : List Nat) (L : List St) : Prop := L.Pairwise fun x y => x.idx ≠ y.idx ∧ isBefore an y.idx x.idx = false ∧ (isBefore an x.idx y.idx = true ∨ pairOk x.fp y.fp = true)

theorem any_steps {run : IT → AHeap → Option Res} (hS : SimCalls C run) {ops : Array Oper} {Q : Exit → Act → World → Prop} (hdo : depsOk ops.toList = true) {σf : Env} {hf : AHeap} (hQ : ∀ γ' β' a' w', Rel C γ0 w0 γ' β' σf hf a' w' → Q .normal a' w') :
    ∀ (fuel : Nat) (L : List St) (listed : Array Bool) (γ : Gh) (β : Nat → Nat) (σ : Env) (h : AHeap) (a : Act) (w : World), L.length = fuel → Steps C fid ops.toList run (ancs ops.toList) [] L σ h σf hf → Ordered (ancs ops.toList) L → Open ops listed L → Rel C γ0 w0 γ β σ h a w →
      wpAny C.P .any ops Q fuel listed a w := by
  intro fuel
  induction fuel with
  | zero =>
    intro L listed γ β σ h a w hL hs hp ho hr
    have hL0 : L = [] := List.eq_nil_of_length_eq_zero hL
    subst hL0
    cases hs
    refine ⟨List.eq_nil_iff_forall_not_mem.2 fun i hi => ?_, hQ _ _ _ _ hr⟩
    obtain ⟨h0, o, hoi, _⟩ := mem_ready.1 hi
    have hlt : i < ops.size := (Array.getElem?_eq_some_iff.1 hoi).1
    have h0' : listed.getD i false = false := by
      have hl : i < listed.size := by rw [ho.size]; exact hlt
      simpa [Array.getD, hl] using h0
    have := (ho.un i hlt).1 h0'
    simp at this
  | succ fuel ih =>
    intro L listed γ β σ h a w hL hs hp ho hr
    have hget : ∀ i, i < ops.size → listed.getD i true = listed.getD i false := fun i hi => by
      have hl : i < listed.size := by rw [ho.size]; exact hi
      simp [Array.getD, hl]
    constructor
    · intro hre
      exfalso
      cases L with
      | nil => simp at hL
      | cons s0 L =>
        obtain ⟨o, hoi, _⟩ : ∃ o, ops.toList[s0.idx]? = some o ∧ True := by
          cases hs with
          | cons h1 _ _ => obtain ⟨o, h2, _⟩ := h1; exact ⟨o, h2, trivial⟩
        have hoi' : ops[s0.idx]? = some o := by simpa using hoi
        have hlt : s0.idx < ops.size := (Array.getElem?_eq_some_iff.1 hoi').1
        have : s0.idx ∈ Region.ready .any ops listed := by
          refine mem_ready.2 ⟨?_, o, hoi', fun e he hb => ?_⟩
          · rw [hget _ hlt]; exact (ho.un _ hlt).2 (by simp)
          · have hed : e.on ∈ Oper.deps o := List.mem_filterMap.2 ⟨e, by simpa using he, by rw [if_pos hb]⟩
            have hei := depsOk_spec hdo hoi e.on hed
            cases hl : listed.getD e.on false with
            | true => rfl
            | false =>
              have hm := (ho.un e.on (by omega)).1 hl
              simp only [List.map_cons, List.mem_cons] at hm
              rcases hm with hm | hm
              · omega
              · obtain ⟨y, hy, hye⟩ := List.mem_map.1 hm
                have := ((List.pairwise_cons.1 hp).1 y hy).2.1
                rw [hye, (ancs_spec hoi (depsOk_spec hdo hoi) e.on).2 ⟨e.on, hed, .inl rfl⟩] at this
                cases this
        rw [hre] at this
        cases this
    · intro i hi
      obtain ⟨h0, o, hoi, hdeps⟩ := mem_ready.1 hi
      have hlt : i < ops.size := (Array.getElem?_eq_some_iff.1 hoi).1
      rw [hget i hlt] at h0
      obtain ⟨s, hsL, rfl⟩ := List.mem_map.1 ((ho.un i hlt).1 h0)
      obtain ⟨A, B, rfl⟩ := List.append_of_mem hsL
      have hoi' : ops.toList[s.idx]? = some o := by simpa using hoi
      have hanc : ∀ e, isBefore (ancs ops.toList) e s.idx = true → listed.getD e false = true := fun e he => by
        obtain ⟨d, hd, hcase⟩ := (ancs_spec hoi' (depsOk_spec hdo hoi') e).1 he
        obtain ⟨ed, hed, hb⟩ := List.mem_filterMap.1 hd
        split at hb
        · rename_i hbb
          cases hb
          have hdl := hdeps ed (by simpa using hed) hbb
          rcases hcase with rfl | hcase
          · exact hdl
          · exact ho.closed _ hdl e hcase
        · cases hb
      have hApair := (List.pairwise_append.1 hp).2.2
      have hAlt : ∀ p ∈ A ++ s :: B, p.idx < ops.size := fun p hp' => by simpa using hs.lt p hp'
      obtain ⟨σ1, h1, k1, _, k3⟩ := front hs fun p hpA => by
        have hb : isBefore (ancs ops.toList) p.idx s.idx = false := by
          cases hbb : isBefore (ancs ops.toList) p.idx s.idx with
          | false => rfl
          | true =>
            have h1 := hanc _ hbb
            have h2 := (ho.un p.idx (hAlt p (by simp [hpA]))).2 (List.mem_map.2 ⟨p, by simp [hpA], rfl⟩)
            rw [h1] at h2; cases h2
        refine ⟨?_, hb⟩
        have := (hApair p hpA s (by simp)).2.2
        rw [hb] at this
        exact this.resolve_left (by simp)
      have hnext : ∀ γ' β' a' w', Rel C γ0 w0 γ' β' σ1 h1 a' w' → wpAny C.P .any ops Q fuel (listed.setIfInBounds s.idx true) a' w' := fun γ' β' a' w' hr' => by
        refine ih (A ++ B) _ γ' β' σ1 h1 a' w' (by simp at hL ⊢; omega) (k3.sub (by simp)) ?_ ⟨by simp [ho.size], fun j hj => ?_, fun j hj e he => ?_⟩ hr'
        · exact hp.sublist ((List.Sublist.refl A).append (List.sublist_cons_self s B))
        · by_cases hjs : j = s.idx
          · subst hjs
            have hnot : s.idx ∉ (A ++ B).map (·.idx) := fun hm => by
              obtain ⟨q, hq, he⟩ := List.mem_map.1 hm
              rcases List.mem_append.1 hq with hq | hq
              · exact (hApair q hq s (by simp)).1 he
              · exact (List.pairwise_cons.1 (List.pairwise_append.1 hp).2.1).1 q hq |>.1 he.symm
            have ht : (listed.setIfInBounds s.idx true).getD s.idx false = true := by
              have hl : s.idx < listed.size := by rw [ho.size]; exact hlt
              simp [Array.getD, hl]
            rw [ht]
            exact ⟨fun e => absurd e (by simp), fun e => absurd e hnot⟩
          · rw [getD_set_ne false (fun e => hjs e.symm), ho.un j hj]
            simp only [List.map_append, List.map_cons, List.mem_append, List.mem_cons]
            constructor
            · rintro (e | e | e)
              · exact .inl e
              · exact absurd e hjs
              · exact .inr e
            · rintro (e | e)
              · exact .inl e
              · exact .inr (.inr e)
        · by_cases hjs : j = s.idx
          · subst hjs
            exact getD_set_true (hanc e he)
          · rw [getD_set_ne false (fun e => hjs e.symm)] at hj
            exact getD_set_true (ho.closed j hj e he)
      unfold wpOp
      rw [hoi]
      obtain ⟨o', ho', ⟨hg, _, _, rfl, rfl⟩ | ⟨r, σ2, hg, hc, _, hd, _, ha⟩⟩ := k1
      · rw [hoi'] at ho'; cases ho'
        simp only [guard_wanted hr hg, Bool.false_eq_true, if_false]
        exact hnext _ _ _ _ (hr.put fun _ _ => rfl)
      · rw [hoi'] at ho'; cases ho'
        simp only [guard_wanted hr hg, if_true]
        exact .inl (sim_op hS hc hd hr fun γ' β' a' w' hr' => hnext γ' β' a' w' (hr'.asked ha))
end
end Go.Am
