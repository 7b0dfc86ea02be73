/-
  Code, second part: vectors of slots, joins, loops. No law is claimed here.
-/
import Derived.Test.YtejpjabbdkpmiaaDoorAm27
set_option linter.unusedSimpArgs false
set_option linter.unusedVariables false
namespace Go.Am
open Go

/-- What a slot of a vector has become. -/
def Fits (x y : Slot) : Prop :=
  (∃ u, x.value? = some u ∧ y = .val u) ∨ (∃ v, x = .own v ∧ y = .own v) ∨ ∃ ver cs ow ver' ow', x = .box ver cs ow ∧ y = .box ver' cs ow' ∧ ∀ o ∈ ow', o ∈ ow

theorem Env.at_clear : ∀ (ws : List Nat) (σ : Env) (s : Nat), (σ.clear ws).at s = if s ∈ ws then .undef else σ.at s
  | [], σ, s => by simp [Env.clear]
  | t :: ws, σ, s => by
    rw [Env.clear, Env.at_clear ws]
    by_cases h : s ∈ ws
    · simp [h]
    · by_cases h2 : s = t
      · subst h2
        rw [Env.at_set]
        by_cases hl : s < σ.length
        · simp [hl]
        · have : σ.at s = .undef := by simp [Env.at, List.getD, hl]
          simp [h, hl, this]
      · rw [Env.at_set_ne fun e => h2 e.symm]
        simp [h, h2]

theorem Env.length_clear : ∀ (ws : List Nat) (σ : Env), (σ.clear ws).length = σ.length
  | [], σ => rfl
  | t :: ws, σ => by rw [Env.clear, Env.length_clear ws]; simp

section
variable {C : Ctx} {γ0 γ : Gh} {w0 w : World} {β : Nat → Nat} {σ : Env} {h : AHeap} {a : Act} {fid : FuncId} {run : IT → AHeap → Option Res}

theorem Fits.rel {B s : Nat} {x y : Slot} {v : Value} (hx : SRel γ β B w s x v) (hf : Fits x y) : SRel γ β B w s y v := by
  rcases hf with ⟨u, hu, rfl⟩ | ⟨u, rfl, rfl⟩ | ⟨ver, cs, ow, ver', ow', rfl, rfl, hsub⟩
  · exact value_rel hx hu
  · exact hx
  · obtain ⟨p1, p2, p3, us, e, p4, p5, p6, p7⟩ := hx
    exact ⟨p1, p2, p3, us, e, p4, p5, p6, fun o ho => p7 o (hsub o ho)⟩

/-- The vector is laid out into slots. -/
theorem setVec_spec {σs : Env} {G : Env → IT} {R : Res} {vs : List AVal} : ∀ {l : List (Nat × Sh)} {i : Nat} {σa : Env}, vecOf σs l = some (vs.drop i) → σa.length = σs.length → IT.step (afun C) run (setVec vs l i σa G) h = some R →
    ∃ σh, IT.step (afun C) run (G σh) h = some R ∧ σh.length = σa.length ∧ (∀ s, s ∉ l.map (·.1) → σh.at s = σa.at s) ∧ (∀ s, s ∈ l.map (·.1) → Fits (σs.at s) (σh.at s) ∧
      ((∃ ver' cs' ow', σh.at s = .box ver' cs' ow' ∧ verOf (σa.at s) < ver') ∨ ∀ ver cs ow, σs.at s ≠ .box ver cs ow))
  | [], i, σa, _, _, hr => ⟨σa, hr, rfl, fun _ _ => rfl, by simp⟩
  | (s, sh) :: l, i, σa, hv, hl, hr => by
    -- the head's value
    have hd : ∃ v vs', vs.drop i = v :: vs' ∧ vs.drop (i + 1) = vs' ∧ vs.getD i .nilIface = v ∧ vecOf σs l = some vs' ∧
        (match (generalizing := false) sh, σs.at s with | .val, x => x.value? | .own, .own v => some v | .box n ow, .box _ cs ow' => if cs.length = n ∧ ow.all (ow'.contains ·) then some (.agg cs) else none | _, _ => none) = some v := by
      unfold vecOf at hv
      simp only at hv
      split at hv
      · rename_i v vs' h1 h2
        simp only [Option.some.injEq] at hv
        refine ⟨v, vs', hv.symm, ?_, ?_, h2, h1⟩
        · have := congrArg (List.drop 1) hv
          simpa [List.drop_drop] using this.symm
        · have := congrArg (·[0]?) hv
          simp only [List.getElem?_cons_zero, List.getElem?_drop, Nat.add_zero] at this
          simp [List.getD, ← this]
      · cases hv
    obtain ⟨v, vs', hdr, hdr2, hget, hv2, hone⟩ := hd
    have hlt : s < σa.length := by
      rw [hl]
      refine Env.at_lt fun e => ?_
      rw [e] at hone
      cases sh <;> simp [Slot.value?] at hone
    have go : ∀ (y : Slot), Fits (σs.at s) y → ((∃ ver' cs' ow', y = .box ver' cs' ow' ∧ verOf (σa.at s) < ver') ∨ ∀ ver cs ow, σs.at s ≠ .box ver cs ow) → IT.step (afun C) run (setVec vs l (i + 1) (σa.set s y) G) h = some R →
        ∃ σh, IT.step (afun C) run (G σh) h = some R ∧ σh.length = σa.length ∧ (∀ t, t ∉ ((s, sh) :: l).map (·.1) → σh.at t = σa.at t) ∧ (∀ t, t ∈ ((s, sh) :: l).map (·.1) → Fits (σs.at t) (σh.at t) ∧
          ((∃ ver' cs' ow', σh.at t = .box ver' cs' ow' ∧ verOf (σa.at t) < ver') ∨ ∀ ver cs ow, σs.at t ≠ .box ver cs ow)) := by
      intro y hy hy2 hr'
      obtain ⟨σh, k1, k2, k3, k4⟩ := setVec_spec (l := l) (i := i + 1) (σa := σa.set s y) (by rw [hdr2]; exact hv2) (by simpa using hl) hr'
      refine ⟨σh, k1, by simpa using k2, fun t ht => ?_, fun t ht => ?_⟩
      · simp only [List.map_cons, List.mem_cons, not_or] at ht
        rw [k3 t ht.2, Env.at_set_ne fun e => ht.1 e.symm]
      · by_cases hm : t ∈ l.map (·.1)
        · obtain ⟨q1, q2⟩ := k4 t hm
          refine ⟨q1, q2.imp (fun ⟨ver', cs', ow', e1, e2⟩ => ⟨ver', cs', ow', e1, ?_⟩) id⟩
          by_cases hts : s = t
          · subst hts
            rw [Env.at_set_self hlt] at e2
            rcases hy2 with ⟨v1, c1, o1, rfl, h1⟩ | hn
            · simp only [verOf] at e2; omega
            · rcases q1 with ⟨u, _, e⟩ | ⟨u, _, e⟩ | ⟨ver, cs, ow, _, _, e, _⟩
              · rw [e1] at e; cases e
              · rw [e1] at e; cases e
              · exact absurd e (hn _ _ _)
          · rwa [Env.at_set_ne hts] at e2
        · have hts : t = s := by
            simp only [List.map_cons, List.mem_cons] at ht
            exact ht.resolve_right hm
          subst hts
          rw [k3 t hm, Env.at_set_self hlt]
          exact ⟨hy, hy2⟩
    cases sh with
    | val =>
      simp only [setVec, hget] at hr
      have hone' : (σs.at s).value? = some v := by simpa using hone
      refine go (.val v) (.inl ⟨v, hone', rfl⟩) (.inr fun ver cs ow e => ?_) hr
      rw [e] at hone'
      cases hone'
    | own =>
      simp only [setVec, hget] at hr
      cases hx : σs.at s with
      | own u =>
        rw [hx] at hone
        cases hone
        exact go (.own v) (.inr (.inl ⟨v, hx, rfl⟩)) (.inr fun ver cs ow e => by rw [hx] at e; cases e) hr
      | _ => rw [hx] at hone; cases hone
    | box n ow =>
      simp only [setVec, hget, IT.step] at hr
      cases hx : σs.at s with
      | box ver cs ow' =>
        rw [hx] at hone
        simp only at hone
        split at hone
        · rename_i hcond
          cases hone
          split at hr
          · rename_i hn
            rw [unpack_eq hn] at hr
            refine go (.box (verOf (σa.at s) + 1) cs ow) (.inr (.inr ⟨ver, cs, ow', _, ow, hx, rfl, fun o ho => ?_⟩)) (.inl ⟨_, _, _, rfl, Nat.lt_succ_self _⟩) hr
            have := List.all_eq_true.1 hcond.2 o ho
            simpa using this
          · cases hr
        · cases hone
      | _ => rw [hx] at hone; cases hone

/-- A frame whose slots are known no better than those of another. -/
theorem Rel.weaken (hr : Rel C γ0 w0 γ β σ h a w) {τ : Env} (hl : τ.length = σ.length) (hs : ∀ s, τ.at s = .undef ∨ τ.at s = σ.at s ∨ Fits (σ.at s) (τ.at s)) : Rel C γ0 w0 γ β τ h a w := by
  refine ⟨hr.inv, ⟨by rw [hl]; exact hr.fr.size, fun s => ?_⟩, hr.acc, hr.defers, hr.glob⟩
  have h0 := hr.fr.slots s
  rcases hs s with e | e | e
  · rw [e]; trivial
  · rw [e]; exact h0
  · exact e.rel h0

/-- From the end of a piece of code to what comes behind it: the vector's slots, and those that nobody wrote. -/
structure Ends (σ0 : Env) (ws : List Nat) (l : List (Nat × Sh)) (σ' : Env) (vs : List AVal) : Prop where
  vec : vecOf σ' l = some vs
  len : σ'.length = σ0.length
  same : ∀ s, s ∉ l.map (·.1) → σ0.at s = .undef ∨ σ0.at s = σ'.at s
  box : ∀ s ver cs ow, σ0.at s = .box ver cs ow → ∃ ver' cs' ow', σ'.at s = .box ver' cs' ow'

theorem keptOk_spec {σ0 σ' : Env} {l : List (Nat × Sh)} (hk : keptOk σ0 σ' l = true) {s : Nat} (hs : s ∉ l.map (·.1)) : (∀ ver cs ow, σ0.at s = .box ver cs ow → ∃ cs' ow', σ'.at s = .box ver cs' ow') ∧ (∀ t o, σ0.at s = .lref t o → ∃ t' o', σ'.at s = .lref t' o') := by
  have hc : (l.map (·.1)).contains s = false := by
    cases hc : (l.map (·.1)).contains s with
    | false => rfl
    | true => exact absurd (by simpa using hc) hs
  have hat : s < σ0.length → (match σ0.at s with
      | .box ver _ _ => (l.map (·.1)).contains s || (match σ'.at s with | .box ver' _ _ => ver' == ver | _ => false)
      | .lref _ _ => (l.map (·.1)).contains s || (match σ'.at s with | .lref _ _ => true | _ => false)
      | _ => true) = true := fun hl => by
    unfold keptOk at hk
    exact List.all_eq_true.1 hk s (by simpa using hl)
  constructor
  · intro ver cs ow hx
    have := hat (Env.at_lt (by rw [hx]; simp))
    rw [hx] at this
    simp only [hc, Bool.false_or] at this
    split at this
    · rename_i ver' cs' ow' hy
      have e : ver' = ver := by simpa using this
      subst e
      exact ⟨cs', ow', hy⟩
    · cases this
  · intro t o hx
    have := hat (Env.at_lt (by rw [hx]; simp))
    rw [hx] at this
    simp only [hc, Bool.false_or] at this
    split at this
    · rename_i t' o' hy; exact ⟨t', o', hy⟩
    · cases this

/-- At the end of a piece of code that began in σh. -/
theorem finish_ends {σ0 σh σ' : Env} {ws : List Nat} {l : List (Nat × Sh)} {x : AExit} {R : Res} (hfin : IT.step (afun C) run (finish σ0 l x σ') h = some R) (hon : Only ws σh σ') (hlen : σh.length = σ0.length)
    (hin : ∀ s, s ∈ ws → σ0.at s = .undef) (hsame : ∀ s, s ∉ l.map (·.1) → σ0.at s = .undef ∨ σ0.at s = σh.at s) (hbox : ∀ s ver cs ow, σ0.at s = .box ver cs ow → ∃ ver' cs' ow', σh.at s = .box ver' cs' ow') :
    ∃ vs, R = (x, vs, h) ∧ Ends σ0 ws l σ' vs := by
  unfold finish at hfin
  split at hfin
  · rename_i hk
    split at hfin
    · rename_i vs hv
      cases hfin
      refine ⟨vs, rfl, hv, hon.1.trans hlen, fun s hs => ?_, fun s ver cs ow hb => ?_⟩
      · by_cases hw : s ∈ ws
        · exact .inl (hin s hw)
        · rcases hsame s hs with e | e
          · exact .inl e
          · right
            have hk2 := hon.2 s hw
            obtain ⟨k1, k2⟩ := keptOk_spec hk hs
            rw [e] at k1 k2 ⊢
            cases hx : σh.at s with
            | box ver cs ow =>
              rw [hx] at hk2
              obtain ⟨v1, c1, o1, e1, _, e2⟩ := hk2
              obtain ⟨c2, o2, e3⟩ := k1 ver cs ow hx
              rw [e1] at e3
              cases e3
              obtain ⟨rfl, rfl⟩ := e2 rfl
              exact e1.symm
            | lref t o =>
              rw [hx] at hk2
              rcases hk2 with e1 | e1
              · exact e1.symm
              · obtain ⟨t', o', e2⟩ := k2 t o hx
                rw [e1] at e2; cases e2
            | _ => rw [hx] at hk2; exact (show σ'.at s = _ from hk2).symm
      · have hw : s ∉ ws := fun hw => by rw [hin s hw] at hb; cases hb
        obtain ⟨v1, c1, o1, e1⟩ := hbox s ver cs ow hb
        have hk2 := hon.2 s hw
        rw [e1] at hk2
        obtain ⟨v2, c2, o2, e2, _⟩ := hk2
        exact ⟨v2, c2, o2, e2⟩
    · cases hfin
  · cases hfin

/-- Behind the end: the slots are laid out again. -/
theorem Ends.next {σ0 σ' : Env} {ws : List Nat} {l : List (Nat × Sh)} {vs : List AVal} (he : Ends σ0 ws l σ' vs) {G : Env → IT} {R : Res} (hr : Rel C γ0 w0 γ β σ' h a w) (hrun : IT.step (afun C) run (setVec vs l 0 σ0 G) h = some R) :
    ∃ σh, IT.step (afun C) run (G σh) h = some R ∧ Rel C γ0 w0 γ β σh h a w ∧ σh.length = σ0.length ∧ (∀ s, s ∉ l.map (·.1) → σh.at s = σ0.at s) ∧ (∀ s ver cs ow, σ0.at s = .box ver cs ow → ∃ ver' cs' ow', σh.at s = .box ver' cs' ow' ∧ (s ∈ l.map (·.1) → ver < ver')) := by
  obtain ⟨σh, k1, k2, k3, k4⟩ := setVec_spec (σs := σ') (by simpa using he.vec) he.len.symm hrun
  refine ⟨σh, k1, hr.weaken (k2.trans he.len.symm) fun s => ?_, k2, k3, fun s ver cs ow hb => ?_⟩
  · by_cases hm : s ∈ l.map (·.1)
    · exact .inr (.inr (k4 s hm).1)
    · rw [k3 s hm]
      rcases he.same s hm with e | e
      · exact .inl e
      · exact .inr (.inl e)
  · by_cases hm : s ∈ l.map (·.1)
    · obtain ⟨_, q⟩ := k4 s hm
      obtain ⟨v1, c1, o1, e1⟩ := he.box s ver cs ow hb
      rcases q with ⟨ver', cs', ow', e2, e3⟩ | q
      · exact ⟨ver', cs', ow', e2, fun _ => by rw [hb] at e3; exact e3⟩
      · exact absurd e1 (q _ _ _)
    · exact ⟨ver, cs, ow, by rw [k3 s hm]; exact hb, fun h => absurd h hm⟩

/-- What the slots behind a piece of code are to those before it. -/
theorem only_behind {σ σ0 σh : Env} {ws W : List Nat} {l : List (Nat × Sh)} (h0 : σ0 = σ.clear ws) (hv : vecIn l ws σ = true) (hl : σh.length = σ0.length) (h1 : ∀ s, s ∉ l.map (·.1) → σh.at s = σ0.at s)
    (h2 : ∀ s ver cs ow, σ0.at s = .box ver cs ow → ∃ ver' cs' ow', σh.at s = .box ver' cs' ow' ∧ (s ∈ l.map (·.1) → ver < ver')) (hW : ∀ s ∈ ws, s ∈ W) : Only W σ σh := by
  refine ⟨by rw [hl, h0, Env.length_clear], fun s hs => ?_⟩
  have hws : s ∉ ws := fun hm => hs (hW s hm)
  have e0 : σ0.at s = σ.at s := by rw [h0, Env.at_clear, if_neg hws]
  by_cases hm : s ∈ l.map (·.1)
  · obtain ⟨p, hp, rfl⟩ := List.mem_map.1 hm
    have := List.all_eq_true.1 hv p hp
    simp only [Bool.or_eq_true, List.contains_iff_mem] at this
    rcases this with this | this
    · exact absurd this hws
    · cases hx : σ.at p.1 with
      | box ver cs ow =>
        obtain ⟨v1, c1, o1, e1, e2⟩ := h2 p.1 ver cs ow (by rw [e0]; exact hx)
        have := e2 hm
        exact ⟨v1, c1, o1, e1, by omega, fun e => by omega⟩
      | _ => rw [hx] at this; cases this
  · rw [h1 s hm, e0]; exact .refl _

theorem SimCalls.le {n m : Nat} (h : SimCalls C (IT.run (afun C) n)) (hmn : m ≤ n) : SimCalls C (IT.run (afun C) m) := ⟨h.1, fun f args h0 r h' hrun => h.2 f args h0 r h' (IT.run_le hmn hrun)⟩

theorem sim_code (hm : C.P.follows .mixedOrders = true) : ∀ (c : Code) (n : Nat), SimCalls C (IT.run (afun C) n) → ∀ {K : AExit → Env → IT} {R : Res} {σ : Env} {h : AHeap} {a : Act} {w : World} {γ : Gh} {β : Nat → Nat} {Q : Exit → Act → World → Prop},
    IT.step (afun C) (IT.run (afun C) n) (sxCode C fid c σ K) h = some R → Rel C γ0 w0 γ β σ h a w →
    (∀ x γ' β' σ' h' a' w', IT.step (afun C) (IT.run (afun C) n) (K x σ') h' = some R → Only (writesOf c ++ guardSlots c) σ σ' → Rel C γ0 w0 γ' β' σ' h' a' w' → Q (aexit x) a' w') → c.wp C.P Q a w := by
  intro c
  induction c with
  | skip =>
    intro n hS K R σ h a w γ β Q hrun hr hK
    exact wp_skip (hK .normal γ β σ h a w hrun (.refl _ _) hr)
  | region id ops draw =>
    intro n hS K R σ h a w γ β Q hrun hr hK
    simp only [sxCode] at hrun
    split at hrun
    · exact sim_region hm hS hrun hr fun γ' β' σ' h' a' w' h1 h2 h3 => hK .normal γ' β' σ' h' a' w' h1 h2 h3
    · rename_i l hl
      unfold sxJoin at hrun
      simp only at hrun
      split at hrun
      · rename_i hv
        simp only [IT.step] at hrun
        split at hrun
        · rename_i x vs h1 hbody
          refine sim_region hm hS hbody hr fun γ' β' σ' h' a' w' k1 k2 k3 => ?_
          obtain ⟨vs', e, he⟩ := finish_ends (h := h') k1 k2 (by rw [Env.length_clear]) (fun s hs => by rw [Env.at_clear, if_pos hs]) (fun s _ => by rw [Env.at_clear]; split <;> simp) (fun s ver cs ow hb => by
            rw [Env.at_clear] at hb
            split at hb
            · cases hb
            · exact ⟨ver, cs, ow, hb⟩)
          cases e
          obtain ⟨σh, p1, p2, p3, p4, p5⟩ := he.next k3 hrun
          exact hK .normal γ' β' σh h1 a' w' p1 (only_behind rfl hv p3 p4 p5 (fun s hs => hs)) p2
        · cases hrun
      · cases hrun
  | seq x y ihx ihy =>
    intro n hS K R σ h a w γ β Q hrun hr hK
    simp only [sxCode] at hrun
    refine wp_seq (ihx n hS hrun hr fun e γ' β' σ' h' a' w' h1 h2 h3 => ?_)
    have up : ∀ σ2, Only (writesOf x ++ guardSlots x) σ σ2 → Only (writesOf (.seq x y) ++ guardSlots (.seq x y)) σ σ2 := fun σ2 ho => ho.mono fun s hs => by
      simp only [writesOf, guardSlots, List.mem_append] at hs ⊢
      rcases hs with hs | hs <;> simp [hs]
    cases e with
    | normal =>
      refine ihy n hS h1 h3 fun e2 γ2 β2 σ2 h2' a2 w2 k1 k2 k3 => hK e2 γ2 β2 σ2 h2' a2 w2 k1 ((up _ h2).trans (k2.mono fun s hs => ?_)) k3
      simp only [writesOf, guardSlots, List.mem_append] at hs ⊢
      rcases hs with hs | hs <;> simp [hs]
    | exit i => exact hK (.exit i) γ' β' σ' h' a' w' h1 (up _ h2) h3
    | ret => exact hK .ret γ' β' σ' h' a' w' h1 (up _ h2) h3
  | cond c x y ihx ihy =>
    intro n hS K R σ h a w γ β Q hrun hr hK
    have upx : ∀ {σ1 σ2 : Env}, Only (writesOf x ++ guardSlots x) σ1 σ2 → Only (writesOf (.cond c x y) ++ guardSlots (.cond c x y)) σ1 σ2 := fun {σ1 σ2} ho => ho.mono fun s hs => by
      cases c <;> simp only [writesOf, guardSlots, List.mem_append, List.mem_cons] at hs ⊢ <;> rcases hs with hs | hs <;> simp [hs]
    have upy : ∀ {σ1 σ2 : Env}, Only (writesOf y ++ guardSlots y) σ1 σ2 → Only (writesOf (.cond c x y) ++ guardSlots (.cond c x y)) σ1 σ2 := fun {σ1 σ2} ho => ho.mono fun s hs => by
      cases c <;> simp only [writesOf, guardSlots, List.mem_append, List.mem_cons] at hs ⊢ <;> rcases hs with hs | hs <;> simp [hs]
    simp only [sxCode] at hrun
    split at hrun
    · rename_i hc
      obtain ⟨s, h1, _⟩ := opSlot_any hr hc
      exact wp_cond_true h1 (ihx n hS hrun hr fun e γ' β' σ' h' a' w' k1 k2 k3 => hK e γ' β' σ' h' a' w' k1 (upx k2) k3)
    · rename_i hc
      obtain ⟨s, h1, _⟩ := opSlot_any hr hc
      exact wp_cond_false h1 (ihy n hS hrun hr fun e γ' β' σ' h' a' w' k1 k2 k3 => hK e γ' β' σ' h' a' w' k1 (upy k2) k3)
    · rename_i s v hc
      have hsv : σ.at s = .val v := opSlot_tmp hc
      have h0 := hr.fr.slots s
      rw [hsv] at h0
      -- both arms, whatever comes behind
      have arms : ∀ {K' : AExit → Env → IT} {R' : Res} {Q' : Exit → Act → World → Prop}, IT.step (afun C) (IT.run (afun C) n) (.cnd v (sxCode C fid x (σ.set s (.cst true)) K') (sxCode C fid y (σ.set s (.cst false)) K')) h = some R' →
          (∀ e γ' β' σ' h' a' w', IT.step (afun C) (IT.run (afun C) n) (K' e σ') h' = some R' → Only (writesOf (.cond (.tmp s) x y) ++ guardSlots (.cond (.tmp s) x y)) σ σ' → Rel C γ0 w0 γ' β' σ' h' a' w' → Q' (aexit e) a' w') → (Code.cond (.tmp s) x y).wp C.P Q' a w := by
        intro K' R' Q' hrun' hK'
        have hset : ∀ b : Bool, Only (writesOf (.cond (.tmp s) x y) ++ guardSlots (.cond (.tmp s) x y)) σ (σ.set s (.cst b)) := fun b => .set (by simp [guardSlots])
        simp only [IT.step] at hrun'
        split at hrun'
        · have hv : a.eval (.tmp s) = .bool true := h0
          exact wp_cond_true hv (ihx n hS hrun' (hr.turn h0) fun e γ' β' σ' h' a' w' k1 k2 k3 => hK' e γ' β' σ' h' a' w' k1 ((hset true).trans (upx k2)) k3)
        · have hv : a.eval (.tmp s) = .bool false := h0
          exact wp_cond_false hv (ihy n hS hrun' (hr.turn h0) fun e γ' β' σ' h' a' w' k1 k2 k3 => hK' e γ' β' σ' h' a' w' k1 ((hset false).trans (upy k2)) k3)
        · cases hrun'
      split at hrun
      · exact arms hrun hK
      · rename_i l hl
        unfold sxJoin at hrun
        simp only at hrun
        split at hrun
        · rename_i hv
          simp only [IT.step] at hrun
          split at hrun
          · rename_i e vs h1 hbody
            refine arms hbody fun e2 γ' β' σ' h' a' w' k1 k2 k3 => ?_
            obtain ⟨vs', eq, he⟩ := finish_ends (h := h') (ws := s :: (writesOf x ++ writesOf y ++ guardSlots x ++ guardSlots y)) k1 (k2.mono fun t ht => by
                simp only [writesOf, guardSlots, List.mem_append, List.mem_cons] at ht ⊢
                rcases ht with (ht | ht) | ht | ht | ht <;> simp [ht]) (by rw [Env.length_clear]) (fun t ht => by rw [Env.at_clear, if_pos ht]) (fun t _ => by rw [Env.at_clear]; split <;> simp) (fun t ver cs ow hb => by
              rw [Env.at_clear] at hb
              split at hb
              · cases hb
              · exact ⟨ver, cs, ow, hb⟩)
            cases eq
            obtain ⟨σh, p1, p2, p3, p4, p5⟩ := he.next k3 hrun
            exact hK e γ' β' σh h1 a' w' p1 (only_behind rfl hv p3 p4 p5 (fun t ht => by
                simp only [writesOf, guardSlots, List.mem_append, List.mem_cons] at ht ⊢
                rcases ht with ht | ((ht | ht) | ht) | ht <;> simp [ht])) p2
          · cases hrun
        · cases hrun
    · cases hrun
  | block id b ih =>
    intro n hS K R σ h a w γ β Q hrun hr hK
    simp only [sxCode] at hrun
    refine wp_block (ih n hS hrun hr fun e γ' β' σ' h' a' w' h1 h2 h3 => ?_)
    cases e with
    | normal => exact hK .normal γ' β' σ' h' a' w' h1 h2 h3
    | exit i =>
      simp only at h1
      show if i = id then Q .normal a' w' else Q (.exit i) a' w'
      by_cases hi : i = id
      · rw [if_pos hi] at h1 ⊢; exact hK .normal γ' β' σ' h' a' w' h1 h2 h3
      · rw [if_neg hi] at h1 ⊢; exact hK (.exit i) γ' β' σ' h' a' w' h1 h2 h3
    | ret => exact hK .ret γ' β' σ' h' a' w' h1 h2 h3
  | loop b ih =>
    intro n hS K R σ h a w γ β Q hrun hr hK
    simp only [sxCode] at hrun
    generalize hl : C.live fid ((firstRegion b).getD 0) = l at hrun
    generalize hkey : (firstRegion b).getD 0 = key at hrun
    generalize h0 : σ.clear (writesOf b ++ guardSlots b) = σ0 at hrun
    split at hrun
    · rename_i hv
      split at hrun
      · cases hrun
      · rename_i init hinit
        have hlen0 : σ0.length = σ.length := by rw [← h0, Env.length_clear]
        have hin : ∀ s, s ∈ writesOf b ++ guardSlots b → σ0.at s = .undef := fun s hs => by rw [← h0, Env.at_clear, if_pos hs]
        refine wp_loop_fuel (fun m a w => ∃ γ β σ1 h vs, Rel C γ0 w0 γ β σ1 h a w ∧ Ends σ0 (writesOf b ++ guardSlots b) l σ1 vs ∧ m ≤ n + 1 ∧
          IT.run (afun C) m (.loop key vs (fun vs => setVec vs l 0 σ0 fun σh => sxCode C fid b σh fun x σ' => finish σ0 l x σ') fun x vs => setVec vs l 0 σ0 fun σ' => K x σ') h = some R) ?_ (n + 1) a w
          ⟨γ, β, σ, h, init, hr, ⟨hinit, hlen0.symm, fun s _ => by rw [← h0, Env.at_clear]; split <;> simp, fun s ver cs ow hb => by
            rw [← h0, Env.at_clear] at hb
            split at hb
            · cases hb
            · exact ⟨ver, cs, ow, hb⟩⟩, Nat.le_refl _, hrun⟩
        rintro m a1 w1 ⟨γ1, β1, σ1, h1, vs, hr1, he1, hmn, hrun1⟩
        cases m with
        | zero => simp [IT.run] at hrun1
        | succ m =>
          simp only [IT.run, IT.step] at hrun1
          -- one round
          have body : ∀ {x : AExit} {vs' : List AVal} {h' : AHeap}, IT.step (afun C) (IT.run (afun C) m) (setVec vs l 0 σ0 fun σh => sxCode C fid b σh fun x σ' => finish σ0 l x σ') h1 = some (x, vs', h') → ∀ {Q' : Exit → Act → World → Prop},
              (∀ γ' β' σ' a' w', Rel C γ0 w0 γ' β' σ' h' a' w' → Ends σ0 (writesOf b ++ guardSlots b) l σ' vs' → Q' (aexit x) a' w') → b.wp C.P Q' a1 w1 := by
            intro x vs' h' hb Q' hQ'
            obtain ⟨σh, p1, p2, p3, p4, p5⟩ := he1.next hr1 hb
            refine ih m (hS.le (by omega)) p1 p2 fun y γ' β' σ' h2 a' w' k1 k2 k3 => ?_
            obtain ⟨vs2, eq, he⟩ := finish_ends k1 k2 p3 hin (fun s hs => .inr (p4 s hs).symm) fun s ver cs ow hb => by
              obtain ⟨v1, c1, o1, e1, _⟩ := p5 s ver cs ow hb
              exact ⟨v1, c1, o1, e1⟩
            cases eq
            exact hQ' γ' β' σ' a' w' k3 he
          split at hrun1
          · rename_i vs' h' hb
            exact body hb fun γ' β' σ' a' w' hr' he' => ⟨m, Nat.lt_succ_self m, γ', β', σ', h', vs', hr', he', by omega, hrun1⟩
          · rename_i x vs' h' hne hb
            refine body hb fun γ' β' σ' a' w' hr' he' => ?_
            have hrun2 := IT.step_mono (fun t h r => IT.run_le (fn := afun C) (show m ≤ n by omega)) _ _ _ hrun1
            obtain ⟨σh, p1, p2, p3, p4, p5⟩ := he'.next hr' hrun2
            have hq := hK x γ' β' σh h' a' w' p1 (only_behind h0.symm hv p3 p4 p5 fun s hs => hs) p2
            cases x with
            | normal => exact absurd rfl hne
            | exit i => exact hq
            | ret => exact hq
          · cases hrun1
    · cases hrun
  | exit id =>
    intro n hS K R σ h a w γ β Q hrun hr hK
    exact wp_exit (hK (.exit id) γ β σ h a w hrun (.refl _ _) hr)
  | ret =>
    intro n hS K R σ h a w γ β Q hrun hr hK
    exact wp_ret (hK .ret γ β σ h a w hrun (.refl _ _) hr)
  | _ =>
    intros n hS K R σ h a w γ β Q hrun hr hK
    cases hrun
end
end Go.Am
