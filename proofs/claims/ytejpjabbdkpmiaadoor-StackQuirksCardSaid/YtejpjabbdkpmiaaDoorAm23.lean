/-
  Regions whose order is open, first part: what an operation becomes hangs on the slots that it names alone. No law is claimed here.
-/
import Derived.Test.YtejpjabbdkpmiaaDoorAm22
set_option linter.unusedSimpArgs false
set_option linter.unusedVariables false
namespace Go.Am
open Go

section
variable {C : Ctx} {σ τ : Env} {fid : FuncId} {ops : List Oper}

theorem opSlot_local {x : Operand} (h : ∀ t, x = .tmp t → τ.at t = σ.at t) : opSlot C τ x = opSlot C σ x := by
  cases x with
  | tmp t => simp only [opSlot, h t rfl]
  | const v =>
    cases v with
    | slice a b c => cases a <;> cases b <;> cases c <;> rfl
    | _ => rfl
  | global g => rfl
  | func f => rfl

def Loc (C : Ctx) (σ τ : Env) (xs : List Operand) : Prop := ∀ x ∈ xs, opSlot C τ x = opSlot C σ x

theorem Loc.of_tmps {xs : List Operand} (h : ∀ t ∈ tmpsOf xs, τ.at t = σ.at t) : Loc C σ τ xs := fun x hx =>
  opSlot_local fun t ht => h t (by subst ht; exact List.mem_filterMap.2 ⟨_, hx, rfl⟩)

theorem Loc.val {xs : List Operand} (h : Loc C σ τ xs) {x : Operand} (hx : x ∈ xs) : opVal C τ x = opVal C σ x := by
  unfold opVal; rw [h x hx]

theorem Loc.vals {xs : List Operand} (h : Loc C σ τ xs) : ∀ {ys : List Operand}, (∀ y ∈ ys, y ∈ xs) → opVals C τ ys = opVals C σ ys
  | [], _ => rfl
  | y :: ys, hy => by
    unfold opVals
    rw [h.val (hy y (by simp)), h.vals fun z hz => hy z (by simp [hz])]

theorem Loc.move {xs : List Operand} (h : Loc C σ τ xs) {x : Operand} (hx : x ∈ xs) (d : Nat) (take : Bool) : moveOp C τ x d take = moveOp C σ x d take := by
  unfold moveOp; rw [h x hx]

theorem Loc.own {xs : List Operand} (h : Loc C σ τ xs) {x : Operand} (hx : x ∈ xs) : isOwn C τ x = isOwn C σ x := by
  unfold isOwn; rw [h x hx]

theorem Loc.demote {xs : List Operand} (h : Loc C σ τ xs) {x : Operand} (hx : x ∈ xs) : demoteOf τ x = demoteOf σ x := by
  cases x with
  | tmp t =>
    have := h _ hx
    simp only [opSlot, Option.some.injEq] at this
    simp only [demoteOf, this]
  | _ => rfl

theorem Loc.captures {xs : List Operand} (h : Loc C σ τ xs) : ∀ {ys : List Operand}, (∀ y ∈ ys, y ∈ xs) → Am.captures C τ ys = Am.captures C σ ys
  | [], _ => rfl
  | y :: ys, hy => by
    unfold Am.captures
    rw [h y (hy y (by simp)), h.captures fun z hz => hy z (by simp [hz])]

theorem Loc.addr {xs : List Operand} (h : Loc C σ τ xs) {x : Operand} (hx : x ∈ xs) (hb : ∀ s ∈ (baseOf C σ x).toList, τ.at s = σ.at s) (hn : addrOf C σ x ≠ none) : addrOf C τ x = addrOf C σ x := by
  have hop := h x hx
  cases hs : opSlot C σ x with
  | none => unfold addrOf at hn; rw [hs] at hn; exact absurd (by split <;> simp_all) hn
  | some sl =>
    rw [hs] at hop
    cases sl with
    | lref s o =>
      have h1 : ∀ ρ : Env, opSlot C ρ x = some (.lref s o) → addrOf C ρ x = match ρ.at s with | .box ver cs ow => some (.priv s o ver cs ow) | _ => none := fun ρ hρ => by
        unfold addrOf; rw [hρ]; cases x <;> rfl
      rw [h1 σ hs] at hn ⊢
      rw [h1 τ hop]
      have h2 : s ∈ (baseOf C σ x).toList := by
        unfold baseOf
        rw [h1 σ hs]
        cases hb' : σ.at s with
        | box ver cs ow => simp
        | _ => rw [hb'] at hn; exact absurd rfl hn
      rw [hb s h2]
    | _ => unfold addrOf; rw [hs, hop]; cases x <;> rfl

theorem Loc.load {xs : List Operand} (h : Loc C σ τ xs) {x : Operand} (hx : x ∈ xs) (hb : ∀ s ∈ (baseOf C σ x).toList, τ.at s = σ.at s) {t : TypeId} {d : Nat} {take : Bool} {r : OpR} (hc : loadOp C σ t x d take = some r) : loadOp C τ t x d take = some r := by
  have hn : addrOf C σ x ≠ none := fun he => by
    unfold loadOp at hc; rw [he] at hc
    split at hc <;> simp_all
  unfold loadOp at hc ⊢
  rw [h.addr hx hb hn]
  exact hc

theorem Loc.store {xs : List Operand} (h : Loc C σ τ xs) {x y : Operand} (hx : x ∈ xs) (hy : y ∈ xs) (hb : ∀ s ∈ (baseOf C σ x).toList, τ.at s = σ.at s) {t : TypeId} {r : OpR} (hc : storeOp C σ t x y = some r) : storeOp C τ t x y = some r := by
  have hn : addrOf C σ x ≠ none := fun he => by
    unfold storeOp at hc; rw [he] at hc
    split at hc <;> simp_all
  unfold storeOp at hc ⊢
  rw [h.addr hx hb hn, h.val hy, h.own hy, h.demote hy]
  exact hc

theorem Loc.call {c : Call} (h : Loc C σ τ c.operands.toList) (dst : Option Nat) : callOp C fid τ c dst = callOp C fid σ c dst := by
  have ha : ∀ y ∈ c.args.toList, y ∈ c.operands.toList := fun y hy => by
    unfold Call.operands
    rw [Array.toList_append]
    exact List.mem_append_right _ hy
  have hv : opVals C τ c.args.toList = opVals C σ c.args.toList := h.vals ha
  unfold callOp
  split
  · rw [hv]
  · split
    · rename_i hargs
      have h1 : ∀ {s x : Operand}, c.args.toList = [s, x] → isOwn C τ s = isOwn C σ s ∧ demoteOf τ s = demoteOf σ s ∧ opVals C τ [s, x] = opVals C σ [s, x] := fun {s x} he => by
        rw [he] at ha
        exact ⟨h.own (ha s (by simp)), h.demote (ha s (by simp)), h.vals fun y hy => ha y hy⟩
      obtain ⟨e1, e2, e3⟩ := h1 hargs
      rw [e1, e2, e3]
    · rfl
  · rw [hv]
  · rw [hv]
  · rw [hv]
  · rename_i g _ hcl
    have hg : g ∈ c.operands.toList := by unfold Call.operands; rw [hcl]; simp
    rw [hv, h.val hg]
  · rfl

theorem classify_local {o : Oper} {r : OpR} (hc : classify C fid ops σ o = some r) (ht : ∀ t ∈ tmpsOf o.op.operands.toList, τ.at t = σ.at t) (hb : ∀ s ∈ contentOf C σ o, τ.at s = σ.at s) : classify C fid ops τ o = some r := by
  have h : Loc C σ τ o.op.operands.toList := .of_tmps ht
  unfold classify at hc ⊢
  cases ho : o.op with
  | move x =>
    rw [ho] at h
    simp only [ho] at hc ⊢
    have := fun d => h.move (x := x) (by simp [Op.operands]) d
    simpa only [this] using hc
  | assign x =>
    rw [ho] at h
    simp only [ho] at hc ⊢
    have := fun d => h.move (x := x) (by simp [Op.operands]) d
    simpa only [this] using hc
  | pick c a b =>
    rw [ho] at h
    simp only [ho] at hc ⊢
    have h1 := fun d => h.move (x := a) (by simp [Op.operands]) d
    have h2 := fun d => h.move (x := b) (by simp [Op.operands]) d
    rw [h c (by simp [Op.operands]), h.vals (ys := [c, a, b]) (by simp [Op.operands])]
    simpa only [h1, h2] using hc
  | alloc t => rw [ho] at hc; exact hc
  | box t x =>
    rw [ho] at h
    simp only [ho] at hc ⊢
    rw [h.val (x := x) (by simp [Op.operands])]
    exact hc
  | build t parts =>
    rw [ho] at h
    simp only [ho] at hc ⊢
    rw [h.vals (ys := parts.toList.map (·.2)) (by simp [Op.operands])]
    exact hc
  | buildSlice t len parts =>
    rw [ho] at h
    simp only [ho] at hc ⊢
    rw [h.vals (ys := parts.toList.map (·.2)) (by simp [Op.operands])]
    exact hc
  | load t x =>
    rw [ho] at h
    simp only [ho] at hc ⊢
    split at hc
    · exact h.load (by simp [Op.operands]) (fun s hs => hb s (by simpa only [contentOf, ho] using hs)) hc
    · cases hc
  | store t x y =>
    rw [ho] at h
    simp only [ho] at hc ⊢
    split at hc
    · exact h.store (by simp [Op.operands]) (by simp [Op.operands]) (fun s hs => hb s (by simpa only [contentOf, ho] using hs)) hc
    · cases hc
  | nilCheck x =>
    rw [ho] at h
    simp only [ho] at hc ⊢
    have e2 := h.vals (ys := [x]) (by simp [Op.operands])
    rw [h x (by simp [Op.operands])]
    cases hs : opSlot C σ x with
    | none => rw [hs] at hc; cases x <;> cases hd : o.dst <;> rw [hd] at hc <;> first | exact hc | (show aop _ _ (opVals C τ [_]) = some r; rw [e2]; exact hc)
    | some sl => rw [hs] at hc; cases sl <;> cases x <;> cases hd : o.dst <;> rw [hd] at hc <;> first | exact hc | (show aop _ _ (opVals C τ [_]) = some r; rw [e2]; exact hc)
  | binOp op t x y k =>
    rw [ho] at h
    simp only [ho] at hc ⊢
    rw [h.vals (ys := [x, y]) (by simp [Op.operands])]
    exact hc
  | unOp op t x =>
    rw [ho] at h
    simp only [ho] at hc ⊢
    rw [h.vals (ys := [x]) (by simp [Op.operands])]
    exact hc
  | convert src dst x =>
    rw [ho] at h
    simp only [ho] at hc ⊢
    rw [h.vals (ys := [x]) (by simp [Op.operands]), h.val (x := x) (by simp [Op.operands])]
    exact hc
  | makeFunc fn first captured =>
    rw [ho] at h
    simp only [ho] at hc ⊢
    rw [h.vals (ys := first.toList) (fun _ hm => by simp [Op.operands, hm]), h.captures (ys := captured.toList) (fun _ hm => by simp [Op.operands, hm])]
    exact hc
  | makeMap t r' =>
    rw [ho] at hc
    cases r' with
    | none => exact hc
    | some _ => cases hc
  | makeSlice t l c =>
    rw [ho] at h
    simp only [ho] at hc ⊢
    rw [h.val (x := l) (by simp [Op.operands]), h.val (x := c) (by simp [Op.operands])]
    exact hc
  | insert t m k v =>
    rw [ho] at h
    simp only [ho] at hc ⊢
    rw [h.vals (ys := [m, k, v]) (by simp [Op.operands])]
    exact hc
  | mapUpdate t m k v =>
    rw [ho] at h
    simp only [ho] at hc ⊢
    rw [h.vals (ys := [m, k, v]) (by simp [Op.operands])]
    exact hc
  | lookup t m k ok =>
    rw [ho] at h
    simp only [ho] at hc ⊢
    rw [h.vals (ys := [m, k]) (by simp [Op.operands])]
    exact hc
  | slice t x lo hi mx =>
    rw [ho] at h hc
    cases mx with
    | none =>
      have e2 := h.vals (ys := x :: (lo.toList ++ hi.toList)) (by cases lo <;> cases hi <;> simp [Op.operands])
      simp only at hc ⊢
      rw [e2]
      exact hc
    | some _ => cases hc
  | fieldAddr t x f =>
    rw [ho] at h
    simp only [ho] at hc ⊢
    have e2 := h.vals (ys := [x]) (by simp [Op.operands])
    rw [h x (by simp [Op.operands])]
    cases hf : fieldOff C.P t f with
    | none => rw [hf] at hc; cases hc
    | some q =>
      rw [hf] at hc
      cases hd : o.dst with
      | none => rw [hd] at hc; cases hc
      | some d =>
        rw [hd] at hc
        cases hs : opSlot C σ x with
        | none => rw [hs] at hc; cases x <;> first | exact hc | (show aop _ _ (opVals C τ [_]) = some r; rw [e2]; exact hc)
        | some sl => rw [hs] at hc; cases sl <;> cases x <;> first | exact hc | (show aop _ _ (opVals C τ [_]) = some r; rw [e2]; exact hc)
  | field t x f =>
    rw [ho] at h
    simp only [ho] at hc ⊢
    rw [h.vals (ys := [x]) (by simp [Op.operands])]
    exact hc
  | indexAddr t x i =>
    rw [ho] at h
    simp only [ho] at hc ⊢
    rw [h.vals (ys := [x, i]) (by simp [Op.operands])]
    exact hc
  | index t x i =>
    rw [ho] at h
    simp only [ho] at hc ⊢
    rw [h.vals (ys := [x, i]) (by simp [Op.operands])]
    exact hc
  | extract x i =>
    rw [ho] at h
    simp only [ho] at hc ⊢
    rw [h.vals (ys := [x]) (by simp [Op.operands])]
    exact hc
  | call c =>
    rw [ho] at h
    simp only [ho] at hc ⊢
    rw [h.call]
    exact hc
  | _ => simp only [ho] at hc; cases hc
end
end Go.Am
