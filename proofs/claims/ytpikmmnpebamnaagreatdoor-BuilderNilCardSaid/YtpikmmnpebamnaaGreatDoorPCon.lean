/-
  (*arena.Arena).Contains: a range over an iterator whose state lies in a variable of its own. No law is claimed here.
-/
import Derived.Test.YtpikmmnpebamnaaGreatDoorPRep
import Derived.RangeFuncKeeps
import Derived.RangeFuncLeaves
import Derived.RangeFuncBox
import Derived.OwnWalkIn
import Derived.Shelf.Abstract
import Derived.TacticsInMore
import Derived.LoopNIn
import Derived.LoopIn
import Derived.Sort.LoopGhostIn
set_option linter.unusedSimpArgs false
set_option linter.unusedVariables false
namespace Go.Am
open Go Go.RowKit Go.Shelf

theorem has84 (ga : Nat) (p : Option Addr) (n cap : Nat) (x : Int) (w : World) (hc : w.cell? ⟨ga, 0, none⟩ = some (.slice p n cap)) :
    Calls Proofs.Tryz.prog 84 #[.pointer (some ⟨ga, 0, none⟩), .int .i64 x] w fun e w' => e = .returned (.bool (decide (1 ≤ x ∧ x ≤ n))) ∧ w = w' := by
  go_enter Proofs.Tryz.func84, Proofs.Tryz.ntmps84
  go_wp2
  all_goals refine bodyPost_ret (results_tmp rfl _ _ _) rfl ?_
  all_goals simp_all
  all_goals omega

theorem at43 (ga gn off n cap : Nat) (x : Int) (w : World) (hc : w.cell? ⟨ga, 0, none⟩ = some (.slice (some ⟨gn, off, none⟩) n cap)) (h1 : 1 ≤ x) (h2 : x ≤ n) (hcap : n ≤ cap) (hm : cap ≤ maxLen) :
    Calls Proofs.Tryz.prog 43 #[.pointer (some ⟨ga, 0, none⟩), .int .i64 x] w fun e w' => e = .returned (.pointer (some ⟨gn, off + (x.toNat - 1) * 13, none⟩)) ∧ w = w' := by
  have hb : maxLen ≤ 9223372036854775807 := by decide
  have hw : wrap64 (x - 1) = x - 1 := Go.IntWalk.wrap64_in _ ⟨by omega, by omega⟩
  go_enter Proofs.Tryz.func43, Proofs.Tryz.ntmps43
  go_wp2
  all_goals refine bodyPost_ret (results_tmp rfl _ _ _) rfl ?_
  all_goals exact ⟨rfl, rfl⟩

theorem up209 (ga : Nat) (x : Int) (w : World) :
    Calls Proofs.Tryz.prog 209 #[.pointer (some ⟨ga, 0, none⟩), .int .i64 x, .bool true] w fun e w' => e = .returned (.func (.func 231) #[] #[.pointer (some ⟨w.heap.size + 1, 0, none⟩), .pointer (some ⟨w.heap.size, 0, none⟩), .pointer (some ⟨w.heap.size + 1 + 1, 0, none⟩)]) ∧
      w' = ((w.alloc (.cells #[.pointer (some ⟨ga, 0, none⟩)] 38)).alloc (.cells #[.int .i64 x] 3)).alloc (.cells #[.bool true] 4) := by
  have hmf : ∀ (fn : Fn) (first cap : Array Value) (w : World), (Instr.makeFunc fn first cap).run Proofs.Tryz.prog w = .ok (.func fn first cap) w := fun _ _ _ _ => rfl
  go_enter Proofs.Tryz.func209, Proofs.Tryz.ntmps209
  go_wp2
  go_ret
  exact ⟨rfl, rfl⟩

theorem climb_zero {cs : List AVal} {off n : Nat} {up : Int} {k : Nat} {b : Bool} (h : climb cs off n up k 0 = some b) : b = false := by
  cases k <;> simp [climb] at h <;> exact h

theorem climb_step {cs : List AVal} {off n : Nat} {up x : Int} {k : Nat} {b : Bool} (h : climb cs off n up k x = some b) (hx : x ≠ 0) : ∃ k', k = k' + 1 ∧
    ((x = up ∧ b = true) ∨ (x ≠ up ∧ 1 ≤ x ∧ x ≤ n ∧ ∃ p q, nodeCell cs off x 1 = some p ∧ nodeCell cs off x 12 = some q ∧ climb cs off n up k' (if p = 0 then q else p) = some b)) := by
  cases k with
  | zero => rw [climb] at h; · cases h
            · exact fun e => hx e
  | succ k =>
    refine ⟨k, rfl, ?_⟩
    rw [climb] at h
    · split at h
      · rename_i e
        cases h
        exact .inl ⟨e, rfl⟩
      · rename_i e
        split at h
        · rename_i hr
          split at h
          · rename_i p q e1 e2
            exact .inr ⟨e, hr.1, hr.2, p, q, e1, e2, h⟩
          · cases h
        · cases h
    · exact fun e => hx e

/-- What the iterator reads. -/
structure Seen (Ba Bo ga gn off n cap : Nat) (cs : List AVal) (W : World) : Prop where
  a : W.cell? ⟨Ba, 0, none⟩ = some (.pointer (some ⟨ga, 0, none⟩))
  o : W.cell? ⟨Bo, 0, none⟩ = some (.bool true)
  c : W.cell? ⟨ga, 0, none⟩ = some (.slice (some ⟨gn, off, none⟩) n cap)
  x : ∀ (h : Int) (k : Nat) (v : Int), 1 ≤ h → h ≤ n → (k = 1 ∨ k = 12) → nodeCell cs off h k = some v → W.cell? ⟨gn, off + (h.toNat - 1) * 13 + k, none⟩ = some (.int .i64 v)

theorem Seen.keep {Ba Bo ga gn off n cap : Nat} {cs : List AVal} {A B : World} (h : Seen Ba Bo ga gn off n cap cs A) (hk : ∀ b, b = Ba ∨ b = Bo ∨ b = ga ∨ b = gn → B.heap[b]? = A.heap[b]?) : Seen Ba Bo ga gn off n cap cs B :=
  ⟨by rw [cell?_of_heap (hk _ (by simp))]; exact h.a, by rw [cell?_of_heap (hk _ (by simp))]; exact h.o, by rw [cell?_of_heap (hk _ (by simp))]; exact h.c,
   fun x k v h1 h2 h3 h4 => by rw [cell?_of_heap (hk _ (by simp))]; exact h.x x k v h1 h2 h3 h4⟩

theorem set_all {Ba Bo ga gn off n cap Bh : Nat} {cs : List AVal} {A : World} {u : Value} {J : World → Prop} (hJ : ∀ A B row, J A → A.grownBy B row → (∀ r, row = some r → r = Bh) → J B)
    (hd : ∀ b, b = Ba ∨ b = Bo ∨ b = ga ∨ b = gn → b ≠ Bh) (hs : Seen Ba Bo ga gn off n cap cs A) (hc : A.cell? ⟨Bh, 0, none⟩ = some u) (hf : A.frozen? ⟨Bh, 0, none⟩ = false) (hj : J A) (v : Value) :
    Seen Ba Bo ga gn off n cap cs (A.setCell ⟨Bh, 0, none⟩ v) ∧ (A.setCell ⟨Bh, 0, none⟩ v).cell? ⟨Bh, 0, none⟩ = some v ∧ (A.setCell ⟨Bh, 0, none⟩ v).frozen? ⟨Bh, 0, none⟩ = false ∧ J (A.setCell ⟨Bh, 0, none⟩ v) :=
  ⟨hs.keep fun b hb => Below.heap_setCell _ _ _ b (hd b hb), World.cell?_setCell_same _ _ _ hc, by rw [World.frozen?_setCell]; exact hf, hJ _ _ _ hj (grownBy_setCell' A Bh v) fun r e => by cases e; rfl⟩

set_option maxRecDepth 100000 in
set_option maxHeartbeats 1600000 in
theorem up231 (m l Bh Ba Bo n₁ ga gn off n cap : Nat) (cs : List AVal) (up : Int) (J Jx : World → Prop)
    (hJ : ∀ A B row, J A → A.grownBy B row → (∀ r, row = some r → r = Bh) → J B)
    (hY : ∀ x W, J W → YieldAt Fence.wide (m - 1) Proofs.Tryz.prog l #[.int .i64 x] W fun e W' => (e = .returned (.bool true) ∧ J W' ∧ Below n₁ W W' ∧ x ≠ up) ∨ (e = .returned (.bool false) ∧ Jx W' ∧ x = up))
    (hd : ∀ b, b = Ba ∨ b = Bo ∨ b = ga ∨ b = gn → b < n₁ ∧ b ≠ Bh) (hBh : Bh < n₁) (hcap : n ≤ cap) (hm : cap ≤ maxLen)
    (W : World) (x0 : Int) (hs : Seen Ba Bo ga gn off n cap cs W) (hh : W.cell? ⟨Bh, 0, none⟩ = some (.int .i64 x0)) (hf : W.frozen? ⟨Bh, 0, none⟩ = false)
    (fuel : Nat) (b : Bool) (hcl : climb cs off n up fuel x0 = some b) (h0 : J W) :
    CallsIn Fence.wide m Proofs.Tryz.prog 231 #[.func (.yield l) #[] #[], .pointer (some ⟨Bh, 0, none⟩), .pointer (some ⟨Ba, 0, none⟩), .pointer (some ⟨Bo, 0, none⟩)] W fun e W' => (∃ v, e = .returned v) ∧ ((b = false ∧ J W') ∨ (b = true ∧ Jx W')) := by
  refine callsIn_of_wp Proofs.Tryz.func231 rfl trivial ?_ rfl
  simp only [Proofs.Tryz.ntmps231, List.size_toArray, List.length_cons, List.length_nil, Nat.reduceAdd, Nat.reduceSub, Array.replicate_succ, Array.replicate_zero, List.push_toArray, List.append_toArray, List.nil_append, List.cons_append]
  gi_wp2
  gi_loopg [] fuel (fun k wr => ∃ x, climb cs off n up k x = some b ∧ Seen Ba Bo ga gn off n cap cs wr ∧ wr.cell? ⟨Bh, 0, none⟩ = some (.int .i64 x) ∧ wr.frozen? ⟨Bh, 0, none⟩ = false ∧ J wr)
  case atStart => exact ⟨x0, hcl, hs, hh, hf, h0⟩
  case round =>
    obtain ⟨x, hcl, hs, hh, hf, hj⟩ := hrel
    by_cases hx : x = 0
    · subst hx
      have := climb_zero hcl; subst this
      gi_wp2
      refine ⟨nofun, ?_⟩
      gi_wp2
      go_end0
      exact ⟨⟨_, rfl⟩, hj⟩
    · obtain ⟨k', rfl, hcase⟩ := climb_step hcl hx
      have hne : (x != 0) = true := by simp [hx]
      obtain ⟨fn, tmps, assign, body, hy, hR⟩ := hY x wr hj
      gi_wp2
      refine ⟨nofun, ?_⟩
      refine hR.mono ?_
      rintro e W3 (⟨rfl, hJ3, hk3, hxu⟩ | ⟨rfl, hJx3, hxu⟩)
      · rcases hcase with ⟨rfl, _⟩ | ⟨_, h1, h2, p, q, e1, e2, hcl'⟩
        · exact absurd rfl hxu
        have hs3 := hs.keep fun b hb => hk3.block b (hd b hb).1
        have hh3 : W3.cell? ⟨Bh, 0, none⟩ = some (.int .i64 x) := by rw [cell?_of_heap (hk3.block Bh hBh)]; exact hh
        have hf3 : W3.frozen? ⟨Bh, 0, none⟩ = false := by rw [← hf]; simp only [World.frozen?, hk3.block Bh hBh]
        have hp := hs3.x x 1 p h1 h2 (.inl rfl) e1
        have hq := hs3.x x 12 q h1 h2 (.inr rfl) e2
        have ca3 := hs3.a
        have co3 := hs3.o
        have nBo : ¬ Bo = Bh := (hd Bo (by simp)).2
        have ngn : ¬ gn = Bh := (hd gn (by simp)).2
        gi_wp2
        refine ⟨trivial, nofun, (callsIn_wide.2 (at43 ga gn off n cap x _ hs3.c h1 h2 hcap hm)).mono ?_⟩
        rintro e w' ⟨rfl, rfl⟩
        obtain ⟨s4, c4, z4, j4⟩ := set_all hJ (fun b hb => (hd b hb).2) hs3 hh3 hf3 hJ3 (.int .i64 p)
        by_cases hp0 : p = 0
        · subst hp0
          obtain ⟨s5, c5, z5, j5⟩ := set_all hJ (fun b hb => (hd b hb).2) s4 c4 z4 j4 (.int .i64 q)
          gi_wp2
          gi_roundg k'
          case measure => omega
          case rel => exact ⟨q, hcl', s5, c5, z5, j5⟩
        · have hpf : (p == 0) = false := by simp [hp0]
          gi_wp2
          gi_roundg k'
          case measure => omega
          case rel => exact ⟨p, by rw [if_neg hp0] at hcl'; exact hcl', s4, c4, z4, j4⟩
      · rcases hcase with ⟨_, rfl⟩ | ⟨hxu', _⟩
        · gi_wp2
          go_end0
          exact ⟨⟨_, rfl⟩, hJx3⟩
        · exact absurd hxu hxu'

def upPost (n₁ : Nat) (up : Int) (I Ix : World → Prop) (x : Int) (W : World) : Exit → Act → World → Prop
  | .normal, _, W' => KeepsOthers W W' ∧ Below n₁ W W' ∧ I W' ∧ x ≠ up
  | .ret, _, W' => KeepsOthers W W' ∧ Ix W' ∧ x = up
  | .exit _, _, _ => False
  | .goto _, _, _ => False
  | .panic _, _, _ => False
  | .outgrown, _, _ => False

theorem wpIn_range_b {P : Program} {n gf : Nat} {lb : Array Value} {g : Operand} {ps : Array Tmp} {assign body : Code} {Q : Exit → Act → World → Prop} {a : Act} {w : World} (Bh : Nat) (b : Bool) (up : Int)
    (hg : a.eval g = .func (.func gf) #[] lb) (eg : ∀ args w, (callFunc gf args).run P w = .ok (.enter gf args) w) (hBh : Bh < w.heap.size)
    (hseq : ∀ (l : Nat) (J Jx : World → Prop) (W : World), Below w.heap.size w W → (∀ A B row, J A → A.grownBy B row → (∀ r, row = some r → r = Bh) → J B) →
      (∀ x W1, J W1 → YieldAt Fence.wide (n - 1 - 1) P l #[.int .i64 x] W1 fun e W' => (e = .returned (.bool true) ∧ J W' ∧ Below w.heap.size W1 W' ∧ x ≠ up) ∨ (e = .returned (.bool false) ∧ Jx W' ∧ x = up)) → J W →
      CallsIn Fence.wide (n - 1) P gf (#[.func (.yield l) #[] #[]] ++ lb) W fun e W' => (∃ v, e = .returned v) ∧ ((b = false ∧ J W') ∨ (b = true ∧ Jx W')))
    (hps : ps.size = 1) (I Ix : World → Prop) (hI : ∀ A B row, I A → A.grownBy B row → (∀ r, row = some r → r = Bh ∨ w.heap.size ≤ r) → I B)
    (hIx : ∀ A B row, Ix A → A.grownBy B row → (∀ r, row = some r → r = Bh ∨ w.heap.size ≤ r) → Ix B) (h0 : I w) (a₁ : Int → Act)
    (hassign : ∀ (l : Nat) (x : Int) (W : World) (K : Act → World → Prop), K (a₁ x) W →
      assign.wpIn (Fence.wide.inRound l) (n - 1 - 1) P (Exit.then K (fun _ _ _ => False)) { tmps := (ps.zip #[.int .i64 x]).foldl (fun t (p, v) => t.setIfInBounds p v) a.tmps, defers := [] } W)
    (hbody : ∀ (l : Nat) (x : Int) (W : World), I W → body.wpIn (Fence.wide.inRound l) (n - 1 - 1) P (upPost w.heap.size up I Ix x W) (a₁ x) W)
    (hdone : ∀ (D : Nat) (W : World), b = false → I W → W.heap[D]? = some (.deferred (some [])) → w.heap.size ≤ D → Q .normal { a with defers := { target := .collected D, args := #[] } :: a.defers } W)
    (hstop : ∀ (D : Nat) (W : World), b = true → Ix W → W.heap[D]? = some (.deferred (some [])) → w.heap.size ≤ D → Code.ret.wpIn Fence.wide n P Q { a with defers := { target := .collected D, args := #[] } :: a.defers } W) :
    (Code.rangeFunc g ps assign body).wpIn Fence.wide n P Q a w := by
  refine wpIn_rangeFunc ?_
  intro fn hfn
  have hro : Fence.wide.round = none := rfl
  rw [hro]
  obtain ⟨rec, hrec⟩ : ∃ rec : LoopState → Option Code → Loop, rec = fun st pe => { state := st, pending := pe, fn, tmps := a.tmps, params := ps, assign, body, defers := w.heap.size } := ⟨_, rfl⟩
  obtain ⟨W1, hW1⟩ : ∃ W1, (w.alloc (.deferred (some []))).alloc (.loop (rec .ready none)) = W1 := ⟨_, rfl⟩
  have hL1 : W1.heap[w.heap.size + 1]? = some (.loop (rec .ready none)) := by
    rw [← hW1]; have := World.alloc_heap_new (w.alloc (.deferred (some []))) (.loop (rec .ready none)); rwa [World.size_alloc] at this
  have hK1 : W1.heap[w.heap.size]? = some (.deferred (some [])) := by
    rw [← hW1]; exact (Below.heap_alloc _ _ _ (by simp)).trans (World.alloc_heap_new w _)
  have hI1 : I W1 := by rw [← hW1]; exact hI _ _ none (hI _ _ none h0 (World.grownBy_alloc _ _ none) nofun) (World.grownBy_alloc _ _ none) nofun
  have hb1 : Below w.heap.size w W1 := by
    rw [← hW1]; exact (((Below.refl _ w).alloc (Nat.le_refl _) _).alloc (by simp) _)
  refine ⟨w.heap.size + 1, [{ target := .collected w.heap.size, args := #[] }], W1, { target := .fn (.func gf) lb, args := #[.func (.yield (w.heap.size + 1)) #[] #[]] }, W1, gf,
    #[.func (.yield (w.heap.size + 1)) #[] #[]] ++ lb, W1, ?_, ?_, ?_, ?_, nofun, ?_⟩
  · rw [← hW1, hrec]; exact run_enterLoop_outer _ _ _ _ _
  · simp only [resolve, hg]
    simp [go_sem]
  · intro f' hf'; trivial
  · simp [invoke, go_sem, eg]
  · refine (hseq (w.heap.size + 1)
      (fun W => I W ∧ W.heap[w.heap.size + 1]? = some (.loop (rec .ready none)) ∧ W.heap[w.heap.size]? = some (.deferred (some [])))
      (fun W => Ix W ∧ W.heap[w.heap.size + 1]? = some (.loop (rec .done (some .ret))) ∧ W.heap[w.heap.size]? = some (.deferred (some [])))
      W1 hb1
      (fun A B row hs hg' hr => ⟨hI A B row hs.1 hg' (fun r e => .inl (hr r e)), (hg'.block _ (Array.getElem?_eq_some_iff.1 hs.2.1).1 (fun e => by have := hr _ e.symm; omega)).trans hs.2.1,
        (hg'.block _ (Array.getElem?_eq_some_iff.1 hs.2.2).1 (fun e => by have := hr _ e.symm; omega)).trans hs.2.2⟩)
      ?_ ⟨hI1, hL1, hK1⟩).mono ?_
    · rintro x W ⟨hi, hl, hk⟩
      have hlt : w.heap.size + 1 < W.heap.size := (Array.getElem?_eq_some_iff.1 hl).1
      have hy := run_yield (P := P) (args := #[.int .i64 x]) hl (by rw [hrec]; exact hps.symm)
      rw [hrec] at hy
      refine ⟨fn, _, assign, body, hy, roundIn_of_wpIn hfn (hassign _ x W _ ⟨_, run_beginRound hl (by rw [hrec]), ?_⟩)⟩
      have hl2 : (W.putObj (w.heap.size + 1) (.loop { rec .ready none with state := .busy })).heap[w.heap.size + 1]? = some (.loop { rec .ready none with state := .busy }) := World.putObj_heap_same hlt
      have hk2 : (W.putObj (w.heap.size + 1) (.loop { rec .ready none with state := .busy })).heap[w.heap.size]? = some (.deferred (some [])) := (World.putObj_heap_other (by omega)).trans hk
      have hw2 : Below w.heap.size W (W.putObj (w.heap.size + 1) (.loop { rec .ready none with state := .busy })) := belowK_b (Nat.le_refl _) W _ _ _ (by omega) hl rfl rfl
      refine wpIn_mono (hbody _ x _ (hI _ _ _ hi (grownBy_putObj' W _ _) (fun r e => .inr (by cases e; omega)))) ?_
      have fin : ∀ (jump : Option Code) (W3 : World), KeepsOthers (W.putObj (w.heap.size + 1) (.loop { rec .ready none with state := .busy })) W3 →
          (Instr.endRound (w.heap.size + 1) jump).run P W3 = .ok (.bool jump.isNone) (W3.putObj (w.heap.size + 1) (.loop (rec (if jump.isNone then .ready else .done) jump))) ∧
          W3.heap[w.heap.size + 1]? = some (.loop { rec .ready none with state := .busy }) ∧
          (W3.putObj (w.heap.size + 1) (.loop (rec (if jump.isNone then .ready else .done) jump))).heap[w.heap.size + 1]? = some (.loop (rec (if jump.isNone then .ready else .done) jump)) ∧
          (W3.putObj (w.heap.size + 1) (.loop (rec (if jump.isNone then .ready else .done) jump))).heap[w.heap.size]? = some (.deferred (some [])) := fun jump W3 hk3 => by
        have hl3 := hk3.same _ _ hl2 rfl
        have := run_endRound (P := P) jump hl3
        rw [hrec] at this ⊢
        exact ⟨this, by rw [hrec] at hl3; exact hl3, World.putObj_heap_same (Array.getElem?_eq_some_iff.1 hl3).1, (World.putObj_heap_other (by omega)).trans (hk3.same _ _ hk2 rfl)⟩
      rintro e a3 W3 hp
      cases e with
      | normal =>
        obtain ⟨hk3, hkp3, hi3, hne⟩ := hp
        obtain ⟨hr, hl3, hl4, hk4⟩ := fin none W3 hk3
        exact ⟨_, _, hr, .inl ⟨rfl, ⟨hI _ _ _ hi3 (grownBy_putObj' W3 _ _) (fun r e => .inr (by cases e; omega)), hl4, hk4⟩, (hw2.trans hkp3).trans (belowK_b (Nat.le_refl _) W3 _ _ _ (by omega) hl3 rfl rfl), hne⟩⟩
      | ret =>
        obtain ⟨hk3, hi3, he⟩ := hp
        obtain ⟨hr, hl3, hl4, hk4⟩ := fin (some .ret) W3 hk3
        exact ⟨_, _, hr, .inr ⟨rfl, ⟨hIx _ _ _ hi3 (grownBy_putObj' W3 _ _) (fun r e => .inr (by cases e; omega)), hl4, hk4⟩, he⟩⟩
      | exit id => exact hp.elim
      | goto t => exact hp.elim
      | panic ch => exact hp.elim
      | outgrown => exact hp.elim
    · rintro e W2 ⟨⟨v, rfl⟩, (⟨hb, hi, hl, hk⟩ | ⟨hb, hi, hl, hk⟩)⟩
      · exact ⟨none, _, by have := run_endLoop (P := P) hl (by rw [hrec]; simp); rw [hrec] at this; exact this, hdone _ _ hb (hI _ _ _ hi (grownBy_putObj' W2 _ _) (fun r e => .inr (by cases e; omega))) ((World.putObj_heap_other (by omega)).trans hk) (Nat.le_refl _)⟩
      · exact ⟨some .ret, _, by have := run_endLoop (P := P) hl (by rw [hrec]; simp); rw [hrec] at this; exact this, hstop _ _ hb (hIx _ _ _ hi (grownBy_putObj' W2 _ _) (fun r e => .inr (by cases e; omega))) ((World.putObj_heap_other (by omega)).trans hk) (Nat.le_refl _)⟩

theorem cell_alloc' {W : World} {k j : Nat} {v : Value} (o : Obj) (h : W.cell? ⟨k, j, none⟩ = some v) : (W.alloc o).cell? ⟨k, j, none⟩ = some v := by
  rw [World.cell?_alloc_past _ _ _ (lt_of_cell h)]; exact h
theorem frozen_alloc' {W : World} {k j : Nat} {v : Value} (o : Obj) (h : W.cell? ⟨k, j, none⟩ = some v) : (W.alloc o).frozen? ⟨k, j, none⟩ = W.frozen? ⟨k, j, none⟩ :=
  World.frozen?_alloc_past _ _ _ (lt_of_cell h)
theorem cell_new' (W : World) (v : Value) (t : TypeId) : (W.alloc (.cells #[v] t)).cell? ⟨W.heap.size, 0, none⟩ = some v ∧ (W.alloc (.cells #[v] t)).frozen? ⟨W.heap.size, 0, none⟩ = false := by
  have h : (W.alloc (.cells #[v] t)).heap[W.heap.size]? = some (.cells #[v] t (0, 0)) := World.alloc_heap_new W _
  constructor
  · simp only [World.cell?, h]; rfl
  · simp only [World.frozen?, h]; rfl

theorem box_keep {A B : World} {row : Option Nat} {k : Nat} {v : Value} (h : A.cell? ⟨k, 0, none⟩ = some v) (hg : A.grownBy B row) (hr : ∀ r, row = some r → k ≠ r) :
    B.cell? ⟨k, 0, none⟩ = some v ∧ B.frozen? ⟨k, 0, none⟩ = A.frozen? ⟨k, 0, none⟩ := by
  have hb : B.heap[k]? = A.heap[k]? := hg.block k (lt_of_cell h) (fun e => hr k e.symm rfl)
  exact ⟨by rw [cell?_of_heap hb]; exact h, by simp only [World.frozen?, hb]⟩

set_option maxRecDepth 100000 in
set_option maxHeartbeats 2000000 in
theorem con168 (ga gn off n cap : Nat) (cs : List AVal) (up x : Int) (w : World) (hga : ga < w.heap.size) (hgn : gn < w.heap.size) (hcap : n ≤ cap) (hm : cap ≤ maxLen)
    (hc : w.cell? ⟨ga, 0, none⟩ = some (.slice (some ⟨gn, off, none⟩) n cap))
    (hx : ∀ (h : Int) (k : Nat) (v : Int), 1 ≤ h → h ≤ n → (k = 1 ∨ k = 12) → nodeCell cs off h k = some v → w.cell? ⟨gn, off + (h.toNat - 1) * 13 + k, none⟩ = some (.int .i64 v))
    (b : Bool) (hcl : climb cs off n up (n + 1) x = some b) (hu1 : 1 ≤ up) (hu2 : up ≤ n) (hx1 : 1 ≤ x) (hx2 : x ≤ n) :
    Calls Proofs.Tryz.prog 168 #[.pointer (some ⟨ga, 0, none⟩), .int .i64 up, .int .i64 x] w fun e w' => e = .returned (.bool b) ∧ Below w.heap.size w w' := by
  refine (callsIn_wide (n := 5)).1 ?_
  refine callsIn_of_wp_marks Proofs.Tryz.func168 rfl trivial ?_
  simp only [Proofs.Tryz.ntmps168, List.size_toArray, List.length_cons, List.length_nil, Nat.reduceAdd, Nat.reduceSub, Array.replicate_succ, Array.replicate_zero, List.push_toArray, List.append_toArray, List.nil_append, List.cons_append]
  have c0 : ((w.alloc (.cells #[.int .i64 up] 3)).alloc (.cells #[.bool false] 4)).cell? ⟨ga, 0, none⟩ = some (.slice (some ⟨gn, off, none⟩) n cap) := by
    rw [World.cell?_alloc_past _ _ _ (by simp; omega), World.cell?_alloc_past _ _ _ hga]; exact hc
  have n1 := cell_new' w (.int .i64 up) 3
  have n2 := cell_new' (w.alloc (.cells #[.int .i64 up] 3)) (.bool false) 4
  have n3 := cell_new' ((w.alloc (.cells #[.int .i64 up] 3)).alloc (.cells #[.bool false] 4)) (.pointer (some ⟨ga, 0, none⟩)) 38
  have n4 := cell_new' (((w.alloc (.cells #[.int .i64 up] 3)).alloc (.cells #[.bool false] 4)).alloc (.cells #[.pointer (some ⟨ga, 0, none⟩)] 38)) (.int .i64 x) 3
  have n5 := cell_new' ((((w.alloc (.cells #[.int .i64 up] 3)).alloc (.cells #[.bool false] 4)).alloc (.cells #[.pointer (some ⟨ga, 0, none⟩)] 38)).alloc (.cells #[.int .i64 x] 3)) (.bool true) 4
  simp only [World.size_alloc] at n2 n3 n4 n5
  have d1 : decide (1 ≤ up ∧ up ≤ n) = true := decide_eq_true ⟨hu1, hu2⟩
  have d2 : decide (1 ≤ x ∧ x ≤ n) = true := decide_eq_true ⟨hx1, hx2⟩
  gi_wp2
  refine ⟨trivial, (callsIn_wide.2 (has84 ga _ n cap up _ c0)).mono ?_⟩
  rintro e w' ⟨rfl, rfl⟩
  rw [d1]
  gi_wp2
  refine ⟨trivial, (callsIn_wide.2 (has84 ga _ n cap x _ c0)).mono ?_⟩
  rintro e w' ⟨rfl, rfl⟩
  rw [d2]
  gi_wp2
  refine ⟨trivial, (callsIn_wide.2 (up209 ga x _)).mono ?_⟩
  rintro e w' ⟨rfl, rfl⟩
  gi_wp2
  refine wpIn_range_b (gf := 231) (lb := #[.pointer (some ⟨w.heap.size + 1 + 1 + 1, 0, none⟩), .pointer (some ⟨w.heap.size + 1 + 1, 0, none⟩), .pointer (some ⟨w.heap.size + 1 + 1 + 1 + 1, 0, none⟩)]) (w.heap.size + 1 + 1 + 1) b up rfl (Go.Proofs.enters_of Proofs.Tryz.func231 (by kernel_rfl) rfl) (by simp)
    ?hseq rfl
    (fun W => Below w.heap.size w W ∧ W.cell? ⟨w.heap.size, 0, none⟩ = some (.int .i64 up) ∧ W.cell? ⟨w.heap.size + 1, 0, none⟩ = some (.bool false) ∧ W.frozen? ⟨w.heap.size + 1, 0, none⟩ = false)
    (fun W => Below w.heap.size w W ∧ W.cell? ⟨w.heap.size + 1, 0, none⟩ = some (.bool true)) ?hI ?hIx ?h0
    (fun y => { tmps := #[.pointer (some ⟨ga, 0, none⟩), .int .i64 up, .int .i64 x, undef, .pointer (some ⟨w.heap.size, 0, none⟩), undef, .pointer (some ⟨w.heap.size + 1, 0, none⟩), .int .i64 y, .pointer (some ⟨ga, 0, none⟩), .int .i64 up, .bool true, .bool false, .bool false, .pointer (some ⟨ga, 0, none⟩), .int .i64 x, .bool true, .bool false, .bool false, .pointer (some ⟨ga, 0, none⟩), .int .i64 x, .func (.func 231) #[] #[.pointer (some ⟨w.heap.size + 1 + 1 + 1, 0, none⟩), .pointer (some ⟨w.heap.size + 1 + 1, 0, none⟩), .pointer (some ⟨w.heap.size + 1 + 1 + 1 + 1, 0, none⟩)], .int .i64 y, undef, undef, undef], defers := [] })
    ?hassign ?hbody ?hdone ?hstop
  case hI =>
    rintro A B row ⟨h1, h2, h3, h4⟩ hg hr
    have hs1 := lt_of_cell h3
    have k1 := box_keep h2 hg (fun r e => by rcases hr r e with rfl | h <;> simp at * <;> omega)
    have k2 := box_keep h3 hg (fun r e => by rcases hr r e with rfl | h <;> simp at * <;> omega)
    exact ⟨h1.grown hg (by omega) (fun k e => by rcases hr k e with rfl | h <;> simp at * <;> omega), k1.1, k2.1, k2.2.trans h4⟩
  case hIx =>
    rintro A B row ⟨h1, h3⟩ hg hr
    have hs1 := lt_of_cell h3
    have k2 := box_keep h3 hg (fun r e => by rcases hr r e with rfl | h <;> simp at * <;> omega)
    exact ⟨h1.grown hg (by omega) (fun k e => by rcases hr k e with rfl | h <;> simp at * <;> omega), k2.1⟩
  case h0 =>
    refine ⟨(((((Below.refl _ w).alloc (Nat.le_refl _) _).alloc (by simp) _).alloc (by simp; omega) _).alloc (by simp; omega) _).alloc (by simp; omega) _, ?_, ?_, ?_⟩
    · exact cell_alloc' _ (cell_alloc' _ (cell_alloc' _ (cell_alloc' _ n1.1)))
    · exact cell_alloc' _ (cell_alloc' _ (cell_alloc' _ n2.1))
    · rw [frozen_alloc' _ (cell_alloc' _ (cell_alloc' _ n2.1)), frozen_alloc' _ (cell_alloc' _ n2.1), frozen_alloc' _ n2.1]; exact n2.2
  case hseq =>
    intro l J Jx W hW hJ hY hj
    have kk : ∀ {k j : Nat} {v : Value}, ((((( w.alloc (.cells #[.int .i64 up] 3)).alloc (.cells #[.bool false] 4)).alloc (.cells #[.pointer (some ⟨ga, 0, none⟩)] 38)).alloc (.cells #[.int .i64 x] 3)).alloc (.cells #[.bool true] 4)).cell? ⟨k, j, none⟩ = some v → W.cell? ⟨k, j, none⟩ = some v :=
      fun {k j v} h => by rw [cell?_of_heap (hW.block k (lt_of_cell h))]; exact h
    have hs : Seen (w.heap.size + 1 + 1) (w.heap.size + 1 + 1 + 1 + 1) ga gn off n cap cs W :=
      ⟨kk (cell_alloc' _ (cell_alloc' _ n3.1)), kk n5.1, kk (cell_alloc' _ (cell_alloc' _ (cell_alloc' _ c0))), fun h k v h1 h2 h3 h4 => kk (cell_alloc' _ (cell_alloc' _ (cell_alloc' _ (cell_alloc' _ (cell_alloc' _ (hx h k v h1 h2 h3 h4))))))⟩
    refine up231 4 l (w.heap.size + 1 + 1 + 1) (w.heap.size + 1 + 1) (w.heap.size + 1 + 1 + 1 + 1) _ ga gn off n cap cs up J Jx hJ hY ?_ (by simp) hcap hm W x hs (kk (cell_alloc' _ n4.1)) ?_ (n + 1) b hcl hj
    · rintro b (rfl | rfl | rfl | rfl) <;> simp <;> omega
    · have : W.frozen? ⟨w.heap.size + 1 + 1 + 1, 0, none⟩ = _ := World.frozen?_of_block (hW.block (w.heap.size + 1 + 1 + 1) (by simp))
      rw [this, frozen_alloc' _ n4.1]; exact n4.2
  case hassign =>
    intro l y W K hK
    have hsem := Oper.semAt_some l
    gi_wp2
    exact hK
  case hbody =>
    rintro l y W ⟨hb, hc1, hc2, hf2⟩
    have hsem := Oper.semAt_some l
    gi_wp2
    · rename_i he
      obtain rfl : y = up := eq_of_beq he
      exact ⟨KeepsOthers.setCell _ _ _, ⟨hb.setCell (Nat.le_succ _) _, World.cell?_setCell_same _ _ _ hc2⟩, rfl⟩
    · rename_i he
      exact ⟨KeepsOthers.refl _, Below.refl _ _, ⟨hb, hc1, hc2, hf2⟩, fun e => by subst e; simp at he⟩
  case hdone =>
    rintro D W rfl ⟨hb, hc1, hc2, hf2⟩ hK hD
    gi_wp2
    have hK' := (KeepsOthers.setCell W ⟨w.heap.size + 1, 0, none⟩ (.bool false)).same D _ hK rfl
    have hc5 := cell_kept (World.cell?_setCell_same W ⟨w.heap.size + 1, 0, none⟩ (.bool false) hc2) (grownBy_putObj' _ D (.deferred none)) (fun r e => by cases e; exact ⟨_, hK', rfl⟩)
    refine ⟨by simp, .inl ⟨_, _, rfl, run_takeDeferred hK', ?_⟩⟩
    refine ⟨.bool false, ?_, rfl, (hb.setCell (Nat.le_succ _) _).grown (grownBy_putObj' _ D _) (by have := lt_of_cell hc2; simp; omega) (fun k e => by cases e; simp at hD; omega)⟩
    simp [results, Proofs.Tryz.f168, go_sem, hc5]
  case hstop =>
    rintro D W rfl ⟨hb, hc2⟩ hK hD
    gi_wp2
    have hc5 := cell_kept hc2 (grownBy_putObj' _ D (.deferred none)) (fun r e => by cases e; exact ⟨_, hK, rfl⟩)
    refine ⟨by simp, .inl ⟨_, _, rfl, run_takeDeferred hK, ?_⟩⟩
    refine ⟨.bool true, ?_, rfl, hb.grown (grownBy_putObj' _ D _) (by have := lt_of_cell hc2; omega) (fun k e => by cases e; simp at hD; omega)⟩
    simp [results, Proofs.Tryz.f168, go_sem, hc5]
end Go.Am
