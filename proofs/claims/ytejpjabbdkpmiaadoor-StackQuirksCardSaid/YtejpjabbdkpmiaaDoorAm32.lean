/-
  Rules for loops with a state, and for strings. No law is claimed here.
-/
import Derived.Test.YtejpjabbdkpmiaaDoorAm31
set_option linter.unusedSimpArgs false
set_option linter.unusedVariables false
namespace Go.Am
open Go

section
variable {C : Ctx} {Q : Post} {h : AHeap}

theorem W_loop_step {key : Nat} {vs : List AVal} {body : List AVal → IT} {k : AExit → List AVal → IT}
    (hw : W C (body vs) (fun x vs1 h1 => (x = .normal ∧ W C (.loop key vs1 body k) Q h1) ∨ (x ≠ .normal ∧ W C (k x vs1) Q h1)) h) : W C (.loop key vs body k) Q h := by
  obtain ⟨m, x, vs1, h1, hr, hcase⟩ := hw.succ
  rcases hcase with ⟨rfl, hw⟩ | ⟨hx, hw⟩
  · obtain ⟨m', x', vs', h', hr', q⟩ := hw
    refine W_succ ⟨max m m', x', vs', h', ?_, q⟩
    have e1 := IT.step_mono (fun t h r => IT.run_le (fn := afun C) (Nat.le_max_left m m')) _ _ _ hr
    have e2 := IT.run_le (Nat.le_max_right m m') hr'
    simp only [IT.step]
    simp only [Ctx.run] at *
    rw [e1]
    exact e2
  · obtain ⟨m', x', vs', h', hr', q⟩ := hw.succ
    refine W_succ ⟨max m m', x', vs', h', ?_, q⟩
    have e1 := IT.step_mono (fun t h r => IT.run_le (fn := afun C) (Nat.le_max_left m m')) _ _ _ hr
    have e2 := IT.step_mono (fun t h r => IT.run_le (fn := afun C) (Nat.le_max_right m m')) _ _ _ hr'
    simp only [IT.step]
    simp only [Ctx.run] at *
    rw [e1]
    cases x <;> first | exact absurd rfl hx | exact e2

/-- What a round of a loop must come to: a next state, or the end. -/
def LoopPost {σ : Type} (C : Ctx) (enc : σ → List AVal) (inv : σ → AHeap → Prop) (μ : σ → Nat) (k : AExit → List AVal → IT) (Q : Post) (s : σ) : Post :=
  fun x vs h1 => (x = .normal ∧ ∃ s', vs = enc s' ∧ inv s' h1 ∧ μ s' < μ s) ∨ (x ≠ .normal ∧ W C (k x vs) Q h1)

variable {σ : Type} {enc : σ → List AVal} {inv : σ → AHeap → Prop} {μ : σ → Nat} {k : AExit → List AVal → IT} {s : σ} {vs : List AVal}
theorem LoopPost.next (s' : σ) (e : vs = enc s') (hi : inv s' h) (hl : μ s' < μ s) : LoopPost C enc inv μ k Q s .normal vs h := .inl ⟨rfl, s', e, hi, hl⟩
theorem LoopPost_exit {i : Nat} : LoopPost C enc inv μ k Q s (.exit i) vs h ↔ W C (k (.exit i) vs) Q h := by simp [LoopPost]
theorem LoopPost_ret : LoopPost C enc inv μ k Q s .ret vs h ↔ W C (k .ret vs) Q h := by simp [LoopPost]

/-- A loop by states, an invariant and a measure. -/
theorem W_loop_st {key : Nat} {init : List AVal} {body : List AVal → IT} (enc : σ → List AVal) (inv : σ → AHeap → Prop) (μ : σ → Nat) (s0 : σ) (h0 : init = enc s0) (hi : inv s0 h)
    (round : ∀ s h, inv s h → W C (body (enc s)) (LoopPost C enc inv μ k Q s) h) : W C (.loop key init body k) Q h := by
  subst h0
  have key : ∀ n s h, μ s = n → inv s h → W C (.loop key (enc s) body k) Q h := by
    intro n
    induction n using Nat.strongRecOn with
    | _ n ih =>
      intro s h hn hI
      refine W_loop_step (W.mono (round s h hI) ?_)
      rintro x vs h1 (⟨rfl, s', rfl, hi', hl⟩ | ⟨hx, hw⟩)
      · exact .inl ⟨rfl, ih _ (hn ▸ hl) s' h1 rfl hi'⟩
      · exact .inr ⟨hx, hw⟩
  exact key _ s0 h rfl hi
end

section
variable {k l : IntKind} {s : Bytes}
theorem pe_sidx_nat {n : Nat} (hn : n < s.length) : peval .sidx [.str s, .int k (n : Int)] = some (.int .u8 (s[n].toNat : Int)) := by
  simp [hn]
theorem pe_inc {n : Nat} (hn : n < 9223372036854775807) : peval (.int .add) [.int .i64 (n : Int), .int .i64 1] = some (.int .i64 ((n + 1 : Nat) : Int)) := by
  rw [pe_add, wrap_i64 (by omega) (by omega)]; rfl
theorem pe_dec {n : Nat} (h0 : 0 < n) (hn : n < 9223372036854775807) : peval (.int .sub) [.int .i64 (n : Int), .int .i64 1] = some (.int .i64 ((n - 1 : Nat) : Int)) := by
  rw [pe_sub, wrap_i64 (by omega) (by omega)]; congr 2; omega
theorem pe_slc_str {a b z : Nat} (hab : a ≤ b) (hb : b ≤ s.length) : peval (.slc z true true true) [.str s, .int k (a : Int), .int l (b : Int)] = some (.str ((s.take b).drop a)) := by
  have e1 : bound (b : Int) s.length = some b := by unfold bound; rw [if_pos (by omega)]; rfl
  have e2 : bound (a : Int) b = some a := by unfold bound; rw [if_pos (by omega)]; rfl
  simp [peval, sliceOf, boundsOf, e1, e2]
end

section
variable {z b : Nat} {r r2 : List (List AVal)} {row : List AVal} {v v2 : AVal}
theorem IsSl.app1 (h : IsSl z r v) (hb : (r.length + 1) * b ≤ maxBytes) : peval (.append z b) [v, .sl z [row]] = some (.sl z (r ++ [row])) := by
  rcases h with rfl | ⟨rfl, rfl⟩
  · simp [peval, appendOf, appendTo, hb]
  · have : 1 * b ≤ maxBytes := by simpa using hb
    simp only [Nat.one_mul] at this
    simp [peval, appendOf, appendTo, this]
theorem IsSl.app (h : IsSl z r v) (h2 : IsSl z r2 v2) (hb : (r.length + r2.length) * b ≤ maxBytes) : ∃ u, peval (.append z b) [v, v2] = some u ∧ IsSl z (r ++ r2) u := by
  have hnil : ∃ u, appendTo z b v [] = some u ∧ IsSl z (r ++ []) u := by
    rcases h with rfl | ⟨rfl, rfl⟩
    · exact ⟨.sl z r, by simp [appendTo], by rw [List.append_nil]; exact .mk⟩
    · exact ⟨_, rfl, .nil⟩
  rcases h2 with rfl | ⟨rfl, rfl⟩
  · cases r2 with
    | nil =>
      obtain ⟨u, e, hu⟩ := hnil
      exact ⟨u, by simpa [peval, appendOf] using e, hu⟩
    | cons x l =>
      refine ⟨.sl z (r ++ x :: l), ?_, .mk⟩
      rcases h with rfl | ⟨rfl, rfl⟩
      · simp only [peval, appendOf, if_true, appendTo]
        rw [if_pos ⟨trivial, hb⟩]
      · simp only [peval, appendOf, if_true, appendTo]
        rw [if_pos (by simpa using hb)]
        rfl
  · obtain ⟨u, e, hu⟩ := hnil
    exact ⟨u, by simpa [peval, appendOf] using e, hu⟩
theorem IsSl.frz (h : IsSl z r v) {hp : AHeap} : hfrz hp v = some (hp, v) := by rcases h with rfl | ⟨rfl, rfl⟩ <;> rfl
theorem bytes_rows (s : Bytes) : bytesOf (rowsOf s) = some s := by
  induction s with
  | nil => rfl
  | cons c s ih =>
    have e : rowsOf (c :: s) = [.int .u8 c.toNat] :: rowsOf s := rfl
    rw [e, bytesOf, ih]
    simp
theorem IsSl.b2s {s : Bytes} (h : IsSl 1 (rowsOf s) v) : peval .b2s [v] = some (.str s) := by
  rcases h with rfl | ⟨rfl, h⟩
  · simp [peval, textOf, bytes_rows]
  · have e : s = [] := by simpa [rowsOf] using h
    subst e
    rfl
theorem rowsOf_append (s t : Bytes) : rowsOf (s ++ t) = rowsOf s ++ rowsOf t := by simp [rowsOf]
theorem rowsOf_length (s : Bytes) : (rowsOf s).length = s.length := by simp [rowsOf]
end
@[simp] theorem pe_mksl {z : Nat} {args : List AVal} : peval (.mksl z) args = if args.all (fun a => a.cells.length == z) && decide (args.length * z ≤ 16777216) then some (.sl z (args.map (·.cells))) else none := rfl
theorem pe_mksl1 {a : AVal} {z : Nat} (h : a.cells.length = z) (hz : z ≤ 16777216) : peval (.mksl z) [a] = some (.sl z [a.cells]) := by simp [h, hz]
theorem wrap_u8 {a : Int} (h : 0 ≤ a ∧ a ≤ 255) : IntKind.u8.wrap a = a := IntWalk.u8_in a h
theorem wrap_i32 {a : Int} (h : -2147483648 ≤ a ∧ a ≤ 2147483647) : IntKind.i32.wrap a = a := IntWalk.i32_in a h
theorem ret_iff {C : Ctx} {f : FuncId} {args : List AVal} {h h' : AHeap} {r : AVal} : Ret C f args h r h' ↔ W C (afun C f args) (fun x vs h1 => x = .ret ∧ vs = [r] ∧ h1 = h') h := Iff.rfl
end Go.Am
