/-
  (*arena.Arena).Contains met. No law is claimed here.
-/
import Derived.Test.YtpikmmnpebamnaaGreatDoorPCon
set_option linter.unusedSimpArgs false
set_option linter.unusedVariables false
namespace Go.Am
open Go Go.RowKit Go.Shelf

set_option maxRecDepth 100000 in
set_option maxHeartbeats 2000000 in
theorem con168_out (ga : Nat) (p : Option Addr) (n cap : Nat) (up x : Int) (w : World) (hc : w.cell? ⟨ga, 0, none⟩ = some (.slice p n cap)) (ho : ¬ (1 ≤ up ∧ up ≤ n ∧ 1 ≤ x ∧ x ≤ n)) :
    Calls Proofs.Tryz.prog 168 #[.pointer (some ⟨ga, 0, none⟩), .int .i64 up, .int .i64 x] w fun e w' => e = .returned (.bool false) ∧ Below w.heap.size w w' := by
  have c0 : ((w.alloc (.cells #[.int .i64 up] 3)).alloc (.cells #[.bool false] 4)).cell? ⟨ga, 0, none⟩ = some (.slice p n cap) := cell_alloc' _ (cell_alloc' _ hc)
  have n2 := cell_new' (w.alloc (.cells #[.int .i64 up] 3)) (.bool false) 4
  simp only [World.size_alloc] at n2
  have hb : Below w.heap.size w ((w.alloc (.cells #[.int .i64 up] 3)).alloc (.cells #[.bool false] 4)) := ((Below.refl _ w).alloc (Nat.le_refl _) _).alloc (by simp) _
  refine (callsIn_wide (n := 5)).1 ?_
  refine callsIn_of_wp Proofs.Tryz.func168 rfl trivial ?_ rfl
  simp only [Proofs.Tryz.ntmps168, List.size_toArray, List.length_cons, List.length_nil, Nat.reduceAdd, Nat.reduceSub, Array.replicate_succ, Array.replicate_zero, List.push_toArray, List.append_toArray, List.nil_append, List.cons_append]
  by_cases h1 : 1 ≤ up ∧ up ≤ n
  · have d1 : decide (1 ≤ up ∧ up ≤ n) = true := decide_eq_true h1
    have d2 : decide (1 ≤ x ∧ x ≤ n) = false := decide_eq_false fun h2 => ho ⟨h1.1, h1.2, h2.1, h2.2⟩
    gi_wp2
    refine ⟨trivial, (callsIn_wide.2 (has84 ga _ n cap up _ c0)).mono ?_⟩
    rintro e w' ⟨rfl, rfl⟩
    rw [d1]
    gi_wp2
    refine ⟨trivial, (callsIn_wide.2 (has84 ga _ n cap x _ c0)).mono ?_⟩
    rintro e w' ⟨rfl, rfl⟩
    rw [d2]
    gi_wp2
    refine bodyPost_ret (v := .bool false) ?_ rfl ⟨rfl, hb⟩
    simp [results, Proofs.Tryz.f168, go_sem, n2.1]
  · have d1 : decide (1 ≤ up ∧ up ≤ n) = false := decide_eq_false h1
    gi_wp2
    refine ⟨trivial, (callsIn_wide.2 (has84 ga _ n cap up _ c0)).mono ?_⟩
    rintro e w' ⟨rfl, rfl⟩
    rw [d1]
    gi_wp2
    refine ⟨trivial, ?_⟩
    gi_wp2
    refine bodyPost_ret (v := .bool false) ?_ rfl ⟨rfl, hb⟩
    simp [results, Proofs.Tryz.f168, go_sem, n2.1]

section
variable {h : AHeap}
theorem nodeCell_get {cs : List AVal} {off : Nat} {x : Int} {k : Nat} {v : Int} (e : nodeCell cs off x k = some v) : cs[off + (x.toNat - 1) * 13 + k]? = some (.int .i64 v) := by
  unfold nodeCell at e
  split at e
  · rename_i hh
    cases e
    exact hh
  · cases e

theorem prim168 (n : Nat) (args : List AVal) (r : AVal) (h' : AHeap) (hrun : IT.step (afun cx) (IT.run (afun cx) n) (pContains args) h = some (.ret, [r], h')) :
    (∃ fn c, cx.P.funcs[realOf 168]? = some fn ∧ (fn.name == "runtime.NumGoroutine") = false ∧ fn.body = some c) ∧
    ∀ (γ : Gh) (w : World) (cargs : Array Value), Inv γ h w → (∀ g cs, cx.glob g = some cs → VRelM γ cs g 0) → VRelV γ args cargs.toList →
      Calls cx.P (realOf 168) cargs w fun e w' => match e with
        | .returned v => ∃ γ', Inv γ' h' w' ∧ Acc γ w γ' w' ∧ VRel γ' r v ∧ (cx.ownRet 168 = true → ∃ s c, OwnT γ' w.heap.size w' s c v r)
        | _ => False := by
  refine ⟨⟨_, _, Proofs.Tryz.func168, rfl, rfl⟩, fun γ w cargs hi hg ha => ?_⟩
  simp only [pContains, IT.step, meval] at hrun
  cases e0 : gContains h args with
  | none => simp [e0] at hrun
  | some R0 =>
  obtain ⟨h1, r1⟩ := R0
  simp only [e0] at hrun
  cases hrun
  have fin : ∀ (b : Bool) (cs : Array Value), h' = h → r = .bool b → Calls Proofs.Tryz.prog 168 cs w (fun e w' => e = .returned (.bool b) ∧ Below w.heap.size w w') →
      Calls cx.P (realOf 168) cs w fun e w' => match e with
        | .returned v => ∃ γ', Inv γ' h' w' ∧ Acc γ w γ' w' ∧ VRel γ' r v ∧ (cx.ownRet 168 = true → ∃ s c, OwnT γ' w.heap.size w' s c v r)
        | _ => False := by
    rintro b cs rfl rfl hc
    refine hc.mono fun e w' he => ?_
    obtain ⟨rfl, hb⟩ := he
    obtain ⟨hi2, ha2⟩ := hi.of_below hb
    exact ⟨γ, hi2, ha2, rfl, fun e => by cases e⟩
  unfold gContains at e0
  split at e0
  · rename_i id up x
    obtain ⟨v0, us, hcg, ⟨g, hm, rfl⟩, v1, us1, rfl, rfl, v2, us2, rfl, rfl, hnil⟩ := ha
    cases hnil
    have hcargs : cargs = #[.pointer (some ⟨g, 0, none⟩), .int .i64 up, .int .i64 x] := by
      apply Array.ext'; simpa using hcg
    subst hcargs
    split at e0
    · rename_i l hc
      cases e0
      obtain ⟨_, y, hy, ry⟩ := hi.cell1 hc hm (j := 0) rfl
      cases ry
      exact fin false _ rfl rfl (con168_out g none 0 0 up x w hy (by omega))
    · rename_i nid off len l hc
      split at e0
      · rename_i cs hcs
        split at e0
        · rename_i hl
          obtain ⟨_, y, hy, gn, cap, hmn, rfl, q1, ⟨q2, q3⟩, q4⟩ := hi.cell1 hc hm (j := 0) rfl
          have hga : g < w.heap.size := lt_of_cell hy
          have hgn : gn < w.heap.size := by
            obtain ⟨⟨us, e, fr, p1, p2⟩, _⟩ := hi.sz gn _ q4
            exact (Array.getElem?_eq_some_iff.1 p1).1
          split at e0
          · rename_i hr
            cases e1 : climb cs off len up (len + 1) x with
            | none => simp [e1] at e0
            | some b =>
              simp only [e1, Option.map_some, Option.some.injEq, Prod.mk.injEq] at e0
              obtain ⟨rfl, rfl⟩ := e0
              refine fin b _ rfl rfl (con168 g gn off len cap cs up x w hga hgn q1 q3 hy (fun t k v h1 h2 h3 h4 => ?_) b e1 hr.1 hr.2.1 hr.2.2.1 hr.2.2.2)
              obtain ⟨_, z, hz, rz⟩ := hi.cell1 hcs hmn (nodeCell_get h4)
              cases rz
              exact hz
          · rename_i hr
            cases e0
            exact fin false _ rfl rfl (con168_out g _ len cap up x w hy hr)
        · cases e0
      · cases e0
    · cases e0
  · cases e0
end
end Go.Am
