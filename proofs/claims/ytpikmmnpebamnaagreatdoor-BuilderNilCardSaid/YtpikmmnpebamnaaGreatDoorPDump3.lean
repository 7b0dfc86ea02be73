/-
  (*arena.Arena).Dump met. No law is claimed here.
-/
import Derived.Test.YtpikmmnpebamnaaGreatDoorPDump2
set_option linter.unusedSimpArgs false
set_option linter.unusedVariables false
namespace Go.Am
open Go Go.RowKit Go.Shelf

section
variable {γ : Gh} {h : AHeap} {w0 : World}

abbrev kidK (fuel d : Nat) (a : AVal) : List AVal → (Bytes → IT) → Bytes → IT := fun kid K acc => match kid with
  | [.int .i64 y] => dumpTree 146 a fuel y (d + 1) acc K
  | _ => .fail

theorem kids_con {run : IT → AHeap → Option Res} {g fuel d : Nat} {a : AVal} (ih : ∀ (x : Int) (acc : Bytes) (k : Bytes → IT) (res : Res), IT.step (afun cx) run (dumpTree 146 a fuel x (d + 1) acc k) h = some res → ∃ acc', IT.step (afun cx) run (k acc') h = some res ∧ Con g w0 x (d + 1) acc acc') :
    ∀ (kids : List (List AVal)) (acc : Bytes) (k : Bytes → IT) (res : Res), IT.step (afun cx) run (kids.foldr (kidK fuel d a) k acc) h = some res →
      ∃ f : Nat → Bytes, f 0 = acc ∧ IT.step (afun cx) run (k (f kids.length)) h = some res ∧ ∀ i, i < kids.length → ∃ y, kids[i]? = some [.int .i64 y] ∧ Con g w0 y (d + 1) (f i) (f (i + 1))
  | [], acc, k, res, e => ⟨fun _ => acc, rfl, e, fun i hi => by simp at hi⟩
  | kid :: kids, acc, k, res, e => by
    simp only [List.foldr_cons] at e
    unfold kidK at e
    split at e
    · rename_i y
      obtain ⟨acc1, e1, c1⟩ := ih _ _ _ _ e
      obtain ⟨f, f0, f1, f2⟩ := kids_con ih kids acc1 k res e1
      refine ⟨fun | 0 => acc | i + 1 => f i, rfl, f1, fun i hi => ?_⟩
      cases i with
      | zero =>
        have hc : Con g w0 y (d + 1) acc (f 0) := by rw [f0]; exact c1
        exact ⟨y, rfl, hc⟩
      | succ i =>
        obtain ⟨y', p, q⟩ := f2 i (by simpa using hi)
        exact ⟨y', by simpa using p, q⟩
    · cases e

theorem dump_ptr {run : IT → AHeap → Option Res} {a : AVal} {x : Int} {d : Nat} {acc : Bytes} {k : Bytes → IT} {res : Res} (fuel : Nat) (e : IT.step (afun cx) run (dumpTree 146 a fuel x d acc k) h = some res) : ∃ id, a = .ptr (some (id, 0)) := by
  cases fuel with
  | zero => simp [dumpTree, IT.step] at e
  | succ fuel =>
    simp only [dumpTree, IT.step, meval] at e
    cases e0 : gRow h [a, .int .i64 x] with
    | none => simp [e0] at e
    | some R0 =>
      unfold gRow at e0
      split at e0
      · rename_i id x' heq
        cases heq
        exact ⟨id, rfl⟩
      · cases e0

theorem dump_con {n : Nat} (hs : SimCalls cx (IT.run (afun cx) n)) (hi : Inv γ h w0) (hg : ∀ g cs, cx.glob g = some cs → VRelM γ cs g 0) {id g : Nat} (hm : γ.mu id = some g) :
    ∀ (fuel : Nat) (x : Int) (d : Nat) (acc : Bytes) (k : Bytes → IT) (res : Res), d + fuel ≤ 1000 → IT.step (afun cx) (IT.run (afun cx) n) (dumpTree 146 (.ptr (some (id, 0))) fuel x d acc k) h = some res →
      ∃ acc', IT.step (afun cx) (IT.run (afun cx) n) (k acc') h = some res ∧ Con g w0 x d acc acc' ∧ ∃ p cap ln, w0.cell? ⟨g, 0, none⟩ = some (.slice p ln cap) ∧ 1 ≤ x ∧ x ≤ ln
  | 0, x, d, acc, k, res, _, e => by simp [dumpTree, IT.step] at e
  | fuel + 1, x, d, acc, k, res, hd, e => by
    simp only [dumpTree, IT.step, meval] at e
    cases e0 : gRow h [.ptr (some (id, 0)), .int .i64 x] with
    | none => simp [e0] at e
    | some R0 =>
    obtain ⟨h1, r⟩ := R0
    simp only [e0] at e
    obtain ⟨hh, gn, off, nn, cap, row, c, kids, rfl, hgs, hgn, hc, hcap, hmx, hx1, hx2, hrow, h11, hk⟩ := gRow_mem hi hm e0
    simp only [IT.step] at e
    rw [hh] at e
    clear hh
    cases e1 : IT.run (afun cx) n (afun cx 146 [.rptr row]) [] with
    | none => simp [e1] at e
    | some R1 =>
    simp only [e1] at e
    split at e
    · rename_i r1 h1' heq
      cases heq
      split at e
      · split at e
        · rename_i s hfl
          split at e
          · rename_i hlen
            have ih : ∀ (x : Int) (acc : Bytes) (k : Bytes → IT) (res : Res), IT.step (afun cx) (IT.run (afun cx) n) (dumpTree 146 (.ptr (some (id, 0))) fuel x (d + 1) acc k) h = some res → ∃ acc', IT.step (afun cx) (IT.run (afun cx) n) (k acc') h = some res ∧ Con g w0 x (d + 1) acc acc' := fun x acc k res e => by
              obtain ⟨acc', p, q, _⟩ := dump_con hs hi hg hm fuel x (d + 1) acc k res (by omega) e
              exact ⟨acc', p, q⟩
            have hline : ∀ W, Below w0.heap.size w0 W → Calls Proofs.Tryz.prog 146 #[.pointer (some ⟨gn, off + (x.toNat - 1) * 13, none⟩)] W fun e W' => e = .returned (.string ⟨⟨s⟩⟩) ∧ Below W.heap.size W W' :=
              fun W hb => line146 hs hi hg e1 hb hrow
            have fin : ∀ acc2, ((c = 0 ∧ acc2 = acc ++ List.replicate (2 * d) 32 ++ s ++ [10]) ∨ (c ≠ 0 ∧ Con g w0 c (d + 1) (acc ++ List.replicate (2 * d) 32 ++ s ++ [10]) acc2)) →
                IT.step (afun cx) (IT.run (afun cx) n) (kids.foldr (kidK fuel d (.ptr (some (id, 0)))) k acc2) h = some res → ∃ acc', IT.step (afun cx) (IT.run (afun cx) n) (k acc') h = some res ∧ Con g w0 x d acc acc' ∧ ∃ p cap ln, w0.cell? ⟨g, 0, none⟩ = some (.slice p ln cap) ∧ 1 ≤ x ∧ x ≤ ln := by
              intro acc2 hcont e2
              obtain ⟨f, f0, f1, f2⟩ := kids_con ih kids acc2 k res e2
              exact ⟨f kids.length, f1, walk85 hgs hgn hc hcap hmx hx1 hx2 h11 hk (by omega) hline hlen hcont f f0 f2, _, _, _, hc, hx1, hx2⟩
            split at e
            · rename_i hc0
              exact fin _ (.inl ⟨hc0, rfl⟩) e
            · rename_i hc0
              obtain ⟨acc2, p, q⟩ := ih _ _ _ _ e
              exact fin acc2 (.inr ⟨hc0, q⟩) p
          · cases e
        · cases e
      · cases e
    · cases e
end

set_option maxRecDepth 100000 in
set_option maxHeartbeats 2000000 in
theorem walk34 {w0 : World} {g ln cap : Nat} {p : Option Addr} {x : Int} {s : Bytes} (hgs : g < w0.heap.size) (hc : w0.cell? ⟨g, 0, none⟩ = some (.slice p ln cap)) (hx1 : 1 ≤ x) (hx2 : x ≤ ln) (hcon : Con g w0 x 0 [] s) :
    Calls Proofs.Tryz.prog 34 #[.pointer (some ⟨g, 0, none⟩), .int .i64 x] w0 fun e w' => e = .returned (.string ⟨⟨s⟩⟩) ∧ Below w0.heap.size w0 w' := by
  have d1 : decide (1 ≤ x ∧ x ≤ ln) = true := decide_eq_true ⟨hx1, hx2⟩
  have hnew : (w0.alloc (.cells #[.pointer none, .slice none 0 0] 144)).heap[w0.heap.size]? = some (.cells #[.pointer none, .slice none 0 0] 144 (0, 0)) := World.alloc_heap_new w0 _
  have hb1 : Below w0.heap.size w0 (w0.alloc (.cells #[.pointer none, .slice none 0 0] 144)) := (Below.refl _ w0).alloc (Nat.le_refl _) _
  have l1 : Lib.IsBuilder 144 5 w0.heap.size w0.heap.size (Lib.byteCells []) (w0.alloc (.cells #[.pointer none, .slice none 0 0] 144)) :=
    .inl ⟨Nat.le_refl _, .slice none 0 0, hnew, World.ownsRow_nil _ _ _ _, by simp [Value.ownBlock]⟩
  have hcc := hcon w0.heap.size w0.heap.size _ (Nat.le_refl _) (by simp) hb1 l1
  rw [show ((0 : Nat) : Int) = 0 from rfl] at hcc
  refine (callsIn_wide (n := 5)).1 ?_
  refine callsIn_of_wp Proofs.Tryz.func34 rfl trivial ?_ rfl
  simp only [Proofs.Tryz.ntmps34, List.size_toArray, List.length_cons, List.length_nil, Nat.reduceAdd, Nat.reduceSub, Array.replicate_succ, Array.replicate_zero, List.push_toArray, List.append_toArray, List.nil_append, List.cons_append]
  gi_wp2
  refine ⟨trivial, (callsIn_wide.2 (has84 g _ ln cap x _ hc)).mono ?_⟩
  rintro e w' ⟨rfl, rfl⟩
  rw [d1]
  gi_wp2
  refine ⟨trivial, (callsIn_wide.2 hcc).mono ?_⟩
  rintro e W2 ⟨⟨v, rfl⟩, l2, b2⟩
  gi_wp2
  refine ⟨trivial, (callsIn_wide.2 (Proofs.Tryz.Builder_String_any w0.heap.size w0.heap.size s _ l2 (by have := b2.size; have := hb1.size; omega))).mono ?_⟩
  rintro e W3 ⟨rfl, b3⟩
  gi_wp2
  refine bodyPost_ret (results_tmp rfl _ _ _) rfl ?_
  exact ⟨rfl, (hb1.trans b2).trans b3⟩

theorem prim34 {h : AHeap} (n : Nat) (hs : SimCalls cx (IT.run (afun cx) n)) (args : List AVal) (r : AVal) (h' : AHeap) (hrun : IT.step (afun cx) (IT.run (afun cx) n) (pDump 146 args) h = some (.ret, [r], h')) :
    (∃ fn c, cx.P.funcs[realOf 34]? = some fn ∧ (fn.name == "runtime.NumGoroutine") = false ∧ fn.body = some c) ∧
    ∀ (γ : Gh) (w : World) (cargs : Array Value), Inv γ h w → (∀ g cs, cx.glob g = some cs → VRelM γ cs g 0) → VRelV γ args cargs.toList →
      Calls cx.P (realOf 34) cargs w fun e w' => match e with
        | .returned v => ∃ γ', Inv γ' h' w' ∧ Acc γ w γ' w' ∧ VRel γ' r v ∧ (cx.ownRet 34 = true → ∃ s c, OwnT γ' w.heap.size w' s c v r)
        | _ => False := by
  refine ⟨⟨_, _, Proofs.Tryz.func34, rfl, rfl⟩, fun γ w cargs hi hg ha => ?_⟩
  have hptr : ∃ id x, args = [.ptr (some (id, 0)), .int .i64 x] := by
    unfold pDump at hrun
    split at hrun
    · rename_i a x
      obtain ⟨id, rfl⟩ := dump_ptr _ hrun
      exact ⟨id, x, rfl⟩
    · cases hrun
  obtain ⟨id, x, rfl⟩ := hptr
  obtain ⟨v0, us, hcg, ⟨g, hm, rfl⟩, v1, us1, rfl, rfl, hnil⟩ := ha
  cases hnil
  have hcargs : cargs = #[.pointer (some ⟨g, 0, none⟩), .int .i64 x] := by
    apply Array.ext'; simpa using hcg
  subst hcargs
  simp only [pDump] at hrun
  obtain ⟨acc, e1, hcon, p, cap, ln, hc, hx1, hx2⟩ := dump_con hs hi hg hm 100 x 0 [] _ _ (by omega) hrun
  cases e1
  refine (walk34 (lt_of_cell hc) hc hx1 hx2 hcon).mono fun e w' he => ?_
  obtain ⟨rfl, hb⟩ := he
  obtain ⟨hi2, ha2⟩ := hi.of_below hb
  exact ⟨γ, hi2, ha2, rfl, fun e => by cases e⟩
end Go.Am
