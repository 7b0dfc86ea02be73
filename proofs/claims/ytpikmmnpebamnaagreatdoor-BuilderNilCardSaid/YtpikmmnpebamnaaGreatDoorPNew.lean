/-
  thicketref04.New: two rows are made in either order. No law is claimed here.
-/
import Derived.Test.YtpikmmnpebamnaaGreatDoorPIns
import Derived.Shelf.RegionOpenPlain
import Derived.WalkKit
import Derived.KernelRfl
set_option linter.unusedSimpArgs false
set_option linter.unusedVariables false
namespace Go.Am
open Go Go.RowKit Go.Shelf

section
variable {γ γ' : Gh} {h : AHeap} {w w' : World}

theorem Inv.deadEnd (hi : Inv γ h w) : Inv γ (h ++ [.dead]) w := by
  have key : ∀ {id : Nat} {x : AObj}, (h ++ [AObj.dead])[id]? = some x → x ≠ .dead → h[id]? = some x := fun {id x} hx hd => by
    rcases Nat.lt_or_ge id h.length with hl | hl
    · rwa [List.getElem?_append_left hl] at hx
    · rw [List.getElem?_append_right hl] at hx
      cases hk : id - h.length with
      | zero => rw [hk] at hx; cases hx; exact absurd rfl hd
      | succ k => rw [hk] at hx; simp at hx
  exact ⟨hi.imm, fun id y hid hy => hi.obj id y (key hid hy) hy, fun id cs hc b hb => hi.cells id cs (key hc (by simp)) b hb, fun id es hc b hb => hi.map id es (key hc (by simp)) b hb, fun id b hb => by have := hi.mu id b hb; simp; omega, hi.own, hi.sz⟩

theorem mixed36 : Proofs.Tryz.prog.follows .mixedOrders = true := by kernel_rfl
abbrev zeroNode : Array Value := #[.int .i64 0, .int .i64 0, .slice none 0 0, .int .i64 0, .int .i64 0, .string ⟨#[]⟩, .slice none 0 0, .string ⟨#[]⟩, .string ⟨#[]⟩, .string ⟨#[]⟩, .bool false, .int .i64 0, .int .i64 0]
theorem info76 : (Proofs.Tryz.prog.info? 76).map (fun i => (i.zero, i.size, i.bytes)) = some (some (.agg zeroNode), 13, 168) := by kernel_rfl
theorem info3 : (Proofs.Tryz.prog.info? 3).map (fun i => (i.zero, i.size, i.bytes)) = some (some (.int .i64 0), 1, 8) := by kernel_rfl
theorem made76 : madeCells (Value.agg zeroNode).cells (Int.toNat 1 * 13) = zeroNode := by kernel_rfl
theorem made3 : madeCells (Value.int .i64 0).cells (Int.toNat 1 * 1) = #[.int .i64 0] := by kernel_rfl
theorem make147 (w : World) : (Instr.makeSlice 147 (.int .i64 1) (.int .i64 1)).run Proofs.Tryz.prog w = .ok (.slice (some ⟨w.heap.size, 0, none⟩) 1 1) (w.alloc (.cells zeroNode 76)) := by
  obtain ⟨i, hi, h2⟩ := Option.map_eq_some_iff.1 info76
  simp only [Prod.mk.injEq] at h2
  obtain ⟨h2, h3, h4⟩ := h2
  have := run_make (P := Proofs.Tryz.prog) w 147 76 i _ Proofs.Tryz.underlying147 hi h2 .i64 .i64 1 1 (by decide) (by decide) (by rw [h4]; decide) (by decide)
  rw [h3, made76] at this
  exact this
theorem make62 (w : World) : (Instr.makeSlice 62 (.int .i64 1) (.int .i64 1)).run Proofs.Tryz.prog w = .ok (.slice (some ⟨w.heap.size, 0, none⟩) 1 1) (w.alloc (.cells #[.int .i64 0] 3)) := by
  obtain ⟨i, hi, h2⟩ := Option.map_eq_some_iff.1 info3
  simp only [Prod.mk.injEq] at h2
  obtain ⟨h2, h3, h4⟩ := h2
  have := run_make (P := Proofs.Tryz.prog) w 62 3 i _ Proofs.Tryz.underlying62 hi h2 .i64 .i64 1 1 (by decide) (by decide) (by rw [h4]; decide) (by decide)
  rw [h3, made3] at this
  exact this

set_option maxHeartbeats 2000000 in
set_option maxRecDepth 100000 in
theorem new36 (w : World) : Calls Proofs.Tryz.prog 36 #[] w fun e w' => e = .returned (.pointer (some ⟨w.heap.size + 1 + 1, 0, none⟩)) ∧
    (w' = (((w.alloc (.cells zeroNode 76)).alloc (.cells #[.int .i64 0] 3)).alloc (.cells #[.slice (some ⟨w.heap.size, 0, none⟩) 1 1, .slice (some ⟨w.heap.size + 1, 0, none⟩) 1 1] 149)).drew ∨
     w' = (((w.alloc (.cells #[.int .i64 0] 3)).alloc (.cells zeroNode 76)).alloc (.cells #[.slice (some ⟨w.heap.size + 1, 0, none⟩) 1 1, .slice (some ⟨w.heap.size, 0, none⟩) 1 1] 149)).drew) := by
  have mixed := mixed36
  have m1 := make147
  have m2 := make62
  go_enter Proofs.Tryz.func36, Proofs.Tryz.ntmps36
  go_wp2
  go_region_o
  all_goals go_wp2
  all_goals refine bodyPost_ret (results_tmp rfl _ _ _) rfl ?_
  · exact ⟨rfl, .inl rfl⟩
  · exact ⟨rfl, .inr rfl⟩

abbrev aNode : List AVal := [.int .i64 0, .int .i64 0, .slnil, .int .i64 0, .int .i64 0, .str [], .slnil, .str [], .str [], .str [], .bool false, .int .i64 0, .int .i64 0]

theorem node_rel (γ : Gh) : VRelV γ aNode zeroNode.toList := ⟨_, _, rfl, rfl, _, _, rfl, rfl, _, _, rfl, rfl, _, _, rfl, rfl, _, _, rfl, rfl, _, _, rfl, rfl, _, _, rfl, rfl, _, _, rfl, rfl, _, _, rfl, rfl, _, _, rfl, rfl, _, _, rfl, rfl, _, _, rfl, rfl, _, _, rfl, rfl, rfl⟩
theorem node_one : ∀ u ∈ zeroNode.toList, u.oneCell' = true := by decide

theorem prim36 (n : Nat) (args : List AVal) (r : AVal) (h' : AHeap) (hrun : IT.step (afun cx) (IT.run (afun cx) n) (pNewRef args) h = some (.ret, [r], h')) :
    (∃ fn c, cx.P.funcs[realOf 36]? = some fn ∧ (fn.name == "runtime.NumGoroutine") = false ∧ fn.body = some c) ∧
    ∀ (γ : Gh) (w : World) (cargs : Array Value), Inv γ h w → (∀ g cs, cx.glob g = some cs → VRelM γ cs g 0) → VRelV γ args cargs.toList →
      Calls cx.P (realOf 36) cargs w fun e w' => match e with
        | .returned v => ∃ γ', Inv γ' h' w' ∧ Acc γ w γ' w' ∧ VRel γ' r v ∧ (cx.ownRet 36 = true → ∃ s c, OwnT γ' w.heap.size w' s c v r)
        | _ => False := by
  refine ⟨⟨_, _, Proofs.Tryz.func36, rfl, rfl⟩, fun γ w cargs hi hg ha => ?_⟩
  cases args with
  | cons _ _ => cases hrun
  | nil =>
    have hc : cargs = #[] := by
      have := ha.length
      exact Array.eq_empty_of_size_eq_zero (by simpa using this)
    subst hc
    have hrun' : some (AExit.ret, [AVal.ptr (some (h.length + 3, 0))], h ++ [.dead] ++ [.cells aNode] ++ [.cells [.int .i64 0]] ++ [.cells [.msl (h.length + 1) 0 1 13, .msl (h.length + 2) 0 1 1]]) = some (.ret, [r], h') := hrun
    simp only [Option.some.injEq, Prod.mk.injEq, List.cons.injEq, and_true, true_and] at hrun'
    obtain ⟨rfl, rfl⟩ := hrun'
    refine (new36 w).mono fun e w' he => ?_
    obtain ⟨rfl, hw⟩ := he
    have L : ∀ l : AHeap, (l ++ [AObj.dead]).length = l.length + 1 := fun l => by simp
    have fin : ∀ (γ1 : Gh) (W : World), Inv γ1 (h ++ [.dead] ++ [.cells aNode] ++ [.cells [.int .i64 0]]) W → Acc γ w γ1 W → W.heap.size = w.heap.size + 1 + 1 → ∀ b1 b2, γ1.mu (h.length + 1) = some b1 → γ1.mu (h.length + 2) = some b2 → γ1.sz b1 = some 13 → γ1.sz b2 = some 1 →
        ∃ γ', Inv γ' (h ++ [.dead] ++ [.cells aNode] ++ [.cells [.int .i64 0]] ++ [.cells [.msl (h.length + 1) 0 1 13, .msl (h.length + 2) 0 1 1]]) (W.alloc (.cells #[.slice (some ⟨b1, 0, none⟩) 1 1, .slice (some ⟨b2, 0, none⟩) 1 1] 149)).drew ∧
          Acc γ w γ' (W.alloc (.cells #[.slice (some ⟨b1, 0, none⟩) 1 1, .slice (some ⟨b2, 0, none⟩) 1 1] 149)).drew ∧ VRel γ' (.ptr (some (h.length + 3, 0))) (.pointer (some ⟨w.heap.size + 1 + 1, 0, none⟩)) ∧ (cx.ownRet 36 = true → ∃ s c, OwnT γ' w.heap.size (W.alloc (.cells #[.slice (some ⟨b1, 0, none⟩) 1 1, .slice (some ⟨b2, 0, none⟩) 1 1] 149)).drew s c (.pointer (some ⟨w.heap.size + 1 + 1, 0, none⟩)) (.ptr (some (h.length + 3, 0)))) := by
      intro γ1 W hi1 ha1 hsz b1 b2 m1 m2 z1 z2
      obtain ⟨hi2, ha2⟩ := alloc_object hi1 (.cells #[.slice (some ⟨b1, 0, none⟩) 1 1, .slice (some ⟨b2, 0, none⟩) 1 1] 149 (0, 0)) (.cells [.msl (h.length + 1) 0 1 13, .msl (h.length + 2) 0 1 1]) (some 2)
        (.inl ⟨_, _, _, _, rfl, rfl, .inl rfl, ⟨_, _, rfl, ⟨b1, 1, m1, rfl, Nat.le_refl _, ⟨by decide, by decide⟩, z1⟩, _, _, rfl, ⟨b2, 1, m2, rfl, Nat.le_refl _, ⟨by decide, by decide⟩, z2⟩, rfl⟩, by simp [Value.oneCell'], rfl⟩)
      obtain ⟨hi3, ha3⟩ := hi2.of_below ((Below.refl _ _).drew)
      refine ⟨_, hi3, (ha1.trans ha2).trans ha3, ⟨W.heap.size, by simp [Gh.object], by rw [hsz]⟩, fun e => by cases e⟩
    rcases hw with rfl | rfl
    · obtain ⟨hi1, ha1⟩ := alloc_object hi.deadEnd (.cells zeroNode 76 (0, 0)) (.cells aNode) (some 13) (.inl ⟨_, _, _, _, rfl, rfl, .inl rfl, node_rel _, node_one, rfl⟩)
      obtain ⟨hi2, ha2⟩ := alloc_object hi1 (.cells #[.int .i64 0] 3 (0, 0)) (.cells [.int .i64 0]) (some 1) (.inl ⟨_, _, _, _, rfl, rfl, .inl rfl, ⟨_, [], rfl, rfl, rfl⟩, by simp [Value.oneCell'], rfl⟩)
      have ha0 : Acc γ w γ w := Acc.refl _ _
      have := fin _ _ hi2 ((ha0.trans ha1).trans ha2) (by simp) w.heap.size (w.heap.size + 1) (by simp [Gh.object]) (by simp [Gh.object]) (by simp [Gh.object]) (by simp [Gh.object])
      exact this
    · obtain ⟨hi1, ha1⟩ := alloc_object hi (.cells #[.int .i64 0] 3 (0, 0)) (.cells [.int .i64 0]) (some 1) (.inl ⟨_, _, _, _, rfl, rfl, .inl rfl, ⟨_, [], rfl, rfl, rfl⟩, by simp [Value.oneCell'], rfl⟩)
      obtain ⟨hi2, ha2⟩ := alloc_object hi1 (.cells zeroNode 76 (0, 0)) (.cells aNode) (some 13) (.inl ⟨_, _, _, _, rfl, rfl, .inl rfl, node_rel _, node_one, rfl⟩)
      have hw0 : ((w.alloc (.cells #[.int .i64 0] 3)).alloc (.cells zeroNode 76)).heap[w.heap.size]? = some (.cells #[.int .i64 0] 3 (0, 0)) := by
        rw [heap_alloc_lt _ _ (by simp)]; exact heap_alloc_new w _
      obtain ⟨γ2, hle, hm2, hr2, hsz2⟩ := hi2.rel.regrow (id := h.length) (g := w.heap.size) (cs := [.int .i64 0]) (by simp) (by simp [Gh.object]) hw0 (by simp [Gh.object]) #[.int .i64 0] [.int .i64 0] rfl (.inl rfl) ⟨_, [], rfl, rfl, rfl⟩ (by simp [Value.oneCell'])
      rw [setRow_self _ _ _ _ _ hw0] at hr2
      have hh : (h ++ [AObj.cells [AVal.int .i64 0]] ++ [AObj.cells aNode]).set h.length .dead ++ [AObj.cells [AVal.int .i64 0]] = h ++ [.dead] ++ [.cells aNode] ++ [.cells [.int .i64 0]] := by simp
      rw [hh] at hr2
      have := fin γ2 _ hr2.inv (((Acc.refl γ w).trans ha1).trans ha2 |>.trans hr2.acc) (by simp) (w.heap.size + 1) w.heap.size
        (hle.mu _ _ (by simp [Gh.object])) (by simpa using hm2) (hle.sz _ _ (by simp [Gh.object])) hsz2
      exact this
end
end Go.Am
