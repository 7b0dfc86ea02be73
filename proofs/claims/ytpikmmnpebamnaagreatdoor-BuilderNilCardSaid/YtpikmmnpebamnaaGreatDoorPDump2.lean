/-
  (*arena.Arena).dump walked. No law is claimed here.
-/
import Derived.Test.YtpikmmnpebamnaaGreatDoorPDump
set_option linter.unusedSimpArgs false
set_option linter.unusedVariables false
namespace Go.Am
open Go Go.RowKit Go.Shelf

theorem kids_at {w : World} {b o : Nat} {kids : List (List AVal)} (h : KidsAt w b o kids) : ∃ p cap, w.cell? ⟨b, o, none⟩ = some (.slice p kids.length cap) ∧ kids.length ≤ cap ∧ cap ≤ maxLen ∧
    ∀ (i : Nat) (y : Int), kids[i]? = some [.int .i64 y] → ∃ gk ko, p = some ⟨gk, ko, none⟩ ∧ gk < w.heap.size ∧ w.cell? ⟨gk, ko + i, none⟩ = some (.int .i64 y) := by
  obtain ⟨v, hv, (⟨rfl, rfl⟩ | ⟨gk, ko, cap, rfl, h1, h2, h3, h4⟩)⟩ := h
  · exact ⟨none, 0, hv, Nat.le_refl _, by decide, fun i y hi => by simp at hi⟩
  · refine ⟨_, cap, hv, h1, h2, fun i y hi => ⟨gk, ko, rfl, h3, ?_⟩⟩
    obtain ⟨_, ⟨u, hu, hr⟩, _⟩ := VRelR.get h4 hi
    cases hr
    have := hu
    simp only [memGh, Option.filter_eq_some_iff] at this
    simpa using this.1

theorem strCells_mk (l : List UInt8) : Lib.strCells ⟨l.toArray⟩ = Lib.byteCells l := by simp [Lib.strCells, Lib.byteCells]
theorem strCells_mk' (l : List UInt8) : Lib.strCells ⟨⟨l⟩⟩ = Lib.byteCells l := by simp [Lib.strCells, Lib.byteCells]

theorem wrap_succ' (i n : Nat) (h : i < n) (hn : n ≤ 9223372036854775807) : wrap64 ((i : Int) + 1) = ((i + 1 : Nat) : Int) := by rw [Go.IntWalk.wrap64_in _ ⟨by omega, by omega⟩]; omega
theorem wrap_succ (d : Nat) (h : d ≤ 1000) : wrap64 ((d : Int) + 1) = ((d + 1 : Nat) : Int) := by rw [Go.IntWalk.wrap64_in _ ⟨by omega, by omega⟩]; omega

/-- What the dump of a node does to the builder. -/
abbrev Con (g : Nat) (w0 : World) (x : Int) (d : Nat) (acc acc' : Bytes) : Prop :=
  ∀ (B b : Nat) (W : World), w0.heap.size ≤ B → B ≤ W.heap.size → Below w0.heap.size w0 W → Lib.IsBuilder 144 5 B b (Lib.byteCells acc) W →
    Calls Proofs.Tryz.prog 85 #[.pointer (some ⟨g, 0, none⟩), .pointer (some ⟨b, 0, none⟩), .int .i64 x, .int .i64 d] W fun e W' => (∃ v, e = .returned v) ∧ Lib.IsBuilder 144 5 B b (Lib.byteCells acc') W' ∧ Below B W W'

end Go.Am
