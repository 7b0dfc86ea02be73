/-
  (*arena.Arena).dump walked. No law is claimed here.
-/
import Derived.Test.YtpikmmnpebamnaaGreatDoorPDump
set_option linter.unusedSimpArgs false
set_option linter.unusedVariables false
namespace Go.Am
open Go Go.RowKit Go.Shelf

theorem kids_at {w : World} {b o : Nat} {kids : List (List AVal)} (h : KidsAt w b o kids) : ∃ p cap, w.cell? ⟨b, o, none⟩ = some (.slice p kids.length cap) ∧ kids.length ≤ cap ∧ cap ≤ maxLen ∧
    ∀ (i : Nat) (y : Int), kids[i]? = some [.int .i64 y] → ∃ gk ko, p = some ⟨gk, ko, none⟩ ∧ gk < w.heap.size ∧ w.cell? ⟨gk, ko + i, none⟩ = some (.int .i64 y) := by
  obtain ⟨v, hv, (⟨rfl, rfl⟩ | ⟨gk, ko, cap, rfl, h1, h2, h3, h4⟩)⟩ := h
  · exact ⟨none, 0, hv, Nat.le_refl _, by decide, fun i y hi => by simp at hi⟩
  · refine ⟨_, cap, hv, h1, h2, fun i y hi => ⟨gk, ko, rfl, h3, ?_⟩⟩
    obtain ⟨_, ⟨u, hu, hr⟩, _⟩ := VRelR.get h4 hi
    cases hr
    have := hu
    simp only [memGh, Option.filter_eq_some_iff] at this
    simpa using this.1

theorem strCells_mk (l : List UInt8) : Lib.strCells ⟨l.toArray⟩ = Lib.byteCells l := by simp [Lib.strCells, Lib.byteCells]
theorem strCells_mk' (l : List UInt8) : Lib.strCells ⟨⟨l⟩⟩ = Lib.byteCells l := by simp [Lib.strCells, Lib.byteCells]

theorem wrap_succ' (i n : Nat) (h : i < n) (hn : n ≤ 9223372036854775807) : wrap64 ((i : Int) + 1) = ((i + 1 : Nat) : Int) := by rw [Go.IntWalk.wrap64_in _ ⟨by omega, by omega⟩]; omega
theorem wrap_succ (d : Nat) (h : d ≤ 1000) : wrap64 ((d : Int) + 1) = ((d + 1 : Nat) : Int) := by rw [Go.IntWalk.wrap64_in _ ⟨by omega, by omega⟩]; omega

/-- What the dump of a node does to the builder. -/
abbrev Con (g : Nat) (w0 : World) (x : Int) (d : Nat) (acc acc' : Bytes) : Prop :=
  ∀ (B b : Nat) (W : World), w0.heap.size ≤ B → B ≤ W.heap.size → Below w0.heap.size w0 W → Lib.IsBuilder 144 5 B b (Lib.byteCells acc) W →
    Calls Proofs.Tryz.prog 85 #[.pointer (some ⟨g, 0, none⟩), .pointer (some ⟨b, 0, none⟩), .int .i64 x, .int .i64 d] W fun e W' => (∃ v, e = .returned v) ∧ Lib.IsBuilder 144 5 B b (Lib.byteCells acc') W' ∧ Below B W W'

theorem hide {p : Prop} (h : p) : Hid p := h
theorem cell_below {w0 W' : World} {k j : Nat} {v : Value} (hb : Below w0.heap.size w0 W') (h : w0.cell? ⟨k, j, none⟩ = some v) : W'.cell? ⟨k, j, none⟩ = some v := by
  rw [cell?_of_heap (hb.block k (lt_of_cell h))]; exact h

def lastOf : Code → Code
  | .seq _ c => lastOf c
  | .block _ c => c
  | c => c
noncomputable def tail85 : Code := match Proofs.Tryz.f85.body with
  | some c => lastOf c
  | none => .skip

set_option maxRecDepth 100000 in
set_option maxHeartbeats 2000000 in
theorem loop85 {w0 W W6 : World} {g B b d capk : Nat} {p : Option Addr} {kids : List (List AVal)} (hB : w0.heap.size ≤ B) (hBW : B ≤ W.heap.size) (hb : Below w0.heap.size w0 W) (hd : d ≤ 1000)
    (hk2 : kids.length ≤ capk) (hk3 : capk ≤ maxLen) (hk4 : ∀ (i : Nat) (y : Int), kids[i]? = some [.int .i64 y] → ∃ gk ko, p = some ⟨gk, ko, none⟩ ∧ gk < w0.heap.size ∧ w0.cell? ⟨gk, ko + i, none⟩ = some (.int .i64 y))
    (f : Nat → Bytes) (hf : ∀ i, i < kids.length → ∃ y, kids[i]? = some [.int .i64 y] ∧ Con g w0 y (d + 1) (f i) (f (i + 1))) (bb6 : Below B W W6) (l6 : Lib.IsBuilder 144 5 B b (Lib.byteCells (f 0)) W6)
    (z2 z4 z5 z6 z7 z8 z9 z10 z11 z12 z13 z14 z15 z16 z17 z18 z19 z20 z21 z22 z23 z24 z25 z26 z27 z28 z29 z30 z31 z32 z33 z34 z35 z36 z37 z38 z39 z40 z41 z42 z43 z44 z45 z49 z50 z51 z52 z53 z54 z55 z56 z57 z58 : Value) :
    tail85.wpIn Fence.wide 5 Proofs.Tryz.prog (Exit.inBlock 0 <| bodyPost Proofs.Tryz.prog Proofs.Tryz.f85 fun e W' => (∃ v, e = .returned v) ∧ Lib.IsBuilder 144 5 B b (Lib.byteCells (f kids.length)) W' ∧ Below B W W')
      { tmps := #[.pointer (some ⟨g, 0, none⟩), .pointer (some ⟨b, 0, none⟩), z2, .int .i64 d, z4, z5, z6, z7, z8, z9, z10, z11, z12, z13, z14, z15, z16, z17, z18, z19, z20, z21, z22, z23, z24, z25, z26, z27, z28, z29, z30, z31, z32, z33, z34, z35, z36, z37, z38, z39, z40, z41, z42, z43, z44, z45, .slice p kids.length capk, .int .i64 kids.length, .int .i64 0, z49, z50, z51, z52, z53, z54, z55, z56, z57, z58], defers := [] } W6 := by
  simp only [tail85, lastOf, Proofs.Tryz.f85]
  gi_loopg [48] kids.length (fun k v wr => ∃ i, i ≤ kids.length ∧ k = kids.length - i ∧ v = .int .i64 (i : Nat) ∧ Below B W wr ∧ Lib.IsBuilder 144 5 B b (Lib.byteCells (f i)) wr)
  case atStart => exact ⟨0, Nat.zero_le _, rfl, rfl, bb6, l6⟩
  case round =>
    obtain ⟨i, hi, rfl, rfl, bbi, li⟩ := hrel
    by_cases hlt : i < kids.length
    · obtain ⟨y, hy, hcon2⟩ := hf i hlt
      obtain ⟨gk, ko, rfl, hgk, hcell⟩ := hk4 i y hy
      have hbi : Below w0.heap.size w0 wr := hb.trans (bbi.mono hB)
      have ci := cell_below hbi hcell
      have hlti : (i : Int) < (kids.length : Int) := by exact_mod_cast hlt
      have hwi := wrap_succ' i _ hlt (Nat.le_trans hk2 hk3)
      have hwd := wrap_succ d hd
      have hcc := hcon2 B b _ hB (Nat.le_trans hBW bbi.size) hbi li
      clear hcon2 hf hk4 hk2 hk3 hbi li l6 bb6 hcell hy hgk hB hBW hb
      rw [show ((d + 1 : Nat) : Int) = (d : Int) + 1 from rfl] at hcc
      gi_wp2
      refine ⟨trivial, (callsIn_wide.2 hcc).mono ?_⟩
      rintro e W7 ⟨⟨v, rfl⟩, l7, b7⟩
      gi_wp2
      gi_roundg (kids.length - (i + 1))
      case measure => exact Nat.sub_lt_sub_left hlt (Nat.lt_succ_self i)
      case rel =>
        refine ⟨i + 1, hlt, rfl, ?_, bbi.trans b7, l7⟩
        first | rfl | exact congrArg (Value.int .i64) hwi
    · obtain rfl : i = kids.length := Nat.le_antisymm hi (Nat.le_of_not_lt hlt)
      gi_wp2
      go_end0
      exact ⟨⟨_, rfl⟩, li, bbi⟩

set_option maxRecDepth 100000 in
set_option maxHeartbeats 2000000 in
theorem walk85 {w0 : World} {g gn off n cap : Nat} {c x : Int} {kids : List (List AVal)} (hgs : g < w0.heap.size) (hgn : gn < w0.heap.size) (hc : w0.cell? ⟨g, 0, none⟩ = some (.slice (some ⟨gn, off, none⟩) n cap)) (hcap : n ≤ cap) (hm : cap ≤ maxLen)
    (hx1 : 1 ≤ x) (hx2 : x ≤ n) (h11 : w0.cell? ⟨gn, off + (x.toNat - 1) * 13 + 11, none⟩ = some (.int .i64 c)) (hk : KidsAt w0 gn (off + (x.toNat - 1) * 13 + 2) kids)
    {d : Nat} (hd : d ≤ 1000) {acc acc2 s : Bytes}
    (hline : ∀ W, Below w0.heap.size w0 W → Calls Proofs.Tryz.prog 146 #[.pointer (some ⟨gn, off + (x.toNat - 1) * 13, none⟩)] W fun e W' => e = .returned (.string ⟨⟨s⟩⟩) ∧ Below W.heap.size W W')
    (hlen : (acc ++ List.replicate (2 * d) 32 ++ s ++ [10]).length ≤ maxBytes)
    (hcont : (c = 0 ∧ acc2 = acc ++ List.replicate (2 * d) 32 ++ s ++ [10]) ∨ (c ≠ 0 ∧ Con g w0 c (d + 1) (acc ++ List.replicate (2 * d) 32 ++ s ++ [10]) acc2))
    (f : Nat → Bytes) (hf0 : f 0 = acc2) (hf : ∀ i, i < kids.length → ∃ y, kids[i]? = some [.int .i64 y] ∧ Con g w0 y (d + 1) (f i) (f (i + 1))) :
    Con g w0 x d acc (f kids.length) := by
  intro B b W hB hBW hb hbl
  obtain ⟨p, capk, hk1, hk2, hk3, hk4⟩ := kids_at hk
  have hmb : maxBytes = 140737488355328 := rfl
  simp only [List.length_append, List.length_replicate, List.length_cons, List.length_nil] at hlen
  have m1 : 2 * d ≤ 140737488355328 := by rw [hmb] at hlen; omega
  have m2 : (Lib.byteCells acc).length + (⟨(List.replicate (2 * d) (32 : UInt8)).toArray⟩ : ByteArray).size ≤ 140737488355328 := by rw [hmb] at hlen; rw [byteCells_length]; simp only [ByteArray.size, List.size_toArray, List.length_replicate]; omega
  have m3 : (Lib.byteCells (acc ++ List.replicate (2 * d) 32)).length + (⟨⟨s⟩⟩ : ByteArray).size ≤ 140737488355328 := by rw [hmb] at hlen; rw [byteCells_length]; simp only [ByteArray.size, List.length_append, List.length_replicate]; show _ + s.length ≤ _; omega
  have m4 : (Lib.byteCells (acc ++ List.replicate (2 * d) 32 ++ s)).length + 1 ≤ 140737488355328 := by rw [hmb] at hlen; rw [byteCells_length]; simp only [List.length_append, List.length_replicate]; omega
  have m5 : d ≤ 9223372036854775807 := Nat.le_trans hd (by decide)
  clear hlen hmb
  have Hline := hide hline
  have Hcont := hide hcont
  have Hf := hide hf
  have Hk4 := hide hk4
  have Hk2 := hide hk2
  have Hk3 := hide hk3
  clear hline hcont hf hk4 hk hk2 hk3
  refine (callsIn_wide (n := 5)).1 ?_
  refine callsIn_of_wp Proofs.Tryz.func85 rfl trivial ?_ rfl
  simp only [Proofs.Tryz.ntmps85, List.size_toArray, List.length_cons, List.length_nil, Nat.reduceAdd, Nat.reduceSub, Array.replicate_succ, Array.replicate_zero, List.push_toArray, List.append_toArray, List.nil_append, List.cons_append]
  gi_wp2
  refine ⟨trivial, (callsIn_wide.2 (at43 g gn off n cap x _ (cell_below hb hc) hx1 hx2 hcap hm)).mono ?_⟩
  rintro e w' ⟨rfl, rfl⟩
  gi_wp2
  refine ⟨trivial, (callsIn_wide.2 (Proofs.Tryz.strings_Repeat ⟨#[32, 32]⟩ d _ m5 m1)).mono ?_⟩
  rintro e W1 ⟨rfl, b1⟩
  have hb1 : Below w0.heap.size w0 W1 := hb.trans (b1.mono hb.size)
  have bb1 : Below B W W1 := b1.mono hBW
  have l1 := isBuilder_below hbl b1
  have hr : (Lib.repeatL (⟨#[32, 32]⟩ : ByteArray).data.toList d) = List.replicate (2 * d) 32 := repeat_two d
  rw [hr]
  gi_wp2
  refine ⟨trivial, (callsIn_wide.2 (Proofs.Tryz.Builder_WriteString B b (Lib.byteCells acc) _ _ l1 m2 (Nat.le_trans hBW bb1.size))).mono ?_⟩
  rintro e W2 ⟨rfl, l2, b2⟩
  rw [strCells_mk, ← byteCells_append] at l2
  have bb2 := bb1.trans b2
  have hb2 : Below w0.heap.size w0 W2 := hb1.trans (b2.mono hB)
  gi_wp2
  refine ⟨trivial, (callsIn_wide.2 (Hline.out _ hb2)).mono ?_⟩
  rintro e W3 ⟨rfl, b3⟩
  have hb3 : Below w0.heap.size w0 W3 := hb2.trans (b3.mono hb2.size)
  have bb3 : Below B W W3 := bb2.trans (b3.mono (Nat.le_trans hBW bb2.size))
  have l3 := isBuilder_below (.inr l2) b3
  gi_wp2
  refine ⟨trivial, (callsIn_wide.2 (Proofs.Tryz.Builder_WriteString B b _ _ _ l3 m3 (Nat.le_trans hBW bb3.size))).mono ?_⟩
  rintro e W4 ⟨rfl, l4, b4⟩
  rw [strCells_mk', ← byteCells_append] at l4
  have bb4 := bb3.trans b4
  have hb4 : Below w0.heap.size w0 W4 := hb3.trans (b4.mono hB)
  gi_wp2
  refine ⟨trivial, (callsIn_wide.2 (Proofs.Tryz.Builder_WriteByte B b _ 10 _ (.inr l4) m4 (Nat.le_trans hBW bb4.size))).mono ?_⟩
  rintro e W5 ⟨rfl, l5, b5⟩
  have e10 : Lib.byteCells (acc ++ List.replicate (2 * d) 32 ++ s) ++ [Value.int .u8 10] = Lib.byteCells (acc ++ List.replicate (2 * d) 32 ++ s ++ [10]) := by rw [byteCells_append (acc ++ List.replicate (2 * d) 32 ++ s) [10]]; rfl
  replace l5 := e10 ▸ l5
  have bb5 := bb4.trans b5
  have hb5 : Below w0.heap.size w0 W5 := hb4.trans (b5.mono hB)
  have c5 := cell_below hb5 h11
  clear hcap hm hx1 hx2 hc m1 m2 m3 m4 m5 l1 l3 l4 l2
  rcases Hcont.out with ⟨rfl, rfl⟩ | ⟨hc0, hcon⟩
  · have bb6 := bb5
    have l6 : Lib.IsBuilder 144 5 B b (Lib.byteCells (f 0)) W5 := by rw [hf0]; exact .inr l5
    have ck := cell_below hb5 hk1
    gi_wp2
    exact loop85 hB hBW hb hd Hk2.out Hk3.out Hk4.out f Hf.out bb6 l6 _ _ _ _ _ _ _ _ _ _ _ _ _ _ _ _ _ _ _ _ _ _ _ _ _ _ _ _ _ _ _ _ _ _ _ _ _ _ _ _ _ _ _ _ _ _ _ _ _ _ _ _ _
  · have hne : (c != 0) = true := by simp [hc0]
    have hwd := wrap_succ d hd
    have hcc0 := hcon B b _ hB (Nat.le_trans hBW bb5.size) hb5 (.inr l5)
    rw [show ((d + 1 : Nat) : Int) = (d : Int) + 1 from rfl] at hcc0
    gi_wp2
    refine ⟨trivial, (callsIn_wide.2 hcc0).mono ?_⟩
    rintro e W6 ⟨⟨v, rfl⟩, l6', b6⟩
    have bb6 := bb5.trans b6
    have hb6 : Below w0.heap.size w0 W6 := hb5.trans (b6.mono hB)
    have l6 : Lib.IsBuilder 144 5 B b (Lib.byteCells (f 0)) W6 := by rw [hf0]; exact l6'
    have ck := cell_below hb6 hk1
    gi_wp2
    exact loop85 hB hBW hb hd Hk2.out Hk3.out Hk4.out f Hf.out bb6 l6 _ _ _ _ _ _ _ _ _ _ _ _ _ _ _ _ _ _ _ _ _ _ _ _ _ _ _ _ _ _ _ _ _ _ _ _ _ _ _ _ _ _ _ _ _ _ _ _ _ _ _ _ _
end Go.Am
