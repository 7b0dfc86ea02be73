/-
  (*arena.Arena).Dump: what is read. No law is claimed here.
-/
import Derived.Test.YtpikmmnpebamnaaGreatDoorPCon2
import Derived.Test.YtpikmmnpebamnaaGreatDoorShelf
set_option linter.unusedSimpArgs false
set_option linter.unusedVariables false
namespace Go.Am
open Go Go.RowKit Go.Shelf

theorem isBuilder_below {T e : TypeId} {B b : Nat} {bs : List Value} {W W' : World} (h : Lib.IsBuilder T e B b bs W) (hb : Below W.heap.size W W') : Lib.IsBuilder T e B b bs W' := by
  have key : ∀ p, Lib.BuilderAt T e B b p bs W → Lib.BuilderAt T e B b p bs W' := fun p ⟨hB, v, hbk, hown, hne⟩ => by
    refine ⟨hB, v, (hb.block b (Array.getElem?_eq_some_iff.1 hbk).1).trans hbk, ?_, hne⟩
    exact hown.kept (row := none) ⟨hb.os, hb.tape, hb.output, hb.size, fun k hk _ => hb.block k hk⟩ (Classical.em _)
  exact h.imp (key _) (key _)

theorem byteCells_str (l : List UInt8) : Lib.strCells ⟨⟨l⟩⟩ = Lib.byteCells l := rfl
theorem byteCells_append (a b : List UInt8) : Lib.byteCells (a ++ b) = Lib.byteCells a ++ Lib.byteCells b := by simp [Lib.byteCells]
theorem byteCells_length (a : List UInt8) : (Lib.byteCells a).length = a.length := by simp [Lib.byteCells]
theorem repeat_two (d : Nat) : Lib.repeatL [32, 32] d = List.replicate (2 * d) 32 := by
  induction d with
  | zero => rfl
  | succ d ih => rw [Lib.repeatL, ih, show 2 * (d + 1) = 2 * d + 1 + 1 by omega, List.replicate_succ, List.replicate_succ]; rfl

theorem flat_still : ∀ a : AVal, a.flat = true → a.still = true
  | .bool _, _ => rfl
  | .int _ _, _ => rfl
  | .str _, _ => rfl
  | a, h => by cases a <;> first | rfl | simp [AVal.flat] at h
theorem flats_still : ∀ l : List AVal, l.all AVal.flat = true → stillL l = true
  | [], _ => rfl
  | a :: l, h => by
    simp only [List.all_cons, Bool.and_eq_true] at h
    simp only [stillL, Bool.and_eq_true]
    exact ⟨flat_still a h.1, flats_still l h.2⟩

section
variable {γ : Gh} {h : AHeap} {w : World}

/-- What is in the memory that an object of one-cell rows holds. -/
theorem rows_mem (hi : Inv γ h w) {id g : Nat} {cs : List AVal} (hc : h[id]? = some (.cells cs)) (hm : γ.mu id = some g) : ∀ (n o : Nat), o + n ≤ cs.length → stillLL (rowsFrom cs 1 o n) = true →
    (rowsFrom cs 1 o n).length = n ∧ VRelR (memGh w) (rowsFrom cs 1 o n) 1 g o
  | 0, o, _, _ => ⟨rfl, trivial⟩
  | n + 1, o, hl, hs => by
    have hlt : o < cs.length := by omega
    have e1 : (cs.drop o).take 1 = [cs[o]] := by
      rw [List.drop_eq_getElem_cons hlt]; rfl
    have hs' : stillL ((cs.drop o).take 1) = true ∧ stillLL (rowsFrom cs 1 (o + 1) n) = true := by
      simpa only [rowsFrom, stillLL, Bool.and_eq_true] using hs
    obtain ⟨p, q⟩ := rows_mem hi hc hm n (o + 1) (by omega) hs'.2
    rw [e1] at hs'
    have hst : cs[o].still = true := by simpa [stillL] using hs'.1
    obtain ⟨u, hu, h1, hr⟩ := cells_mem hi hc hm (List.getElem?_eq_getElem hlt)
    refine ⟨by simp [rowsFrom, p], ?_⟩
    simp only [rowsFrom, e1]
    exact ⟨rfl, ⟨⟨u, memImm hu h1, VRel.mem hi _ _ hst hr⟩, trivial⟩, q⟩

/-- A node's children, as they lie. -/
def KidsAt (w : World) (b o : Nat) (kids : List (List AVal)) : Prop :=
  ∃ v, w.cell? ⟨b, o, none⟩ = some v ∧ ((v = .slice none 0 0 ∧ kids = []) ∨
    (∃ gk ko cap, v = .slice (some ⟨gk, ko, none⟩) kids.length cap ∧ kids.length ≤ cap ∧ cap ≤ maxLen ∧ gk < w.heap.size ∧ VRelR (memGh w) kids 1 gk ko))

theorem gRow_mem (hi : Inv γ h w) {id g : Nat} (hm : γ.mu id = some g) {x : Int} {h1 : AHeap} {r : AVal} (e : gRow h [.ptr (some (id, 0)), .int .i64 x] = some (h1, r)) :
    h1 = h ∧ ∃ gn off n cap row c kids, r = .tuple [.rptr row, .int .i64 c, .sl 1 kids] ∧ g < w.heap.size ∧ gn < w.heap.size ∧ w.cell? ⟨g, 0, none⟩ = some (.slice (some ⟨gn, off, none⟩) n cap) ∧ n ≤ cap ∧ cap ≤ maxLen ∧
      1 ≤ x ∧ x ≤ n ∧ VRelM (memGh w) row gn (off + (x.toNat - 1) * 13) ∧ w.cell? ⟨gn, off + (x.toNat - 1) * 13 + 11, none⟩ = some (.int .i64 c) ∧ KidsAt w gn (off + (x.toNat - 1) * 13 + 2) kids := by
  unfold gRow at e
  split at e
  · rename_i id' x' heq
    cases heq
    split at e
    · rename_i nid off n l hc
      split at e
      · rename_i cs hcs
        split at e
        · rename_i hx
          split at e
          · rename_i c0 c1 c2 c3 c4 c5 c6 c7 c8 c9 c10 c c12 hrow
            split at e
            · rename_i hst
              simp only [stillL, Bool.and_eq_true, and_true] at hst
              obtain ⟨s0, s1, s3, s4, s5, s6, s7, s8, s9, s10, s12⟩ := hst
              obtain ⟨_, y, hy, gn, cap, hmn, rfl, q1, ⟨q2, q3⟩, q4⟩ := hi.cell1 hc hm (j := 0) rfl
              have hgn : gn < w.heap.size := by
                obtain ⟨⟨us, e, fr, p1, p2⟩, _⟩ := hi.sz gn _ q4
                exact (Array.getElem?_eq_some_iff.1 p1).1
              have get : ∀ (j : Nat) (a : AVal), j < 13 → [c0, c1, c2, c3, c4, c5, c6, c7, c8, c9, c10, .int .i64 c, c12][j]? = some a → cs[off + (x.toNat - 1) * 13 + j]? = some a := fun j a hj ha => by
                rw [← hrow, List.getElem?_take_of_lt hj, List.getElem?_drop] at ha
                exact ha
              have key : ∀ (j : Nat) (a : AVal), j < 13 → [c0, c1, c2, c3, c4, c5, c6, c7, c8, c9, c10, .int .i64 c, c12][j]? = some a → a.still = true → ∃ u, (memGh w).imm gn (off + (x.toNat - 1) * 13 + j) = some u ∧ VRel (memGh w) a u := fun j a hj ha hs => by
                obtain ⟨u, hu, ho, hr⟩ := cells_mem hi hcs hmn (get j a hj ha)
                exact ⟨u, memImm hu ho, VRel.mem hi _ _ hs hr⟩
              have c11 : w.cell? ⟨gn, off + (x.toNat - 1) * 13 + 11, none⟩ = some (.int .i64 c) := by
                obtain ⟨u, hu, _, hr⟩ := cells_mem hi hcs hmn (get 11 _ (by omega) rfl)
                cases hr; exact hu
              obtain ⟨u2, hu2, ho2, hr2⟩ := cells_mem hi hcs hmn (get 2 c2 (by omega) rfl)
              have mk : ∀ (k2 : AVal), (∃ u, (memGh w).imm gn (off + (x.toNat - 1) * 13 + 2) = some u ∧ VRel (memGh w) k2 u) → VRelM (memGh w) [c0, c1, k2, c3, c4, c5, c6, c7, c8, c9, c10, .int .i64 c, c12] gn (off + (x.toNat - 1) * 13) := fun k2 h2 =>
                ⟨key 0 c0 (by omega) rfl s0, key 1 c1 (by omega) rfl s1, h2, key 3 c3 (by omega) rfl s3, key 4 c4 (by omega) rfl s4, key 5 c5 (by omega) rfl s5, key 6 c6 (by omega) rfl s6, key 7 c7 (by omega) rfl s7, key 8 c8 (by omega) rfl s8, key 9 c9 (by omega) rfl s9, key 10 c10 (by omega) rfl s10, key 11 _ (by omega) rfl rfl, key 12 c12 (by omega) rfl s12, trivial⟩
              have hg := lt_of_cell hy
              split at e
              · cases e
                cases hr2
                exact ⟨rfl, gn, off, n, cap, _, c, [], rfl, hg, hgn, hy, q1, q3, hx.1, hx.2.1, mk _ ⟨_, memImm hu2 ho2, rfl⟩, c11, _, hu2, .inl ⟨rfl, rfl⟩⟩
              · rename_i kid ko m
                split at e
                · rename_i ks hks
                  split at e
                  · rename_i hk
                    cases e
                    obtain ⟨gk, capk, hmk, rfl, r1, ⟨r2, r3⟩, r4⟩ := hr2
                    obtain ⟨t1, t2⟩ := rows_mem hi hks hmk m ko (by omega) hk.2
                    have hgk : gk < w.heap.size := by
                      obtain ⟨⟨us, e, fr, p1, p2⟩, _⟩ := hi.sz gk _ r4
                      exact (Array.getElem?_eq_some_iff.1 p1).1
                    refine ⟨rfl, gn, off, n, cap, _, c, rowsFrom ks 1 ko m, rfl, hg, hgn, hy, q1, q3, hx.1, hx.2.1, mk _ ⟨_, memImm hu2 ho2, ⟨gk, ko, none⟩, capk, by rw [t1], by rw [t1]; exact r1, .inl rfl, t2⟩, c11, _, hu2, .inr ⟨gk, ko, capk, by rw [t1], by rw [t1]; exact r1, r3, hgk, t2⟩⟩
                  · cases e
                · cases e
              · cases e
            · cases e
          · cases e
        · cases e
      · cases e
    · cases e
  · cases e

/-- A node's line. -/
theorem line146 {n : Nat} (hs : SimCalls cx (IT.run (afun cx) n)) (hi : Inv γ h w) (hg : ∀ g cs, cx.glob g = some cs → VRelM γ cs g 0) {row : List AVal} {s : Bytes} {h1 : AHeap} (e : IT.run (afun cx) n (afun cx 146 [.rptr row]) [] = some (.ret, [.str s], h1))
    {W : World} (hb : Below w.heap.size w W) {gn o : Nat} (hr : VRelM (memGh w) row gn o) :
    Calls Proofs.Tryz.prog 146 #[.pointer (some ⟨gn, o, none⟩)] W fun e W' => e = .returned (.string ⟨⟨s⟩⟩) ∧ Below W.heap.size W W' := by
  refine ((hs.2 146 _ _ _ _ e).2 (memGh W) W #[.pointer (some ⟨gn, o, none⟩)] (memInv W) (fun g cs hgc => VRelM.mono (memGh_le hb) cs g 0 (VRelM.mem hi cs g 0 (flats_still cs (hs.1.1 g cs hgc)) (hg g cs hgc)))
    ⟨_, _, rfl, ⟨gn, o, rfl, VRelM.mono (memGh_le hb) row gn o hr⟩, rfl⟩).mono fun e W' he => ?_
  cases e with
  | returned v =>
    obtain ⟨γ', _, ha, hv, _⟩ := he
    cases hv
    exact ⟨rfl, ha.os, ha.tape, ha.output, ha.size, fun k hk => (ha.keep k hk (fun id => by simp [memGh])).1⟩
  | _ => exact he.elim
end
end Go.Am
