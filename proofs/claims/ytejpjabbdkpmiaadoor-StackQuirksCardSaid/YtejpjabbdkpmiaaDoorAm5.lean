/-
  How the values, the heap and the frames of the abstract machine stand to the model's. No law is claimed here.
-/
import Derived.Test.YtejpjabbdkpmiaaDoorAm4
import Derived.Orders
import Derived.Laws.AppendOwn
import Derived.Laws.Tables
import Derived.Laws.Rows
set_option linter.unusedSimpArgs false
set_option linter.unusedVariables false
namespace Go.Am

inductive Owner where
  | obj (id : Nat)
  | loc (s : Nat)
  | tail (s : Nat) (c : Option Nat) (start : Nat)

def Owner.isObj : Owner → Bool
  | .obj _ => true
  | _ => false

/-- What is known beside the world: cells that never change; the block of each object of the abstract heap; who owns a block. -/
structure Gh where
  imm : Nat → Nat → Option Value
  mu : Nat → Option Nat
  own : Nat → Option Owner

mutual
def VRel (γ : Gh) : AVal → Value → Prop
  | .bool b, v => v = .bool b
  | .int k n, v => v = .int k n
  | .str s, v => v = .string ⟨⟨s⟩⟩
  | .ptr none, v => v = .pointer none
  | .ptr (some (id, o)), v => ∃ b, γ.mu id = some b ∧ v = .pointer (some ⟨b, o, none⟩)
  | .rptr cs, v => ∃ b o, v = .pointer (some ⟨b, o, none⟩) ∧ VRelM γ cs b o
  | .sl z rows, v => ∃ ad cap, v = .slice (some ad) rows.length cap ∧ rows.length ≤ cap ∧ (ad.spot = none ∨ cap = 0) ∧ VRelR γ rows z ad.block ad.off
  | .slnil, v => v = .slice none 0 0
  | .msl id off len z, v => ∃ b cap, γ.mu id = some b ∧ v = .slice (some ⟨b, off, none⟩) len cap ∧ len ≤ cap ∧ 0 < z
  | .map none, v => v = .map none
  | .map (some id), v => ∃ b, γ.mu id = some b ∧ v = .map (some b)
  | .func fn f c, v => ∃ fs cs, v = .func fn fs cs ∧ VRelV γ f fs.toList ∧ VRelV γ c cs.toList
  | .nilFunc, v => v = .nilFunc
  | .iface t a, v => ∃ u, v = .iface t u ∧ VRel γ a u
  | .nilIface, v => v = .nilIface
  | .agg cs, v => ∃ us, v = .agg us ∧ VRelV γ cs us.toList ∧ ∀ u ∈ us.toList, u.oneCell' = true
  | .tuple vs, v => ∃ us, v = .tuple us ∧ VRelV γ vs us.toList
def VRelV (γ : Gh) : List AVal → List Value → Prop
  | [], us => us = []
  | a :: l, us => ∃ u us', us = u :: us' ∧ VRel γ a u ∧ VRelV γ l us'
def VRelM (γ : Gh) : List AVal → Nat → Nat → Prop
  | [], _, _ => True
  | a :: l, b, o => (∃ u, γ.imm b o = some u ∧ VRel γ a u) ∧ VRelM γ l b (o + 1)
def VRelR (γ : Gh) : List (List AVal) → Nat → Nat → Nat → Prop
  | [], _, _, _ => True
  | r :: rs, z, b, o => r.length = z ∧ VRelM γ r b o ∧ VRelR γ rs z b (o + z)
end

structure Gh.le (γ γ' : Gh) : Prop where
  imm : ∀ b o v, γ.imm b o = some v → γ'.imm b o = some v
  mu : ∀ id b, γ.mu id = some b → γ'.mu id = some b

theorem Gh.le.refl (γ : Gh) : γ.le γ := ⟨fun _ _ _ h => h, fun _ _ h => h⟩
theorem Gh.le.trans {a b c : Gh} (h : a.le b) (k : b.le c) : a.le c := ⟨fun _ _ _ x => k.imm _ _ _ (h.imm _ _ _ x), fun _ _ x => k.mu _ _ (h.mu _ _ x)⟩

mutual
theorem VRel.mono {γ γ' : Gh} (hle : γ.le γ') : ∀ (a : AVal) (v : Value), VRel γ a v → VRel γ' a v
  | .bool b, v, h => h
  | .int k n, v, h => h
  | .str s, v, h => h
  | .ptr none, v, h => h
  | .ptr (some (id, o)), v, h => by
    obtain ⟨b, hb, hv⟩ := h
    exact ⟨b, hle.mu _ _ hb, hv⟩
  | .rptr cs, v, h => by
    obtain ⟨b, o, hv, hm⟩ := h
    exact ⟨b, o, hv, VRelM.mono hle cs b o hm⟩
  | .sl z rows, v, h => by
    obtain ⟨ad, cap, hv, hc, hs, hm⟩ := h
    exact ⟨ad, cap, hv, hc, hs, VRelR.mono hle rows z _ _ hm⟩
  | .slnil, v, h => h
  | .msl id off len z, v, h => by
    obtain ⟨b, cap, hb, hv⟩ := h
    exact ⟨b, cap, hle.mu _ _ hb, hv⟩
  | .map none, v, h => h
  | .map (some id), v, h => by
    obtain ⟨b, hb, hv⟩ := h
    exact ⟨b, hle.mu _ _ hb, hv⟩
  | .func fn f c, v, h => by
    obtain ⟨fs, cs, hv, h1, h2⟩ := h
    exact ⟨fs, cs, hv, VRelV.mono hle f _ h1, VRelV.mono hle c _ h2⟩
  | .nilFunc, v, h => h
  | .iface t a, v, h => by
    obtain ⟨u, hv, h1⟩ := h
    exact ⟨u, hv, VRel.mono hle a u h1⟩
  | .nilIface, v, h => h
  | .agg cs, v, h => by
    obtain ⟨us, hv, h1, h2⟩ := h
    exact ⟨us, hv, VRelV.mono hle cs _ h1, h2⟩
  | .tuple vs, v, h => by
    obtain ⟨us, hv, h1⟩ := h
    exact ⟨us, hv, VRelV.mono hle vs _ h1⟩
theorem VRelV.mono {γ γ' : Gh} (hle : γ.le γ') : ∀ (l : List AVal) (us : List Value), VRelV γ l us → VRelV γ' l us
  | [], us, h => h
  | a :: l, us, h => by
    obtain ⟨u, us', hu, h1, h2⟩ := h
    exact ⟨u, us', hu, VRel.mono hle a u h1, VRelV.mono hle l us' h2⟩
theorem VRelM.mono {γ γ' : Gh} (hle : γ.le γ') : ∀ (l : List AVal) (b o : Nat), VRelM γ l b o → VRelM γ' l b o
  | [], _, _, _ => trivial
  | a :: l, b, o, h => by
    obtain ⟨⟨u, hu, h1⟩, h2⟩ := h
    exact ⟨⟨u, hle.imm _ _ _ hu, VRel.mono hle a u h1⟩, VRelM.mono hle l b (o + 1) h2⟩
theorem VRelR.mono {γ γ' : Gh} (hle : γ.le γ') : ∀ (rs : List (List AVal)) (z b o : Nat), VRelR γ rs z b o → VRelR γ' rs z b o
  | [], _, _, _, _ => trivial
  | r :: rs, z, b, o, h => ⟨h.1, VRelM.mono hle r b o h.2.1, VRelR.mono hle rs z b (o + z) h.2.2⟩
end

theorem VRelV.length {γ : Gh} : ∀ {l : List AVal} {us : List Value}, VRelV γ l us → us.length = l.length
  | [], us, h => by rw [VRelV] at h; subst h; rfl
  | a :: l, us, h => by
    rw [VRelV] at h
    obtain ⟨u, us', rfl, _, h2⟩ := h
    simp [h2.length]

theorem VRelV.get {γ : Gh} : ∀ {l : List AVal} {us : List Value}, VRelV γ l us → ∀ {i : Nat} {a : AVal}, l[i]? = some a → ∃ u, us[i]? = some u ∧ VRel γ a u
  | [], us, h, i, a, hi => by simp at hi
  | x :: l, us, h, i, a, hi => by
    rw [VRelV] at h
    obtain ⟨u, us', rfl, h1, h2⟩ := h
    cases i with
    | zero => simp at hi; subst hi; exact ⟨u, rfl, h1⟩
    | succ i => simp at hi; obtain ⟨v, hv, hr⟩ := h2.get hi; exact ⟨v, by simpa using hv, hr⟩

theorem VRelV.of_get {γ : Gh} : ∀ {l : List AVal} {us : List Value}, us.length = l.length → (∀ (i : Nat) (a : AVal) (u : Value), l[i]? = some a → us[i]? = some u → VRel γ a u) → VRelV γ l us
  | [], us, hl, _ => by rw [VRelV]; exact List.eq_nil_of_length_eq_zero hl
  | x :: l, [], hl, _ => by simp at hl
  | x :: l, u :: us, hl, h => by
    rw [VRelV]
    exact ⟨u, us, rfl, h 0 x u rfl rfl, VRelV.of_get (by simpa using hl) fun i a v hi hv => h (i + 1) a v (by simpa using hi) (by simpa using hv)⟩

theorem VRelV.append {γ : Gh} : ∀ {l l' : List AVal} {us us' : List Value}, VRelV γ l us → VRelV γ l' us' → VRelV γ (l ++ l') (us ++ us')
  | [], l', us, us', h, h' => by rw [VRelV] at h; subst h; simpa using h'
  | a :: l, l', us, us', h, h' => by
    rw [VRelV] at h
    obtain ⟨u, r, rfl, h1, h2⟩ := h
    rw [List.cons_append, VRelV]
    exact ⟨u, r ++ us', rfl, h1, h2.append h'⟩

theorem VRelV.take {γ : Gh} {l : List AVal} {us : List Value} (h : VRelV γ l us) (n : Nat) : VRelV γ (l.take n) (us.take n) := by
  refine VRelV.of_get (by simp [h.length]) fun i a u hi hu => ?_
  rw [List.getElem?_take] at hi hu
  split at hi
  · rename_i hlt
    rw [if_pos hlt] at hu
    obtain ⟨v, hv, hr⟩ := h.get hi
    rw [hu] at hv; cases hv; exact hr
  · cases hi

theorem VRelV.drop {γ : Gh} {l : List AVal} {us : List Value} (h : VRelV γ l us) (n : Nat) : VRelV γ (l.drop n) (us.drop n) := by
  refine VRelV.of_get (by simp [h.length]) fun i a u hi hu => ?_
  rw [List.getElem?_drop] at hi hu
  obtain ⟨v, hv, hr⟩ := h.get hi
  rw [hu] at hv; cases hv; exact hr

theorem VRelM.get {γ : Gh} : ∀ {l : List AVal} {b o : Nat}, VRelM γ l b o → ∀ {i : Nat} {a : AVal}, l[i]? = some a → ∃ u, γ.imm b (o + i) = some u ∧ VRel γ a u
  | [], b, o, h, i, a, hi => by simp at hi
  | x :: l, b, o, h, i, a, hi => by
    rw [VRelM] at h
    obtain ⟨⟨u, hu, h1⟩, h2⟩ := h
    cases i with
    | zero => simp at hi; subst hi; exact ⟨u, hu, h1⟩
    | succ i =>
      simp at hi
      obtain ⟨v, hv, hr⟩ := h2.get hi
      exact ⟨v, by rw [← hv]; congr 1; omega, hr⟩

theorem VRelM.of_get {γ : Gh} : ∀ {l : List AVal} {b o : Nat}, (∀ (i : Nat) (a : AVal), l[i]? = some a → ∃ u, γ.imm b (o + i) = some u ∧ VRel γ a u) → VRelM γ l b o
  | [], b, o, h => by rw [VRelM]; trivial
  | x :: l, b, o, h => by
    rw [VRelM]
    refine ⟨h 0 x rfl, VRelM.of_get fun i a hi => ?_⟩
    obtain ⟨u, hu, hr⟩ := h (i + 1) a (by simpa using hi)
    exact ⟨u, by rw [← hu]; congr 1; omega, hr⟩

theorem VRelM.drop {γ : Gh} {l : List AVal} {b o : Nat} (h : VRelM γ l b o) (n : Nat) : VRelM γ (l.drop n) b (o + n) := by
  refine VRelM.of_get fun i a hi => ?_
  rw [List.getElem?_drop] at hi
  obtain ⟨u, hu, hr⟩ := h.get hi
  exact ⟨u, by rw [← hu]; congr 1; omega, hr⟩

/-- The concrete values of a row of memory. -/
theorem VRelM.values {γ : Gh} : ∀ {l : List AVal} {b o : Nat}, VRelM γ l b o → ∃ us : List Value, VRelV γ l us ∧ ∀ (j : Nat) (u : Value), us[j]? = some u → γ.imm b (o + j) = some u
  | [], b, o, h => ⟨[], by rw [VRelV], by simp⟩
  | x :: l, b, o, h => by
    rw [VRelM] at h
    obtain ⟨⟨u, hu, h1⟩, h2⟩ := h
    obtain ⟨us, hr, hi⟩ := h2.values
    refine ⟨u :: us, by rw [VRelV]; exact ⟨u, us, rfl, h1, hr⟩, fun j v hj => ?_⟩
    cases j with
    | zero => simp at hj; subst hj; exact hu
    | succ j => simp at hj; rw [← hi j v hj]; congr 1; omega

theorem VRelR.get {γ : Gh} : ∀ {rs : List (List AVal)} {z b o : Nat}, VRelR γ rs z b o → ∀ {i : Nat} {r : List AVal}, rs[i]? = some r → r.length = z ∧ VRelM γ r b (o + i * z)
  | [], z, b, o, h, i, r, hi => by simp at hi
  | x :: rs, z, b, o, h, i, r, hi => by
    rw [VRelR] at h
    cases i with
    | zero => simp at hi; subst hi; simpa using ⟨h.1, h.2.1⟩
    | succ i =>
      simp at hi
      obtain ⟨h1, h2⟩ := h.2.2.get hi
      exact ⟨h1, by rw [show o + (i + 1) * z = o + z + i * z by rw [Nat.add_mul, Nat.one_mul]; omega]; exact h2⟩

theorem VRelR.of_get {γ : Gh} : ∀ {rs : List (List AVal)} {z b o : Nat}, (∀ (i : Nat) (r : List AVal), rs[i]? = some r → r.length = z ∧ VRelM γ r b (o + i * z)) → VRelR γ rs z b o
  | [], z, b, o, h => by rw [VRelR]; trivial
  | x :: rs, z, b, o, h => by
    rw [VRelR]
    have h0 := h 0 x rfl
    refine ⟨h0.1, by simpa using h0.2, VRelR.of_get fun i r hi => ?_⟩
    obtain ⟨h1, h2⟩ := h (i + 1) r (by simpa using hi)
    exact ⟨h1, by rw [show o + z + i * z = o + (i + 1) * z by rw [Nat.add_mul, Nat.one_mul]; omega]; exact h2⟩

theorem VRelR.length {γ : Gh} : ∀ {rs : List (List AVal)} {z b o : Nat}, VRelR γ rs z b o → rs.flatten.length = rs.length * z
  | [], z, b, o, h => by simp
  | x :: rs, z, b, o, h => by
    rw [VRelR] at h
    simp [h.1, h.2.2.length, Nat.add_mul, Nat.add_comm]

/-- A slice that has elements has a plain address. -/
theorem plain_addr {ad : Addr} {n cap : Nat} (hs : ad.spot = none ∨ cap = 0) (hc : n ≤ cap) (hn : 0 < n) : ad = ⟨ad.block, ad.off, none⟩ := by
  rcases hs with hs | hs
  · cases ad; simp_all
  · omega

/-- The concrete values of the rows of a slice. -/
theorem VRelR.values {γ : Gh} : ∀ {rs : List (List AVal)} {z b o : Nat}, VRelR γ rs z b o → ∃ us : List Value, VRelV γ rs.flatten us ∧ us.length = rs.length * z ∧ ∀ (j : Nat) (u : Value), us[j]? = some u → γ.imm b (o + j) = some u
  | [], z, b, o, h => ⟨[], by simp [VRelV], by simp, by simp⟩
  | x :: rs, z, b, o, h => by
    rw [VRelR] at h
    obtain ⟨us, h1, h2⟩ := h.2.1.values
    obtain ⟨vs, h3, h4, h5⟩ := h.2.2.values
    have hl : us.length = z := by rw [h1.length, h.1]
    refine ⟨us ++ vs, by simpa using h1.append h3, by simp [hl, h4, Nat.add_mul, Nat.add_comm], fun j u hj => ?_⟩
    rw [List.getElem?_append] at hj
    split at hj
    · exact h2 j u hj
    · rename_i hge
      rw [← h5 _ _ hj]
      congr 1
      omega

/-- The spare places behind a slice are owned by one place of the frame. -/
def OwnT (γ : Gh) (B : Nat) (w : World) (s : Nat) (c : Option Nat) (v : Value) (a : AVal) : Prop :=
  a = .slnil ∨ ∃ g n cap us e z rows, a = .sl z rows ∧ v = .slice (some ⟨g, 0, none⟩) n cap ∧ γ.own g = some (.tail s c (n * z)) ∧ B ≤ g ∧
    w.heap[g]? = some (.cells us e (0, 0)) ∧ us.size = cap * z ∧ n ≤ cap ∧ cap ≤ maxLen ∧ 0 < z

def SRel (γ : Gh) (β : Nat → Nat) (B : Nat) (w : World) (s : Nat) : Slot → Value → Prop
  | .undef, _ => True
  | .skip, v => v = undef
  | .val a, v => VRel γ a v
  | .cst b, v => v = .bool b
  | .own a, v => VRel γ a v ∧ OwnT γ B w s none v a
  | .box _ cs ow, v => v = .pointer (some ⟨β s, 0, none⟩) ∧ γ.own (β s) = some (.loc s) ∧ B ≤ β s ∧
      ∃ us e, w.heap[β s]? = some (.cells us e (0, 0)) ∧ VRelV γ cs us.toList ∧ (∀ u ∈ us.toList, u.oneCell' = true) ∧
        ∀ o ∈ ow, ∃ u a, us[o]? = some u ∧ cs[o]? = some a ∧ OwnT γ B w s (some o) u a
  | .lref s' o, v => v = .pointer (some ⟨β s', o, none⟩)

structure FR (γ : Gh) (β : Nat → Nat) (B : Nat) (σ : Env) (tmps : Array Value) (w : World) : Prop where
  size : σ.length = tmps.size
  slots : ∀ s, SRel γ β B w s (σ.at s) (tmps.getD s undef)

def MRel (γ : Gh) : List (AVal × AVal) → List MapEntry → Prop
  | [], es => es = []
  | (k, v) :: l, es => ∃ e es', es = e :: es' ∧ VRel γ k e.key ∧ VRel γ v e.val ∧ MRel γ l es'

/-- A mark that no cell of a row bears. -/
def freeFr (fr : Nat × Nat) (n : Nat) : Prop := fr = (0, 0) ∨ n ≤ fr.1

structure Inv (γ : Gh) (h : AHeap) (w : World) : Prop where
  imm : ∀ b o v, γ.imm b o = some v → w.cell? ⟨b, o, none⟩ = some v ∧ v.oneCell' = true ∧ (γ.own b = none ∨ ∃ s c st, γ.own b = some (.tail s c st) ∧ o < st)
  obj : ∀ id x, h[id]? = some x → x ≠ .dead → ∃ b, γ.mu id = some b ∧ γ.own b = some (.obj id)
  cells : ∀ id cs, h[id]? = some (.cells cs) → ∀ b, γ.mu id = some b → ∃ us e fr, w.heap[b]? = some (.cells us e fr) ∧ freeFr fr us.size ∧ VRelV γ cs (us.toList.take cs.length) ∧ ∀ u ∈ us.toList.take cs.length, u.oneCell' = true
  map : ∀ id es, h[id]? = some (.map es) → ∀ b, γ.mu id = some b → ∃ ents clock, w.heap[b]? = some (.map ents clock) ∧ MRel γ es ents.toList
  mu : ∀ id b, γ.mu id = some b → id < h.length
  own : ∀ b x, γ.own b = some x → b < w.heap.size

/-- What has become of the world since a call began. -/
structure Acc (γ0 : Gh) (w0 : World) (γ : Gh) (w : World) : Prop where
  le : γ0.le γ
  size : w0.heap.size ≤ w.heap.size
  os : w.os = w0.os
  tape : w.tape = w0.tape
  output : w.output = w0.output
  keep : ∀ b, b < w0.heap.size → (∀ id, γ0.own b ≠ some (.obj id)) → w.heap[b]? = w0.heap[b]? ∧ γ.own b = γ0.own b

theorem Acc.refl (γ : Gh) (w : World) : Acc γ w γ w := ⟨.refl _, Nat.le_refl _, rfl, rfl, rfl, fun _ _ _ => ⟨rfl, rfl⟩⟩

theorem Acc.trans {γ0 γ1 γ2 : Gh} {w0 w1 w2 : World} (h : Acc γ0 w0 γ1 w1) (k : Acc γ1 w1 γ2 w2) : Acc γ0 w0 γ2 w2 := by
  refine ⟨h.le.trans k.le, Nat.le_trans h.size k.size, k.os.trans h.os, k.tape.trans h.tape, k.output.trans h.output, fun b hb hn => ?_⟩
  · obtain ⟨h1, h2⟩ := h.keep b hb hn
    obtain ⟨k1, k2⟩ := k.keep b (Nat.lt_of_lt_of_le hb h.size) (fun id => by rw [h2]; exact hn id)
    exact ⟨k1.trans h1, k2.trans h2⟩

/-- Nothing that the frame owns has changed. -/
structure Kept (γ : Gh) (w : World) (γ' : Gh) (w' : World) : Prop where
  le : γ.le γ'
  keep : ∀ b x, γ.own b = some x → x.isObj = false → γ'.own b = some x ∧ w'.heap[b]? = w.heap[b]?

theorem Kept.of_acc {γ γ' : Gh} {h : AHeap} {w w' : World} (hi : Inv γ h w) (ha : Acc γ w γ' w') : Kept γ w γ' w' := by
  refine ⟨ha.le, fun b x hb hx => ?_⟩
  obtain ⟨h1, h2⟩ := ha.keep b (hi.own b x hb) (fun id hid => by rw [hb] at hid; cases hid; simp [Owner.isObj] at hx)
  exact ⟨h2.trans hb, h1⟩

theorem OwnT.kept {γ γ' : Gh} {B : Nat} {w w' : World} {s : Nat} {c : Option Nat} {v : Value} {a : AVal} (h : OwnT γ B w s c v a) (k : Kept γ w γ' w') : OwnT γ' B w' s c v a := by
  rcases h with h | ⟨g, n, cap, us, e, z, rows, h1, h2, h3, h4, h5, h6⟩
  · exact .inl h
  · obtain ⟨k1, k2⟩ := k.keep g _ h3 rfl
    exact .inr ⟨g, n, cap, us, e, z, rows, h1, h2, k1, h4, by rw [k2]; exact h5, h6⟩

theorem SRel.kept {γ γ' : Gh} {β : Nat → Nat} {B : Nat} {w w' : World} {s : Nat} {x : Slot} {v : Value} (h : SRel γ β B w s x v) (k : Kept γ w γ' w') : SRel γ' β B w' s x v := by
  cases x with
  | undef => trivial
  | skip => exact h
  | val a => exact VRel.mono k.le a v h
  | cst b => exact h
  | own a => exact ⟨VRel.mono k.le a v h.1, h.2.kept k⟩
  | box ver cs ow =>
    obtain ⟨h1, h2, h3, us, e, h4, h5, h6, h7⟩ := h
    obtain ⟨k1, k2⟩ := k.keep _ _ h2 rfl
    exact ⟨h1, k1, h3, us, e, by rw [k2]; exact h4, VRelV.mono k.le cs _ h5, h6, fun o ho => let ⟨u, a, p, q, r⟩ := h7 o ho; ⟨u, a, p, q, r.kept k⟩⟩
  | lref s' o => exact h

theorem FR.kept {γ γ' : Gh} {β : Nat → Nat} {B : Nat} {σ : Env} {tmps : Array Value} {w w' : World} (h : FR γ β B σ tmps w) (k : Kept γ w γ' w') : FR γ' β B σ tmps w' :=
  ⟨h.size, fun s => (h.slots s).kept k⟩

end Go.Am
