/-
  From a law's arguments, as they read, to values of the abstract machine; and from a run of the machine to what a row asks of a call. No law is claimed here.
-/
import Derived.Test.YtejpjabbdkpmiaaDoorAm29
import Derived.Carry
import Derived.Below
import Derived.ChangeArms
import Derived.ReadAgain
import Derived.ChangeOld
import Derived.RowKit
set_option linter.unusedSimpArgs false
set_option linter.unusedVariables false
namespace Go.Am
open Go

/-- The types of a law's arguments. -/
inductive Ty where
  | bool
  | int (k : IntKind)
  | str
  | sl (e : Ty)
  | st (fs : List Ty)
  deriving Inhabited

mutual
def Ty.size : Ty → Nat
  | .bool | .int _ | .str | .sl _ => 1
  | .st fs => Ty.sizeL fs
def Ty.sizeL : List Ty → Nat
  | [] => 0
  | t :: ts => Ty.size t + Ty.sizeL ts
end

mutual
/-- A program's type is the one that is said. -/
def tyOk (P : Program) : Ty → TypeId → Bool
  | .bool, t => match P.underlying t with | some .bool => true | _ => false
  | .int k, t => match P.underlying t with | some (.int k') => decide (k' = k) | _ => false
  | .str, t => match P.underlying t with | some .string => true | _ => false
  | .sl e, t => match P.underlying t with
    | some (.slice e') => P.cellsOf e' == Ty.size e && decide (0 < Ty.size e) && tyOk P e e'
    | _ => false
  | .st fs, t => match P.underlying t with
    | some (.struct fields) => P.cellsOf t == Ty.sizeL fs && fieldsOk P fs fields.toList 0
    | _ => false
def fieldsOk (P : Program) : List Ty → List Field → Nat → Bool
  | [], [], _ => true
  | ty :: tys, f :: fs, off => f.offset == off && P.cellsOf f.type == Ty.size ty && tyOk P ty f.type && fieldsOk P tys fs (off + Ty.size ty)
  | _, _, _ => false
end

mutual
/-- Cells of the abstract machine that are a value of a type. -/
def Has : Ty → List AVal → Prop
  | .bool, l => ∃ b, l = [.bool b]
  | .int k, l => ∃ n, l = [.int k n] ∧ (Lit.int k n).wf = true
  | .str, l => ∃ s : Bytes, l = [.str s] ∧ s.length ≤ maxLen
  | .sl e, l => l = [.slnil] ∨ ∃ rows : List (List AVal), l = [.sl (Ty.size e) rows] ∧ rows.length ≤ maxLen ∧ ∀ r ∈ rows, Has e r
  | .st fs, l => HasL fs l
def HasL : List Ty → List AVal → Prop
  | [], l => l = []
  | ty :: tys, l => ∃ a b, l = a ++ b ∧ Has ty a ∧ HasL tys b
end

def Ty.isSt : Ty → Bool
  | .st _ => true
  | _ => false

/-- A value of the abstract machine of a type. -/
def HasV (ty : Ty) (a : AVal) : Prop := if ty.isSt then ∃ cs, a = .agg cs ∧ Has ty cs else Has ty [a]

def HasArgs : List Ty → List AVal → Prop
  | [], l => l = []
  | ty :: tys, l => ∃ a b, l = a :: b ∧ HasV ty a ∧ HasArgs tys b

/-- All memory that is there: nobody writes it. -/
def memGh (W : World) : Gh := { imm := fun b o => (W.cell? ⟨b, o, none⟩).filter (·.oneCell'), mu := fun _ => none, own := fun _ => none }

theorem memInv (W : World) : Inv (memGh W) [] W := by
  refine ⟨fun b o v h => ?_, fun id x h => by simp at h, fun id cs h => by simp at h, fun id es h => by simp at h, fun id b h => (by cases h), fun b x h => (by cases h)⟩
  simp only [memGh, Option.filter_eq_some_iff] at h
  exact ⟨h.1, h.2, .inl rfl⟩

theorem memImm {W : World} {b o : Nat} {v : Value} (h : W.cell? ⟨b, o, none⟩ = some v) (h1 : v.oneCell' = true) : (memGh W).imm b o = some v := by
  simp [memGh, h, h1, Option.filter]

theorem exists_list {α : Type} {p : Nat → α → Prop} : ∀ (n : Nat), (∀ i, i < n → ∃ x, p i x) → ∃ l : List α, l.length = n ∧ ∀ i x, l[i]? = some x → p i x
  | 0, _ => ⟨[], rfl, by simp⟩
  | n + 1, h => by
    obtain ⟨l, hl, hp⟩ := exists_list n fun i hi => h i (by omega)
    obtain ⟨x, hx⟩ := h n (by omega)
    refine ⟨l ++ [x], by simp [hl], fun i y hy => ?_⟩
    rw [List.getElem?_append] at hy
    split at hy
    · exact hp i y hy
    · have : i - l.length = 0 := by
        rcases Nat.eq_zero_or_pos (i - l.length) with h0 | h0
        · exact h0
        · rw [List.getElem?_eq_none (by simp; omega)] at hy; cases hy
      rw [this] at hy
      simp at hy
      subst hy
      have : i = n := by omega
      rw [this]; exact hx

section
variable {H : Type} {enc : TypeId × Value → H} {P : Program} {W : World}

theorem spot_of_cells {a : Addr} {n : Nat} {cs : List Value} (h : W.cells? 0 a n = some cs) (hn : 0 < n) : a.spot = none := by
  obtain ⟨_, hl, hc⟩ := World.cells?_some h
  have h0 := hc 0 hn
  have hlt : 0 < cs.length := by omega
  rw [List.getElem?_eq_getElem hlt] at h0
  unfold World.cell? at h0
  have ha : a.add 0 = a := by simp [Addr.add]
  rw [ha] at h0
  split at h0
  · split at h0
    · cases h0
    · rename_i hs; simpa using hs
  · cases h0

mutual
theorem read_ty : ∀ (ty : Ty) {t : TypeId} {fuel : Nat} {cs : List Value} {x : DataW H × List MemPlace}, tyOk P ty t = true → DataW.trod enc P W 0 (fun _ => true) true fuel t cs = some x →
    ∃ as, Has ty as ∧ VRelV (memGh W) as cs ∧ (∀ u ∈ cs, u.oneCell' = true) ∧ as.length = Ty.size ty
  | .bool, t, fuel, cs, x, hok, h => by
    unfold tyOk at hok
    split at hok
    · rename_i ht
      obtain ⟨b, rfl, _⟩ := DataW.trod_bool ht h
      exact ⟨[.bool b], ⟨b, rfl⟩, ⟨_, [], rfl, rfl, rfl⟩, by simp [Value.oneCell'], rfl⟩
    · cases hok
  | .int k, t, fuel, cs, x, hok, h => by
    unfold tyOk at hok
    split at hok
    · rename_i k' ht
      have hk : k' = k := by simpa using hok
      subst hk
      obtain ⟨n, rfl, _, hw⟩ := DataW.trod_int ht h
      exact ⟨[.int k' n], ⟨n, rfl, hw⟩, ⟨_, [], rfl, rfl, rfl⟩, by simp [Value.oneCell'], rfl⟩
    · cases hok
  | .str, t, fuel, cs, x, hok, h => by
    unfold tyOk at hok
    split at hok
    · rename_i ht
      obtain ⟨s, rfl, _, hs⟩ := DataW.trod_string ht h
      refine ⟨[.str s.data.toList], ⟨_, rfl, by
        have e : s.data.toList.length = s.size := by rw [Array.length_toList]; rfl
        rw [e]; exact hs⟩, ⟨_, [], rfl, ?_, rfl⟩, by simp [Value.oneCell'], rfl⟩
      show Value.string s = .string ⟨⟨s.data.toList⟩⟩
      congr 1
    · cases hok
  | .sl e, t, fuel, cs, x, hok, h => by
    unfold tyOk at hok
    split at hok
    · rename_i e' ht
      simp only [Bool.and_eq_true, beq_iff_eq, decide_eq_true_eq] at hok
      obtain ⟨⟨hce, hpos⟩, hoke⟩ := hok
      rcases DataW.trod_slice ht h with ⟨rfl, _⟩ | ⟨a, len, cap, elems, rest, n, _, rfl, _, _, hl, hm, hlen, hel, hsp, _⟩
      · exact ⟨[.slnil], .inl rfl, ⟨_, [], rfl, rfl, rfl⟩, by simp [Value.oneCell'], rfl⟩
      · have spot : 0 < cap → a.spot = none := fun hc => by
          have ha : a.add 0 = a := by simp [Addr.add]
          rcases Nat.eq_zero_or_pos len with h0 | h0
          · obtain ⟨hr1, hr2⟩ := hsp rfl
            have := hr2 0 (by omega)
            rw [List.getElem?_eq_getElem (show 0 < rest.length by omega)] at this
            have h00 : (len + 0) * P.cellsOf e' = 0 := by rw [h0]; simp
            rw [h00, ha] at this
            obtain ⟨vs, hv, _⟩ := Option.bind_eq_some_iff.1 this
            exact spot_of_cells hv (by omega)
          · have := hel 0 h0
            rw [List.getElem?_eq_getElem (show 0 < elems.length by omega)] at this
            rw [Nat.zero_mul, ha] at this
            obtain ⟨vs, hv, _⟩ := Option.bind_eq_some_iff.1 this
            exact spot_of_cells hv (by omega)
        obtain ⟨rows, hrl, hrows⟩ := exists_list (p := fun i (r : List AVal) => Has e r ∧ r.length = Ty.size e ∧ VRelM (memGh W) r a.block (a.off + i * Ty.size e)) len fun i hi => by
          have := hel i hi
          rw [List.getElem?_eq_getElem (show i < elems.length by omega)] at this
          obtain ⟨vs, hv, hd⟩ := Option.bind_eq_some_iff.1 this
          obtain ⟨r, p1, p2, p3, p4⟩ := read_ty e hoke hd
          refine ⟨r, p1, p4, VRelM.of_get fun j y hj => ?_⟩
          obtain ⟨u, hu, hyu⟩ := p2.get hj
          obtain ⟨_, hvl, hvc⟩ := World.cells?_some hv
          have hjl : j < P.cellsOf e' := by
            have := (List.getElem?_eq_some_iff.1 hu).1
            omega
          have hc := hvc j hjl
          rw [hu] at hc
          have had : a = ⟨a.block, a.off, none⟩ := by
            have := spot (by omega)
            cases a; simp_all
          have hadd : (a.add (i * P.cellsOf e')).add j = ⟨a.block, a.off + i * Ty.size e + j, none⟩ := by
            rw [hce]
            generalize a.block = b at *
            generalize a.off = o at *
            subst had
            rw [Addr.add_lit, Addr.add_lit]
          rw [hadd] at hc
          exact ⟨u, memImm hc (p3 u (List.mem_of_getElem? hu)), hyu⟩
        refine ⟨[.sl (Ty.size e) rows], .inr ⟨rows, rfl, by omega, fun r hr => ?_⟩, ⟨_, [], rfl, ⟨a, cap, by rw [hrl], by omega, ?_, VRelR.of_get fun i r hr => ?_⟩, rfl⟩, by simp [Value.oneCell'], rfl⟩
        · obtain ⟨i, hi⟩ := List.getElem?_of_mem hr
          exact (hrows i r hi).1
        · rcases Nat.eq_zero_or_pos cap with h0 | h0
          · exact .inr h0
          · exact .inl (spot h0)
        · exact ⟨(hrows i r hr).2.1, (hrows i r hr).2.2⟩
    · cases hok
  | .st fs, t, fuel, cs, x, hok, h => by
    unfold tyOk at hok
    split at hok
    · rename_i fields ht
      simp only [Bool.and_eq_true, beq_iff_eq] at hok
      obtain ⟨hct, hf⟩ := hok
      obtain ⟨xs, n, _, _, hcl, hxl, hall⟩ := DataW.trod_struct ht h
      obtain ⟨as, p1, p2, p3, p4⟩ := read_fields fs (fields := fields.toList) (off := 0) (cs := cs) (n := n) hf (fun i f hi => by
        have := hall i f (by simpa using hi)
        have hlt : i < fields.size := by
          have := (List.getElem?_eq_some_iff.1 hi).1
          simpa using this
        rw [List.getElem?_eq_getElem (show i < xs.length by omega)] at this
        exact ⟨_, this⟩) (by rw [hcl, hct]; omega)
      have e1 : (cs.drop 0).take (Ty.sizeL fs) = cs := by rw [List.drop_zero]; exact List.take_of_length_le (by rw [hcl, hct]; exact Nat.le_refl _)
      rw [e1] at p2 p3
      exact ⟨as, p1, p2, p3, p4⟩
    · cases hok
theorem read_fields : ∀ (tys : List Ty) {fields : List Field} {off : Nat} {cs : List Value} {n : Nat}, fieldsOk P tys fields off = true →
    (∀ (i : Nat) (f : Field), fields[i]? = some f → ∃ y, DataW.trod enc P W 0 (fun _ => true) true n f.type ((cs.drop f.offset).take (P.cellsOf f.type)) = some y) → off + Ty.sizeL tys ≤ cs.length →
    ∃ as, HasL tys as ∧ VRelV (memGh W) as ((cs.drop off).take (Ty.sizeL tys)) ∧ (∀ u ∈ (cs.drop off).take (Ty.sizeL tys), u.oneCell' = true) ∧ as.length = Ty.sizeL tys
  | [], fields, off, cs, n, hok, h, hl => by
    refine ⟨[], rfl, ?_, ?_, rfl⟩ <;> simp [Ty.sizeL, VRelV]
  | ty :: tys, fields, off, cs, n, hok, h, hl => by
    cases fields with
    | nil => simp [fieldsOk] at hok
    | cons f fs =>
      simp only [fieldsOk, Bool.and_eq_true, beq_iff_eq] at hok
      obtain ⟨⟨⟨ho, hc⟩, hty⟩, hrest⟩ := hok
      obtain ⟨y, hy⟩ := h 0 f rfl
      rw [ho, hc] at hy
      obtain ⟨as, p1, p2, p3, p4⟩ := read_ty ty hty hy
      simp only [Ty.sizeL] at hl
      obtain ⟨bs, q1, q2, q3, q4⟩ := read_fields tys hrest (fun i g hi => h (i + 1) g (by simpa using hi)) (by omega)
      have e1 : (cs.drop off).take (Ty.sizeL (ty :: tys)) = (cs.drop off).take (Ty.size ty) ++ (cs.drop (off + Ty.size ty)).take (Ty.sizeL tys) := by
        simp only [Ty.sizeL]
        rw [List.take_add, List.drop_drop]
      rw [e1]
      refine ⟨as ++ bs, ⟨as, bs, rfl, p1, q1⟩, p2.append q2, fun u hu => ?_, by simp [p4, q4, Ty.sizeL]⟩
      rcases List.mem_append.1 hu with hu | hu
      · exact p3 u hu
      · exact q3 u hu
end

theorem okWide_cells {ty : Ty} {t : TypeId} {v : Value} {base : Nat} (hok : tyOk P ty t = true) (hv : Value.okWide P W .any base t v) : if ty.isSt then ∃ cs, v = .agg cs else v.cells = #[v] := by
  cases ty with
  | st fs =>
    unfold tyOk at hok
    split at hok
    · rename_i fields ht
      unfold Value.okWide at hv
      rw [ht] at hv
      obtain ⟨cs, e, _⟩ := hv
      exact ⟨cs, e⟩
    · cases hok
  | _ =>
    unfold tyOk at hok
    split at hok
    · rename_i ht
      unfold Value.okWide at hv
      rw [ht] at hv
      simp only [Cell.okWide, ht, Cell.ok] at hv
      cases v <;> first | rfl | exact hv.elim
    · cases hok

theorem read_args : ∀ {tys : List Ty} {ts : List TypeId} {vs : List Value} {ds : List (DataW H)} {ps : List MemPlace} {base : Nat}, DataW.TrodAll enc P W 0 (fun _ => true) true ts vs ds ps → tys.length = ts.length → (∀ (i : Nat) (ty : Ty) (t : TypeId), tys[i]? = some ty → ts[i]? = some t → tyOk P ty t = true) →
    (∀ (i : Nat) (t : TypeId) (v : Value), ts[i]? = some t → vs[i]? = some v → Value.okWide P W .any base t v) → ∃ as, HasArgs tys as ∧ VRelV (memGh W) as vs
  | [], [], [], [], _, _, _, _, _, _ => ⟨[], rfl, rfl⟩
  | ty :: tys, t :: ts, v :: vs, d :: ds, ps, base, ⟨p, q, ⟨fuel, h1⟩, h2, _⟩, hl, hok, hval => by
    have hty := hok 0 ty t rfl rfl
    obtain ⟨cells, p1, p2, p3, p4⟩ := read_ty ty hty h1
    obtain ⟨bs, q1, q2⟩ := read_args h2 (by simpa using hl) (fun i ty t h h' => hok (i + 1) ty t (by simpa using h) (by simpa using h')) (fun i t v h h' => hval (i + 1) t v (by simpa using h) (by simpa using h'))
    have hc := okWide_cells hty (hval 0 t v rfl rfl)
    have : ∃ a, HasV ty a ∧ VRel (memGh W) a v := by
      by_cases hst : ty.isSt = true
      · rw [if_pos hst] at hc
        obtain ⟨us, rfl⟩ := hc
        exact ⟨.agg cells, (by unfold HasV; rw [if_pos hst]; exact ⟨cells, rfl, p1⟩), us, rfl, by simpa [Value.cells] using p2, by simpa [Value.cells] using p3⟩
      · rw [if_neg hst] at hc
        rw [hc] at p2
        obtain ⟨u, us, e, hu, hnil⟩ : ∃ c cs', cells = c :: cs' ∧ VRel (memGh W) c v ∧ cs' = [] := by
          cases cells with
          | nil => cases p2
          | cons c cs' =>
            obtain ⟨u, us', e, h1, h2⟩ := p2
            simp at e
            obtain ⟨rfl, rfl⟩ := e
            exact ⟨c, cs', rfl, h1, by cases cs' with | nil => rfl | cons _ _ => obtain ⟨_, _, e, _⟩ := h2; cases e⟩
        subst hnil
        subst e
        exact ⟨u, (by unfold HasV; rw [if_neg hst]; exact p1), hu⟩
    obtain ⟨a, ha, hr⟩ := this
    exact ⟨a :: bs, ⟨a, bs, rfl, ha, q1⟩, ⟨v, vs, rfl, hr, q2⟩⟩
  | [], _ :: _, _, _, _, _, _, hl, _, _ => by simp at hl
  | _ :: _, [], _, _, _, _, _, hl, _, _ => by simp at hl
  | [], [], _ :: _, _, _, _, h, _, _, _ => by cases h
  | [], [], [], _ :: _, _, _, h, _, _, _ => by cases h
  | _ :: _, _ :: _, [], _, _, _, h, _, _, _ => by cases h
  | _ :: _, _ :: _, _ :: _, [], _, _, h, _, _, _ => by cases h

theorem keptBut_of_old {W' : World} {may : MemPlace → Prop} (h1 : W'.os = W.os) (h2 : W'.output = W.output) (hb : ∀ i, i < W.heap.size → W'.heap[i]? = W.heap[i]?) : W.keptBut W' may := by
  refine ⟨h1, h2, fun i hi => ?_⟩
  rw [hb i hi]
  split
  · rename_i c t fr c' t' fr' e1 e2
    rw [e1] at e2
    cases e2
    exact ⟨rfl, rfl, rfl, fun _ _ => rfl⟩
  · rename_i e1 e2
    rw [e1] at e2
    cases e2
    exact .inr ⟨rfl, rfl⟩
  · rfl

theorem trodAll_below (hl : laidOutB P = true) {W' : World} (hb : RowKit.Below W.heap.size W W') : ∀ {ts : List TypeId} {vs : List Value} {ds : List (DataW H)} {ps : List MemPlace}, (∀ t ∈ ts, P.readableRec t = true ∧ t < P.types.size) →
    DataW.TrodAll enc P W 0 (fun _ => true) true ts vs ds ps → (∀ x ∈ ps, x.block < W.heap.size) → DataW.TrodAll enc P W' 0 (fun b => decide (b < W.heap.size)) true ts vs ds ps
  | [], [], [], ps, _, h, _ => h
  | t :: ts, v :: vs, d :: ds, ps, hts, ⟨p, q, h1, h2, e⟩, hlt => by
    subst e
    have ht := hts t (by simp)
    exact ⟨p, q, RowKit.Below.trod hl ht.1 ht.2 h1 hb fun x hx => hlt x (List.mem_append_left _ hx), trodAll_below hl hb (fun t' h' => hts t' (by simp [h'])) h2 fun x hx => hlt x (List.mem_append_right _ hx), rfl⟩
  | [], [], _ :: _, _, _, h, _ => by cases h
  | [], _ :: _, _, _, _, h, _ => by cases h
  | _ :: _, [], _, _, _, h, _ => by cases h
  | _ :: _, _ :: _, [], _, _, h, _ => by cases h
end

/-- WHAT A ROW ASKS OF A CALL OF A LAW, out of a run of the abstract machine: the law returns true, and its arguments read as they did. -/
theorem law_contract {C : Ctx} (hm : C.P.follows .mixedOrders = true) (hgf : ∀ g cs, C.glob g = some cs → cs.all AVal.flat = true) (hl : laidOutB C.P = true) {f : FuncId} {fn : Func} {rt : TypeId} (hrt : fn.resultTypes = #[rt]) (hrb : C.P.underlying rt = some .bool) {tys : List Ty} (hlen : tys.length = fn.params.size)
    (htys : ∀ (i : Nat) (ty : Ty) (t : TypeId), tys[i]? = some ty → fn.params[i]? = some t → tyOk C.P ty t = true) (hread : ∀ t ∈ fn.params.toList, C.P.readableRec t = true ∧ t < C.P.types.size)
    (hev : ∀ as, HasArgs tys as → Ev C f as [] fun r _ => r = .bool true) {s : ChangeSpec} (hsv : s.vars = [])
    {H : Type} (hfn : ∀ ds : List (DataW H), ds.length = fn.params.size → s.fn H ds = { results := [.lit (.bool true)], args := ds })
    {enc : TypeId × Value → H} {W : World} {base : Nat} {args : Array Value} {ds gs : List (DataW H)} {before : List MemPlace} (hg : ∀ g cs, C.glob g = some cs → VRelM (memGh W) cs g 0)
    (hval : ∀ (j : Nat) (t : TypeId) (v : Value), fn.params[j]? = some t → args[j]? = some v → Value.okWide C.P W .any base t v) (hW : DataW.Whole enc C.P fn.params.toList s.vars false W args.toList ds gs before) :
    Calls C.P f args W fun e W' => ∃ v, e = .returned v ∧ s.post enc C.P fn false true false false W args v W' := by
  have hW' := hW
  have hlt := hW.lt
  obtain ⟨p, q, hA, hV, rfl, hfz, hnd⟩ := hW
  rw [hsv] at hV
  have hgs : gs = [] ∧ q = [] := by
    cases gs with
    | nil => exact ⟨rfl, hV⟩
    | cons _ _ => cases hV
  obtain ⟨rfl, rfl⟩ := hgs
  obtain ⟨as, ha1, ha2⟩ := read_args hA (by simpa using hlen) (fun i ty t h h' => htys i ty t h (by simpa using h')) (fun i t v h h' => hval i t v (by simpa using h) (by simpa using h'))
  have hds : ds.length = fn.params.size := by
    have key : ∀ {ts : List TypeId} {vs : List Value} {ds : List (DataW H)} {ps : List MemPlace}, DataW.TrodAll enc C.P W 0 (fun _ => true) true ts vs ds ps → ds.length = ts.length := by
      intro ts
      induction ts with
      | nil => intro vs ds ps h; cases vs <;> cases ds <;> first | rfl | cases h
      | cons t ts ih =>
        intro vs ds ps h
        cases vs with
        | nil => cases h
        | cons v vs =>
          cases ds with
          | nil => cases h
          | cons d ds =>
            obtain ⟨_, _, _, h2, _⟩ := h
            simp [ih h2]
    simpa using key hA
  refine ((hev as ha1).calls hm hgf (memInv W) hg ha2).mono fun e W' he => ?_
  cases e with
  | returned v =>
    obtain ⟨r, h', γ', rfl, hi, hacc, hv⟩ := he
    have hvb : v = .bool true := hv
    subst hvb
    have hold : ∀ i, i < W.heap.size → W'.heap[i]? = W.heap[i]? := fun i hi' => (hacc.keep i hi' fun id h0 => by cases h0).1
    have hbelow : RowKit.Below W.heap.size W W' := ⟨hacc.os, hacc.tape, hacc.output, hacc.size, hold⟩
    refine ⟨_, rfl, ds, [], p ++ [], [], p, [], hW', ?_, ?_, ?_, keptBut_of_old hacc.os hacc.output hold, fun h0 => by cases h0⟩
    · rw [List.append_nil, hfn ds hds, hrt]
      exact ⟨[], [], RowKit.shut_bool hrb true, rfl, rfl⟩
    · rw [List.append_nil, hfn ds hds]
      exact trodAll_below hl hbelow hread hA fun x hx => hlt x (by simpa using hx)
    · rw [List.append_nil, hfn ds hds, hsv]
      rfl
  | _ => exact he.elim
end Go.Am
