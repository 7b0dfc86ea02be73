/-
  The card of StackSpecials: whatever the input, the law returns true, and the input reads as it did. Conditions: the row's list of variables alone.
-/
import Derived.Test.YtejpjabbdkpmiaaDoorLaid
import Derived.Test.YtejpjabbdkpmiaaDoorLSpecials
set_option linter.unusedSimpArgs false
set_option linter.unusedVariables false
namespace Go.Proofs.YtejpjabbdkpmiaaDoor.stackSpecials
open Go Go.ChangeShapes Go.WideShapes Go.ChangeAt Go.RowKit Go.Am Go.Proofs.YtejpjabbdkpmiaaDoor.Laid

theorem params : Tryd.f6.params = #[37, 9, 52] := by kernel_rfl
theorem resultTypes : Tryd.f6.resultTypes = #[4] := by kernel_rfl
abbrev tys : List Ty := [.int .i64, .str, .sl tAttr]

set_option maxRecDepth 10000 in
/-- What the run gives, for every argument and every world that holds the listed variables. -/
theorem contract (H : Type) (enc : TypeId × Value → H) (W : World) (base : Nat) (args : Array Value) (ds gs : List (DataW H)) (before : List MemPlace)
    (hval : ∀ (j : Nat) t v, Tryd.f6.params[j]? = some t → args[j]? = some v → Value.okWide Tryd.prog W .any base t v)
    (hW : DataW.Whole enc Tryd.prog Tryd.f6.params.toList Rows.stackSpecialsSpec.vars false W args.toList ds gs before) (hL : laidMetH Tryd.prog Rows.stackSpecialsRow.laid W) :
    Calls Tryd.prog 6 args W fun e W' => ∃ v, e = .returned v ∧ Rows.stackSpecialsSpec.post enc Tryd.prog Tryd.f6 false true false false W args v W' := by
  have hP : cx.P = Tryd.prog := rfl
  rw [← hP] at hval hW ⊢
  refine law_contract (C := cx) (f := 6) (fn := Tryd.f6) (s := Rows.stackSpecialsSpec) (args := args) (W := W) (ds := ds) (gs := gs) (before := before) (base := base) mixed glob_flat laidOut resultTypes Tryd.underlying4 (tys := tys) ?_ ?_ ?_ all_specials rfl ?_ (glob_ok hL) ?_ ?_
  rotate_right 2
  · exact hval
  · exact hW
  · rw [params]; rfl
  · intro i ty t h1 h2
    rw [params] at h2
    match i, h1, h2 with
    | 0, h1, h2 => cases h1; cases h2; exact (show tyOk Tryd.prog (.int .i64) 37 = true by kernel_rfl)
    | 1, h1, h2 => cases h1; cases h2; exact (show tyOk Tryd.prog (.str) 9 = true by kernel_rfl)
    | 2, h1, h2 => cases h1; cases h2; exact (show tyOk Tryd.prog (.sl tAttr) 52 = true by kernel_rfl)
    | i + 3, h1, h2 => simp at h1
  · intro t ht
    rw [params] at ht
    simp only [List.mem_cons, List.not_mem_nil, or_false] at ht
    rcases ht with rfl | rfl | rfl <;> exact ⟨by kernel_rfl, of_decide_eq_true (by kernel_rfl)⟩
  · intro ds hd
    rw [params] at hd
    match ds, hd with
    | [d0, d1, d2], _ => rfl

theorem witness_row (os : Os) {H : Type} (enc : TypeId × Value → H) :
    (OpenSpec.ofChange Rows.stackSpecialsSpec).preRow enc Tryd.prog Tryd.f6 Rows.stackSpecialsRow.domain false Rows.stackSpecialsRow.laid ((laidWorld os).forCall (fun _ _ => 0) ⟨#[], #[.int .i64 0, .string ⟨#[]⟩, .slice none 0 0], []⟩).memory #[.int .i64 0, .string ⟨#[]⟩, .slice none 0 0] := by
  have hw : (DataW.whole enc Tryd.prog ((laidWorld os).forCall (fun _ _ => 0) ⟨#[], #[.int .i64 0, .string ⟨#[]⟩, .slice none 0 0], []⟩).memory Tryd.f6.params.toList Rows.stackSpecialsSpec.vars false (#[.int .i64 0, .string ⟨#[]⟩, .slice none 0 0] : Array Value).toList 8).map (fun x => (x.1, x.2.1)) =
      some ([.lit (.int .i64 0), .lit (.string []), .nil], []) := by kernel_rfl
  obtain ⟨⟨x1, x2, x3⟩, hx, hx1⟩ := Option.map_eq_some_iff.1 hw
  simp only [Prod.mk.injEq] at hx1
  obtain ⟨rfl, rfl⟩ := hx1
  exact OpenSpec.preRow_of_cond 8 hx (by kernel_rfl) (fun k hk => by cases hk) (by kernel_rfl) (laid_met os _)

set_option maxRecDepth 100000 in
theorem lifted (os : Os) (started : os.Started) (H : Type) (enc : TypeId × Value → H) (F : Stop.Interp) :
    ReturnsInHanded {} Tryd.checked os 6 .any ((OpenSpec.ofChange Rows.stackSpecialsSpec).preRow enc Tryd.prog Tryd.f6 Rows.stackSpecialsRow.domain false Rows.stackSpecialsRow.laid) (((OpenSpec.ofChange Rows.stackSpecialsSpec).at F).post enc Tryd.prog Tryd.f6 false true false false) := by
  refine returnsInHanded_of_row (C := Tryd.checked) (s := OpenSpec.ofChange Rows.stackSpecialsSpec) own started (by kernel_rfl) Tryd.func6
    (witness_row_atRef (enc := enc) (C := Tryd.checked) false (laidWorld os) #[.int .i64 0, .string ⟨#[]⟩, .slice none 0 0] rfl (by kernel_rfl) (by kernel_rfl) (by kernel_rfl) (witness_row os enc)) ?_
  intro W base args ds gs before hval hW _ _ _ hL _ _
  exact contract H enc W base args ds gs before hval hW hL

theorem closed : joinedFacts Tryd.pinned.checked.prog 6 Tryd.f6 (OpenSpec.ofChange Rows.stackSpecialsSpec).bare Rows.stackSpecialsRow = true := by kernel_rfl
theorem named : Tryd.pinned.checked.prog.funcNamed Rows.stackSpecialsRow.func = some 6 := by kernel_rfl

theorem said : Rows.StackSpecialsSaid :=
  OpenClaim.holds_of_cond 6 Tryd.f6 rfl rfl rfl rfl rfl rfl rfl ⟨rfl, rfl, rfl, rfl, rfl⟩ rfl rfl rfl rfl rfl named Tryd.func6 closed
    (of_decide_eq_true (by kernel_rfl)) (by unfold Func.isWrapper; first | (rw [if_pos (by decide +kernel)]; kernel_rfl) | (rw [if_neg (by decide +kernel)]; exact ⟨rfl, rfl⟩))
    (fun os started H enc _ F => by rw [OpenClaim.pre_eq_preRow]; exact lifted os started H enc F)

theorem plain (f : FuncId) (fn : Func) (hf : Tryd.pinned.checked.prog.funcNamed "thicket/thicketlaw06.StackSpecials" = some f) (hfn : Tryd.pinned.checked.prog.funcs[f]? = some fn) :
    false = Tryd.pinned.checked.prog.looks [] ∧ ∀ (j : Nat) t, fn.params[j]? = some t → Tryd.pinned.checked.prog.wantsStandIn t = false := by
  obtain rfl : f = 6 := (Option.some.inj (named.symm.trans hf)).symm
  obtain rfl : fn = Tryd.f6 := (Option.some.inj (Tryd.func6.symm.trans hfn)).symm
  refine ⟨by kernel_rfl, fun j t ht => ?_⟩
  rw [params] at ht
  match j, ht with
  | 0, ht => cases ht; exact (show Tryd.prog.wantsStandIn 37 = false by kernel_rfl)
  | 1, ht => cases ht; exact (show Tryd.prog.wantsStandIn 9 = false by kernel_rfl)
  | 2, ht => cases ht; exact (show Tryd.prog.wantsStandIn 52 = false by kernel_rfl)
  | j + 3, ht => simp at ht

theorem card : Rows.StackSpecialsCardSaid :=
  Claim7.holds_tied_plain_at .later [] _ _ _ _ said (fun _ h => by cases h) (by kernel_rfl) (fun _ h => by cases h) stackSpecials_row_tie rfl ⟨rfl, rfl⟩ (by kernel_rfl) rfl plain (by kernel_rfl)
end Go.Proofs.YtejpjabbdkpmiaaDoor.stackSpecials
