/-
  The card of StackNames: whatever the input, the law returns true, and the input reads as it did. Conditions: the row's list of variables alone.
-/
import Derived.Test.YtejpjabbdkpmiaaDoorLaid
import Derived.Test.YtejpjabbdkpmiaaDoorLNames
namespace Go.Proofs.YtejpjabbdkpmiaaDoor.stackNames
open Go Go.ChangeShapes Go.WideShapes Go.ChangeAt Go.RowKit Go.Am Go.Proofs.YtejpjabbdkpmiaaDoor.Laid

theorem params : Tryd.f9.params = #[9] := by kernel_rfl
theorem resultTypes : Tryd.f9.resultTypes = #[4] := by kernel_rfl
abbrev tys : List Ty := [.str]

set_option maxRecDepth 10000 in
/-- What the run gives, for every argument and every world that holds the listed variables. -/
theorem contract (H : Type) (enc : TypeId × Value → H) (W : World) (base : Nat) (args : Array Value) (ds gs : List (DataW H)) (before : List MemPlace)
    (hval : ∀ (j : Nat) t v, Tryd.f9.params[j]? = some t → args[j]? = some v → Value.okWide Tryd.prog W .any base t v)
    (hW : DataW.Whole enc Tryd.prog Tryd.f9.params.toList Rows.stackNamesSpec.vars false W args.toList ds gs before) (hL : laidMetH Tryd.prog Rows.stackNamesRow.laid W) :
    Calls Tryd.prog 9 args W fun e W' => ∃ v, e = .returned v ∧ Rows.stackNamesSpec.post enc Tryd.prog Tryd.f9 false true false false W args v W' := by
  have hP : cx.P = Tryd.prog := rfl
  rw [← hP] at hval hW ⊢
  refine law_contract (C := cx) (f := 9) (fn := Tryd.f9) (s := Rows.stackNamesSpec) (args := args) (W := W) (ds := ds) (gs := gs) (before := before) (base := base) mixed glob_flat laidOut resultTypes Tryd.underlying4 (tys := tys) ?_ ?_ ?_ all_names rfl ?_ (glob_ok hL) ?_ ?_
  rotate_right 2
  · exact hval
  · exact hW
  · rw [params]; rfl
  · intro i ty t h1 h2
    rw [params] at h2
    match i, h1, h2 with
    | 0, h1, h2 => cases h1; cases h2; exact (show tyOk Tryd.prog (.str) 9 = true by kernel_rfl)
    | i + 1, h1, h2 => simp at h1
  · intro t ht
    rw [params] at ht
    simp only [List.mem_cons, List.not_mem_nil, or_false] at ht
    rcases ht with rfl <;> exact ⟨by kernel_rfl, of_decide_eq_true (by kernel_rfl)⟩
  · intro ds hd
    rw [params] at hd
    match ds, hd with
    | [d0], _ => rfl

theorem witness_row (os : Os) {H : Type} (enc : TypeId × Value → H) :
    (OpenSpec.ofChange Rows.stackNamesSpec).preRow enc Tryd.prog Tryd.f9 Rows.stackNamesRow.domain false Rows.stackNamesRow.laid ((laidWorld os).forCall (fun _ _ => 0) ⟨#[], #[.string ⟨#[]⟩], []⟩).memory #[.string ⟨#[]⟩] := by
  have hw : (DataW.whole enc Tryd.prog ((laidWorld os).forCall (fun _ _ => 0) ⟨#[], #[.string ⟨#[]⟩], []⟩).memory Tryd.f9.params.toList Rows.stackNamesSpec.vars false (#[.string ⟨#[]⟩] : Array Value).toList 8).map (fun x => (x.1, x.2.1)) =
      some ([.lit (.string [])], []) := by kernel_rfl
  obtain ⟨⟨x1, x2, x3⟩, hx, hx1⟩ := Option.map_eq_some_iff.1 hw
  simp only [Prod.mk.injEq] at hx1
  obtain ⟨rfl, rfl⟩ := hx1
  exact OpenSpec.preRow_of_cond 8 hx (by kernel_rfl) (fun k hk => by cases hk) (by kernel_rfl) (laid_met os _)

set_option maxRecDepth 100000 in
theorem lifted (os : Os) (started : os.Started) (H : Type) (enc : TypeId × Value → H) (F : Stop.Interp) :
    ReturnsInHanded {} Tryd.checked os 9 .any ((OpenSpec.ofChange Rows.stackNamesSpec).preRow enc Tryd.prog Tryd.f9 Rows.stackNamesRow.domain false Rows.stackNamesRow.laid) (((OpenSpec.ofChange Rows.stackNamesSpec).at F).post enc Tryd.prog Tryd.f9 false true false false) := by
  refine returnsInHanded_of_row (C := Tryd.checked) (s := OpenSpec.ofChange Rows.stackNamesSpec) own started (by kernel_rfl) Tryd.func9
    (witness_row_atRef (enc := enc) (C := Tryd.checked) false (laidWorld os) #[.string ⟨#[]⟩] rfl (by kernel_rfl) (by kernel_rfl) (by kernel_rfl) (witness_row os enc)) ?_
  intro W base args ds gs before hval hW _ _ _ hL _ _
  exact contract H enc W base args ds gs before hval hW hL

theorem closed : joinedFacts Tryd.pinned.checked.prog 9 Tryd.f9 (OpenSpec.ofChange Rows.stackNamesSpec).bare Rows.stackNamesRow = true := by kernel_rfl
theorem named : Tryd.pinned.checked.prog.funcNamed Rows.stackNamesRow.func = some 9 := by kernel_rfl

theorem said : Rows.StackNamesSaid :=
  OpenClaim.holds_of_cond 9 Tryd.f9 rfl rfl rfl rfl rfl rfl rfl ⟨rfl, rfl, rfl, rfl, rfl⟩ rfl rfl rfl rfl rfl named Tryd.func9 closed
    (of_decide_eq_true (by kernel_rfl)) (by unfold Func.isWrapper; first | (rw [if_pos (by decide +kernel)]; kernel_rfl) | (rw [if_neg (by decide +kernel)]; exact ⟨rfl, rfl⟩))
    (fun os started H enc _ F => by rw [OpenClaim.pre_eq_preRow]; exact lifted os started H enc F)

theorem plain (f : FuncId) (fn : Func) (hf : Tryd.pinned.checked.prog.funcNamed "thicket/thicketlaw06.StackNames" = some f) (hfn : Tryd.pinned.checked.prog.funcs[f]? = some fn) :
    false = Tryd.pinned.checked.prog.looks [] ∧ ∀ (j : Nat) t, fn.params[j]? = some t → Tryd.pinned.checked.prog.wantsStandIn t = false := by
  obtain rfl : f = 9 := (Option.some.inj (named.symm.trans hf)).symm
  obtain rfl : fn = Tryd.f9 := (Option.some.inj (Tryd.func9.symm.trans hfn)).symm
  refine ⟨by kernel_rfl, fun j t ht => ?_⟩
  rw [params] at ht
  match j, ht with
  | 0, ht => cases ht; exact (show Tryd.prog.wantsStandIn 9 = false by kernel_rfl)
  | j + 1, ht => simp at ht

theorem card : Rows.StackNamesCardSaid :=
  Claim7.holds_tied_plain_at .later [] _ _ _ _ said (fun _ h => by cases h) (by kernel_rfl) (fun _ h => by cases h) stackNames_row_tie rfl ⟨rfl, rfl⟩ (by kernel_rfl) rfl plain (by kernel_rfl)
end Go.Proofs.YtejpjabbdkpmiaaDoor.stackNames
