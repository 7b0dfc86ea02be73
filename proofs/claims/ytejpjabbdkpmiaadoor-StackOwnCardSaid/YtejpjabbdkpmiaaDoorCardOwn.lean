/-
  The card of StackOwn: whatever the input, the law returns true, and the input reads as it did. Conditions: the row's list of variables alone.
-/
import Derived.Test.YtejpjabbdkpmiaaDoorLaid
import Derived.Test.YtejpjabbdkpmiaaDoorLOwn
set_option linter.unusedSimpArgs false
set_option linter.unusedVariables false
namespace Go.Proofs.YtejpjabbdkpmiaaDoor.stackOwn
open Go Go.ChangeShapes Go.WideShapes Go.ChangeAt Go.RowKit Go.Am Go.Proofs.YtejpjabbdkpmiaaDoor.Laid

theorem params : Tryd.f12.params = #[52, 9] := by kernel_rfl
theorem resultTypes : Tryd.f12.resultTypes = #[4] := by kernel_rfl
abbrev tys : List Ty := [.sl tAttr, .str]

set_option maxRecDepth 10000 in
/-- What the run gives, for every argument and every world that holds the listed variables. -/
theorem contract (H : Type) (enc : TypeId × Value → H) (W : World) (base : Nat) (args : Array Value) (ds gs : List (DataW H)) (before : List MemPlace)
    (hval : ∀ (j : Nat) t v, Tryd.f12.params[j]? = some t → args[j]? = some v → Value.okWide Tryd.prog W .any base t v)
    (hW : DataW.Whole enc Tryd.prog Tryd.f12.params.toList Rows.stackOwnSpec.vars false W args.toList ds gs before) (hL : laidMetH Tryd.prog Rows.stackOwnRow.laid W) :
    Calls Tryd.prog 12 args W fun e W' => ∃ v, e = .returned v ∧ Rows.stackOwnSpec.post enc Tryd.prog Tryd.f12 false true false false W args v W' := by
  have hP : cx.P = Tryd.prog := rfl
  rw [← hP] at hval hW ⊢
  refine law_contract (C := cx) (f := 12) (fn := Tryd.f12) (s := Rows.stackOwnSpec) (args := args) (W := W) (ds := ds) (gs := gs) (before := before) (base := base) mixed glob_flat laidOut resultTypes Tryd.underlying4 (tys := tys) ?_ ?_ ?_ all_own rfl ?_ (glob_ok hL) ?_ ?_
  rotate_right 2
  · exact hval
  · exact hW
  · rw [params]; rfl
  · intro i ty t h1 h2
    rw [params] at h2
    match i, h1, h2 with
    | 0, h1, h2 => cases h1; cases h2; exact (show tyOk Tryd.prog (.sl tAttr) 52 = true by kernel_rfl)
    | 1, h1, h2 => cases h1; cases h2; exact (show tyOk Tryd.prog (.str) 9 = true by kernel_rfl)
    | i + 2, h1, h2 => simp at h1
  · intro t ht
    rw [params] at ht
    simp only [List.mem_cons, List.not_mem_nil, or_false] at ht
    rcases ht with rfl | rfl <;> exact ⟨by kernel_rfl, of_decide_eq_true (by kernel_rfl)⟩
  · intro ds hd
    rw [params] at hd
    match ds, hd with
    | [d0, d1], _ => rfl

theorem witness_row (os : Os) {H : Type} (enc : TypeId × Value → H) :
    (OpenSpec.ofChange Rows.stackOwnSpec).preRow enc Tryd.prog Tryd.f12 Rows.stackOwnRow.domain false Rows.stackOwnRow.laid ((laidWorld os).forCall (fun _ _ => 0) ⟨#[], #[.slice none 0 0, .string ⟨#[]⟩], []⟩).memory #[.slice none 0 0, .string ⟨#[]⟩] := by
  have hw : (DataW.whole enc Tryd.prog ((laidWorld os).forCall (fun _ _ => 0) ⟨#[], #[.slice none 0 0, .string ⟨#[]⟩], []⟩).memory Tryd.f12.params.toList Rows.stackOwnSpec.vars false (#[.slice none 0 0, .string ⟨#[]⟩] : Array Value).toList 8).map (fun x => (x.1, x.2.1)) =
      some ([.nil, .lit (.string [])], []) := by kernel_rfl
  obtain ⟨⟨x1, x2, x3⟩, hx, hx1⟩ := Option.map_eq_some_iff.1 hw
  simp only [Prod.mk.injEq] at hx1
  obtain ⟨rfl, rfl⟩ := hx1
  exact OpenSpec.preRow_of_cond 8 hx (by kernel_rfl) (fun k hk => by cases hk) (by kernel_rfl) (laid_met os _)

set_option maxRecDepth 100000 in
theorem lifted (os : Os) (started : os.Started) (H : Type) (enc : TypeId × Value → H) (F : Stop.Interp) :
    ReturnsInHanded {} Tryd.checked os 12 .any ((OpenSpec.ofChange Rows.stackOwnSpec).preRow enc Tryd.prog Tryd.f12 Rows.stackOwnRow.domain false Rows.stackOwnRow.laid) (((OpenSpec.ofChange Rows.stackOwnSpec).at F).post enc Tryd.prog Tryd.f12 false true false false) := by
  refine returnsInHanded_of_row (C := Tryd.checked) (s := OpenSpec.ofChange Rows.stackOwnSpec) own started (by kernel_rfl) Tryd.func12
    (witness_row_atRef (enc := enc) (C := Tryd.checked) false (laidWorld os) #[.slice none 0 0, .string ⟨#[]⟩] rfl (by kernel_rfl) (by kernel_rfl) (by kernel_rfl) (witness_row os enc)) ?_
  intro W base args ds gs before hval hW _ _ _ hL _ _
  exact contract H enc W base args ds gs before hval hW hL

theorem pa1 : Rows.stackOwnRow.wf (OpenSpec.ofChange (OpenSpec.ofChange Rows.stackOwnSpec).bare) = true := by kernel_rfl
theorem pa4 : Tryd.f12.params.all (Tryd.pinned.checked.prog.readableRec ·) = true := by kernel_rfl
theorem pa5 : namedTie Tryd.pinned.checked.prog Rows.stackOwnRow.named (OpenSpec.ofChange Rows.stackOwnSpec).bare.vars = true := by kernel_rfl
theorem pb1 : (Rows.stackOwnRow.inPlace == Tryd.pinned.checked.prog.inPlace 12) = true := by kernel_rfl
theorem pb2 : (Rows.stackOwnRow.unfollowed == Tryd.pinned.checked.prog.unfollowed 12) = true := by kernel_rfl
theorem pb3 : (Rows.stackOwnRow.recurses == Tryd.pinned.checked.prog.recurses 12) = true := by kernel_rfl
theorem pb4 : (Rows.stackOwnRow.named == Tryd.pinned.checked.prog.varsNamed 12) = true := by kernel_rfl
theorem pc1 : (Rows.stackOwnRow.maps == (Tryd.f12.params.toList ++ (OpenSpec.ofChange Rows.stackOwnSpec).bare.plain.varTypes Tryd.pinned.checked.prog).any (Tryd.pinned.checked.prog.mapsRec ·)) = true := by kernel_rfl
theorem pc2 : (Rows.stackOwnRow.ifaces == (Tryd.f12.params.toList ++ (OpenSpec.ofChange Rows.stackOwnSpec).bare.plain.varTypes Tryd.pinned.checked.prog).any (Tryd.pinned.checked.prog.ifacesRec ·)) = true := by kernel_rfl
theorem pc3 : (Rows.stackOwnRow.mapsOut == Tryd.pinned.checked.prog.mapsAmong Tryd.f12.resultTypes.toList) = true := by kernel_rfl
theorem pc4 : (Rows.stackOwnRow.loops == (Tryd.f12.params.toList ++ (OpenSpec.ofChange Rows.stackOwnSpec).bare.plain.varTypes Tryd.pinned.checked.prog).any (Tryd.pinned.checked.prog.loopsFrom ·)) = true := by kernel_rfl
theorem pc5 : (Rows.stackOwnRow.wideKeys == (Tryd.f12.params.toList ++ (OpenSpec.ofChange Rows.stackOwnSpec).bare.plain.varTypes Tryd.pinned.checked.prog ++ Tryd.f12.resultTypes.toList).any (Tryd.pinned.checked.prog.wideKeysFrom ·)) = true := by kernel_rfl
theorem pd1 : (OpenSpec.ofChange Rows.stackOwnSpec).bare.vars.all (Tryd.pinned.checked.prog.varReadable ·) = true := by kernel_rfl
theorem pd2 : Tryd.f12.resultTypes.all (fun t => Tryd.pinned.checked.prog.readableRec t && decide (t < Tryd.pinned.checked.prog.types.size)) = true := by kernel_rfl
theorem pd3 : (Rows.stackOwnRow.ifacesOut == Tryd.f12.resultTypes.toList.any (Tryd.pinned.checked.prog.ifacesRec ·)) = true := by kernel_rfl
theorem pd4 : (Rows.stackOwnRow.loopsOut == Tryd.f12.resultTypes.toList.any (Tryd.pinned.checked.prog.loopsFrom ·)) = true := by kernel_rfl
theorem pd5 : kindsOk Tryd.pinned.checked.prog Tryd.f12 Rows.stackOwnRow = true := by kernel_rfl
theorem pd6 : (Rows.stackOwnRow.pinned == Rows.stackOwnRow.pinnedBy) = true := by kernel_rfl
theorem pf1 : (Rows.stackOwnRow.veiled == (Tryd.f12.params.toList ++ (OpenSpec.ofChange Rows.stackOwnSpec).bare.plain.varTypes Tryd.pinned.checked.prog ++ Tryd.f12.resultTypes.toList).any (Tryd.pinned.checked.prog.veiledRec ·)) = true := by kernel_rfl
theorem pf2 : Rows.stackOwnRow.veiledFits Tryd.pinned.checked.prog Tryd.f12.params.toList (Tryd.f12.params.toList ++ (OpenSpec.ofChange Rows.stackOwnSpec).bare.plain.varTypes Tryd.pinned.checked.prog ++ Tryd.f12.resultTypes.toList) = true := by kernel_rfl
theorem closed : joinedFacts Tryd.pinned.checked.prog 12 Tryd.f12 (OpenSpec.ofChange Rows.stackOwnSpec).bare Rows.stackOwnRow = true := joined_parts pa1 laidOut gA3 pa4 pa5 rfl gA7 rfl gA9 pb1 pb2 pb3 pb4 pc1 pc2 pc3 pc4 pc5 pd1 pd2 pd3 pd4 gE1 rfl gE3 gE4 gE5 gE6 pd5 pd6 pf1 pf2
theorem named : Tryd.pinned.checked.prog.funcNamed Rows.stackOwnRow.func = some 12 := by kernel_rfl

theorem said : Rows.StackOwnSaid :=
  OpenClaim.holds_of_cond 12 Tryd.f12 rfl rfl rfl rfl rfl rfl rfl ⟨rfl, rfl, rfl, rfl, rfl⟩ rfl rfl rfl rfl rfl named Tryd.func12 closed
    (of_decide_eq_true (by kernel_rfl)) (by unfold Func.isWrapper; first | (rw [if_pos (by decide +kernel)]; kernel_rfl) | (rw [if_neg (by decide +kernel)]; exact ⟨rfl, rfl⟩))
    (fun os started H enc _ F => by rw [OpenClaim.pre_eq_preRow]; exact lifted os started H enc F)

theorem plain (f : FuncId) (fn : Func) (hf : Tryd.pinned.checked.prog.funcNamed "thicket/thicketlaw06.StackOwn" = some f) (hfn : Tryd.pinned.checked.prog.funcs[f]? = some fn) :
    false = Tryd.pinned.checked.prog.looks [] ∧ ∀ (j : Nat) t, fn.params[j]? = some t → Tryd.pinned.checked.prog.wantsStandIn t = false := by
  obtain rfl : f = 12 := (Option.some.inj (named.symm.trans hf)).symm
  obtain rfl : fn = Tryd.f12 := (Option.some.inj (Tryd.func12.symm.trans hfn)).symm
  refine ⟨by kernel_rfl, fun j t ht => ?_⟩
  rw [params] at ht
  match j, ht with
  | 0, ht => cases ht; exact (show Tryd.prog.wantsStandIn 52 = false by kernel_rfl)
  | 1, ht => cases ht; exact (show Tryd.prog.wantsStandIn 9 = false by kernel_rfl)
  | j + 2, ht => simp at ht

theorem card : Rows.StackOwnCardSaid :=
  Claim7.holds_tied_plain_at .later [] _ _ _ _ said (fun _ h => by cases h) (by kernel_rfl) (fun _ h => by cases h) stackOwn_row_tie rfl ⟨rfl, rfl⟩ (by kernel_rfl) rfl plain (by kernel_rfl)
end Go.Proofs.YtejpjabbdkpmiaaDoor.stackOwn
