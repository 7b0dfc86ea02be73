/-
  The card of StackNil: whatever the input, the law returns true, and the input reads as it did. Conditions: the row's list of variables alone.
-/
import Derived.Test.YtejpjabbdkpmiaaDoorLaid
import Derived.Test.YtejpjabbdkpmiaaDoorLNil
set_option linter.unusedSimpArgs false
set_option linter.unusedVariables false
namespace Go.Proofs.YtejpjabbdkpmiaaDoor.stackNil
open Go Go.ChangeShapes Go.WideShapes Go.ChangeAt Go.RowKit Go.Am Go.Proofs.YtejpjabbdkpmiaaDoor.Laid

theorem params : Tryd.f20.params = #[107, 91] := by kernel_rfl
theorem resultTypes : Tryd.f20.resultTypes = #[4] := by kernel_rfl
abbrev tys : List Ty := [tSOp, tSEdit]

set_option maxRecDepth 10000 in
/-- What the run gives, for every argument and every world that holds the listed variables. -/
theorem contract (H : Type) (enc : TypeId × Value → H) (W : World) (base : Nat) (args : Array Value) (ds gs : List (DataW H)) (before : List MemPlace)
    (hval : ∀ (j : Nat) t v, Tryd.f20.params[j]? = some t → args[j]? = some v → Value.okWide Tryd.prog W .any base t v)
    (hW : DataW.Whole enc Tryd.prog Tryd.f20.params.toList Rows.stackNilSpec.vars false W args.toList ds gs before) (hL : laidMetH Tryd.prog Rows.stackNilRow.laid W) :
    Calls Tryd.prog 20 args W fun e W' => ∃ v, e = .returned v ∧ Rows.stackNilSpec.post enc Tryd.prog Tryd.f20 false true false false W args v W' := by
  have hP : cx.P = Tryd.prog := rfl
  rw [← hP] at hval hW ⊢
  refine law_contract (C := cx) (f := 20) (fn := Tryd.f20) (s := Rows.stackNilSpec) (args := args) (W := W) (ds := ds) (gs := gs) (before := before) (base := base) mixed glob_flat laidOut resultTypes Tryd.underlying4 (tys := tys) ?_ ?_ ?_ all_nil rfl ?_ (glob_ok hL) ?_ ?_
  rotate_right 2
  · exact hval
  · exact hW
  · rw [params]; rfl
  · intro i ty t h1 h2
    rw [params] at h2
    match i, h1, h2 with
    | 0, h1, h2 => cases h1; cases h2; exact (show tyOk Tryd.prog (tSOp) 107 = true by kernel_rfl)
    | 1, h1, h2 => cases h1; cases h2; exact (show tyOk Tryd.prog (tSEdit) 91 = true by kernel_rfl)
    | i + 2, h1, h2 => simp at h1
  · intro t ht
    rw [params] at ht
    simp only [List.mem_cons, List.not_mem_nil, or_false] at ht
    rcases ht with rfl | rfl <;> exact ⟨by kernel_rfl, of_decide_eq_true (by kernel_rfl)⟩
  · intro ds hd
    rw [params] at hd
    match ds, hd with
    | [d0, d1], _ => rfl

theorem witness_row (os : Os) {H : Type} (enc : TypeId × Value → H) :
    (OpenSpec.ofChange Rows.stackNilSpec).preRow enc Tryd.prog Tryd.f20 Rows.stackNilRow.domain false Rows.stackNilRow.laid ((laidWorld os).forCall (fun _ _ => 0) ⟨#[], #[.agg #[.int .i64 0, .int .i64 0, .int .i64 0, .int .i64 0, .string ⟨#[]⟩, .bool false, .slice none 0 0, .int .i64 0], .agg #[.int .i64 0, .int .i64 0, .int .i64 0, .string ⟨#[]⟩, .slice none 0 0, .int .i64 0]], []⟩).memory #[.agg #[.int .i64 0, .int .i64 0, .int .i64 0, .int .i64 0, .string ⟨#[]⟩, .bool false, .slice none 0 0, .int .i64 0], .agg #[.int .i64 0, .int .i64 0, .int .i64 0, .string ⟨#[]⟩, .slice none 0 0, .int .i64 0]] := by
  have hw : (DataW.whole enc Tryd.prog ((laidWorld os).forCall (fun _ _ => 0) ⟨#[], #[.agg #[.int .i64 0, .int .i64 0, .int .i64 0, .int .i64 0, .string ⟨#[]⟩, .bool false, .slice none 0 0, .int .i64 0], .agg #[.int .i64 0, .int .i64 0, .int .i64 0, .string ⟨#[]⟩, .slice none 0 0, .int .i64 0]], []⟩).memory Tryd.f20.params.toList Rows.stackNilSpec.vars false (#[.agg #[.int .i64 0, .int .i64 0, .int .i64 0, .int .i64 0, .string ⟨#[]⟩, .bool false, .slice none 0 0, .int .i64 0], .agg #[.int .i64 0, .int .i64 0, .int .i64 0, .string ⟨#[]⟩, .slice none 0 0, .int .i64 0]] : Array Value).toList 8).map (fun x => (x.1, x.2.1)) =
      some ([.agg [.lit (.int .i64 0), .lit (.int .i64 0), .lit (.int .i64 0), .lit (.int .i64 0), .lit (.string []), .lit (.bool false), .nil, .lit (.int .i64 0)], .agg [.lit (.int .i64 0), .lit (.int .i64 0), .lit (.int .i64 0), .lit (.string []), .nil, .lit (.int .i64 0)]], []) := by kernel_rfl
  obtain ⟨⟨x1, x2, x3⟩, hx, hx1⟩ := Option.map_eq_some_iff.1 hw
  simp only [Prod.mk.injEq] at hx1
  obtain ⟨rfl, rfl⟩ := hx1
  exact OpenSpec.preRow_of_cond 8 hx (by kernel_rfl) (fun k hk => by cases hk) (by kernel_rfl) (laid_met os _)

set_option maxRecDepth 100000 in
theorem lifted (os : Os) (started : os.Started) (H : Type) (enc : TypeId × Value → H) (F : Stop.Interp) :
    ReturnsInHanded {} Tryd.checked os 20 .any ((OpenSpec.ofChange Rows.stackNilSpec).preRow enc Tryd.prog Tryd.f20 Rows.stackNilRow.domain false Rows.stackNilRow.laid) (((OpenSpec.ofChange Rows.stackNilSpec).at F).post enc Tryd.prog Tryd.f20 false true false false) := by
  refine returnsInHanded_of_row (C := Tryd.checked) (s := OpenSpec.ofChange Rows.stackNilSpec) own started (by kernel_rfl) Tryd.func20
    (witness_row_atRef (enc := enc) (C := Tryd.checked) false (laidWorld os) #[.agg #[.int .i64 0, .int .i64 0, .int .i64 0, .int .i64 0, .string ⟨#[]⟩, .bool false, .slice none 0 0, .int .i64 0], .agg #[.int .i64 0, .int .i64 0, .int .i64 0, .string ⟨#[]⟩, .slice none 0 0, .int .i64 0]] rfl (by kernel_rfl) (by kernel_rfl) (by kernel_rfl) (witness_row os enc)) ?_
  intro W base args ds gs before hval hW _ _ _ hL _ _
  exact contract H enc W base args ds gs before hval hW hL

theorem pa1 : Rows.stackNilRow.wf (OpenSpec.ofChange (OpenSpec.ofChange Rows.stackNilSpec).bare) = true := by kernel_rfl
theorem pa4 : Tryd.f20.params.all (Tryd.pinned.checked.prog.readableRec ·) = true := by kernel_rfl
theorem pa5 : namedTie Tryd.pinned.checked.prog Rows.stackNilRow.named (OpenSpec.ofChange Rows.stackNilSpec).bare.vars = true := by kernel_rfl
theorem pb1 : (Rows.stackNilRow.inPlace == Tryd.pinned.checked.prog.inPlace 20) = true := by kernel_rfl
theorem pb2 : (Rows.stackNilRow.unfollowed == Tryd.pinned.checked.prog.unfollowed 20) = true := by kernel_rfl
theorem pb3 : (Rows.stackNilRow.recurses == Tryd.pinned.checked.prog.recurses 20) = true := by kernel_rfl
theorem pb4 : (Rows.stackNilRow.named == Tryd.pinned.checked.prog.varsNamed 20) = true := by kernel_rfl
theorem pc1 : (Rows.stackNilRow.maps == (Tryd.f20.params.toList ++ (OpenSpec.ofChange Rows.stackNilSpec).bare.plain.varTypes Tryd.pinned.checked.prog).any (Tryd.pinned.checked.prog.mapsRec ·)) = true := by kernel_rfl
theorem pc2 : (Rows.stackNilRow.ifaces == (Tryd.f20.params.toList ++ (OpenSpec.ofChange Rows.stackNilSpec).bare.plain.varTypes Tryd.pinned.checked.prog).any (Tryd.pinned.checked.prog.ifacesRec ·)) = true := by kernel_rfl
theorem pc3 : (Rows.stackNilRow.mapsOut == Tryd.pinned.checked.prog.mapsAmong Tryd.f20.resultTypes.toList) = true := by kernel_rfl
theorem pc4 : (Rows.stackNilRow.loops == (Tryd.f20.params.toList ++ (OpenSpec.ofChange Rows.stackNilSpec).bare.plain.varTypes Tryd.pinned.checked.prog).any (Tryd.pinned.checked.prog.loopsFrom ·)) = true := by kernel_rfl
theorem pc5 : (Rows.stackNilRow.wideKeys == (Tryd.f20.params.toList ++ (OpenSpec.ofChange Rows.stackNilSpec).bare.plain.varTypes Tryd.pinned.checked.prog ++ Tryd.f20.resultTypes.toList).any (Tryd.pinned.checked.prog.wideKeysFrom ·)) = true := by kernel_rfl
theorem pd1 : (OpenSpec.ofChange Rows.stackNilSpec).bare.vars.all (Tryd.pinned.checked.prog.varReadable ·) = true := by kernel_rfl
theorem pd2 : Tryd.f20.resultTypes.all (fun t => Tryd.pinned.checked.prog.readableRec t && decide (t < Tryd.pinned.checked.prog.types.size)) = true := by kernel_rfl
theorem pd3 : (Rows.stackNilRow.ifacesOut == Tryd.f20.resultTypes.toList.any (Tryd.pinned.checked.prog.ifacesRec ·)) = true := by kernel_rfl
theorem pd4 : (Rows.stackNilRow.loopsOut == Tryd.f20.resultTypes.toList.any (Tryd.pinned.checked.prog.loopsFrom ·)) = true := by kernel_rfl
theorem pd5 : kindsOk Tryd.pinned.checked.prog Tryd.f20 Rows.stackNilRow = true := by kernel_rfl
theorem pd6 : (Rows.stackNilRow.pinned == Rows.stackNilRow.pinnedBy) = true := by kernel_rfl
theorem pf1 : (Rows.stackNilRow.veiled == (Tryd.f20.params.toList ++ (OpenSpec.ofChange Rows.stackNilSpec).bare.plain.varTypes Tryd.pinned.checked.prog ++ Tryd.f20.resultTypes.toList).any (Tryd.pinned.checked.prog.veiledRec ·)) = true := by kernel_rfl
theorem pf2 : Rows.stackNilRow.veiledFits Tryd.pinned.checked.prog Tryd.f20.params.toList (Tryd.f20.params.toList ++ (OpenSpec.ofChange Rows.stackNilSpec).bare.plain.varTypes Tryd.pinned.checked.prog ++ Tryd.f20.resultTypes.toList) = true := by kernel_rfl
theorem closed : joinedFacts Tryd.pinned.checked.prog 20 Tryd.f20 (OpenSpec.ofChange Rows.stackNilSpec).bare Rows.stackNilRow = true := joined_parts pa1 laidOut gA3 pa4 pa5 rfl gA7 rfl gA9 pb1 pb2 pb3 pb4 pc1 pc2 pc3 pc4 pc5 pd1 pd2 pd3 pd4 gE1 rfl gE3 gE4 gE5 gE6 pd5 pd6 pf1 pf2
theorem named : Tryd.pinned.checked.prog.funcNamed Rows.stackNilRow.func = some 20 := by kernel_rfl

theorem said : Rows.StackNilSaid :=
  OpenClaim.holds_of_cond 20 Tryd.f20 rfl rfl rfl rfl rfl rfl rfl ⟨rfl, rfl, rfl, rfl, rfl⟩ rfl rfl rfl rfl rfl named Tryd.func20 closed
    (of_decide_eq_true (by kernel_rfl)) (by unfold Func.isWrapper; first | (rw [if_pos (by decide +kernel)]; kernel_rfl) | (rw [if_neg (by decide +kernel)]; exact ⟨rfl, rfl⟩))
    (fun os started H enc _ F => by rw [OpenClaim.pre_eq_preRow]; exact lifted os started H enc F)

theorem plain (f : FuncId) (fn : Func) (hf : Tryd.pinned.checked.prog.funcNamed "thicket/thicketlaw06.StackNil" = some f) (hfn : Tryd.pinned.checked.prog.funcs[f]? = some fn) :
    false = Tryd.pinned.checked.prog.looks [] ∧ ∀ (j : Nat) t, fn.params[j]? = some t → Tryd.pinned.checked.prog.wantsStandIn t = false := by
  obtain rfl : f = 20 := (Option.some.inj (named.symm.trans hf)).symm
  obtain rfl : fn = Tryd.f20 := (Option.some.inj (Tryd.func20.symm.trans hfn)).symm
  refine ⟨by kernel_rfl, fun j t ht => ?_⟩
  rw [params] at ht
  match j, ht with
  | 0, ht => cases ht; exact (show Tryd.prog.wantsStandIn 107 = false by kernel_rfl)
  | 1, ht => cases ht; exact (show Tryd.prog.wantsStandIn 91 = false by kernel_rfl)
  | j + 2, ht => simp at ht

theorem card : Rows.StackNilCardSaid :=
  Claim7.holds_tied_plain_at .later [] _ _ _ _ said (fun _ h => by cases h) (by kernel_rfl) (fun _ h => by cases h) stackNil_row_tie rfl ⟨rfl, rfl⟩ (by kernel_rfl) rfl plain (by kernel_rfl)
end Go.Proofs.YtejpjabbdkpmiaaDoor.stackNil
