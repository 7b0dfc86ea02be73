/-
  The card of StackAdjusts: whatever the input, the law returns true, and the input reads as it did. Conditions: the row's list of variables alone.
-/
import Derived.Test.YtejpjabbdkpmiaaDoorLaid
import Derived.Test.YtejpjabbdkpmiaaDoorLAdjusts
set_option linter.unusedSimpArgs false
set_option linter.unusedVariables false
namespace Go.Proofs.YtejpjabbdkpmiaaDoor.stackAdjusts
open Go Go.ChangeShapes Go.WideShapes Go.ChangeAt Go.RowKit Go.Am Go.Proofs.YtejpjabbdkpmiaaDoor.Laid

theorem params : Tryd.f16.params = #[37, 52] := by kernel_rfl
theorem resultTypes : Tryd.f16.resultTypes = #[4] := by kernel_rfl
abbrev tys : List Ty := [.int .i64, .sl tAttr]

set_option maxRecDepth 10000 in
/-- What the run gives, for every argument and every world that holds the listed variables. -/
theorem contract (H : Type) (enc : TypeId × Value → H) (W : World) (base : Nat) (args : Array Value) (ds gs : List (DataW H)) (before : List MemPlace)
    (hval : ∀ (j : Nat) t v, Tryd.f16.params[j]? = some t → args[j]? = some v → Value.okWide Tryd.prog W .any base t v)
    (hW : DataW.Whole enc Tryd.prog Tryd.f16.params.toList Rows.stackAdjustsSpec.vars false W args.toList ds gs before) (hL : laidMetH Tryd.prog Rows.stackAdjustsRow.laid W) :
    Calls Tryd.prog 16 args W fun e W' => ∃ v, e = .returned v ∧ Rows.stackAdjustsSpec.post enc Tryd.prog Tryd.f16 false true false false W args v W' := by
  have hP : cx.P = Tryd.prog := rfl
  rw [← hP] at hval hW ⊢
  refine law_contract (C := cx) (f := 16) (fn := Tryd.f16) (s := Rows.stackAdjustsSpec) (args := args) (W := W) (ds := ds) (gs := gs) (before := before) (base := base) mixed glob_flat laidOut resultTypes Tryd.underlying4 (tys := tys) ?_ ?_ ?_ all_adjusts rfl ?_ (glob_ok hL) ?_ ?_
  rotate_right 2
  · exact hval
  · exact hW
  · rw [params]; rfl
  · intro i ty t h1 h2
    rw [params] at h2
    match i, h1, h2 with
    | 0, h1, h2 => cases h1; cases h2; exact (show tyOk Tryd.prog (.int .i64) 37 = true by kernel_rfl)
    | 1, h1, h2 => cases h1; cases h2; exact (show tyOk Tryd.prog (.sl tAttr) 52 = true by kernel_rfl)
    | i + 2, h1, h2 => simp at h1
  · intro t ht
    rw [params] at ht
    simp only [List.mem_cons, List.not_mem_nil, or_false] at ht
    rcases ht with rfl | rfl <;> exact ⟨by kernel_rfl, of_decide_eq_true (by kernel_rfl)⟩
  · intro ds hd
    rw [params] at hd
    match ds, hd with
    | [d0, d1], _ => rfl

theorem witness_row (os : Os) {H : Type} (enc : TypeId × Value → H) :
    (OpenSpec.ofChange Rows.stackAdjustsSpec).preRow enc Tryd.prog Tryd.f16 Rows.stackAdjustsRow.domain false Rows.stackAdjustsRow.laid ((laidWorld os).forCall (fun _ _ => 0) ⟨#[], #[.int .i64 0, .slice none 0 0], []⟩).memory #[.int .i64 0, .slice none 0 0] := by
  have hw : (DataW.whole enc Tryd.prog ((laidWorld os).forCall (fun _ _ => 0) ⟨#[], #[.int .i64 0, .slice none 0 0], []⟩).memory Tryd.f16.params.toList Rows.stackAdjustsSpec.vars false (#[.int .i64 0, .slice none 0 0] : Array Value).toList 8).map (fun x => (x.1, x.2.1)) =
      some ([.lit (.int .i64 0), .nil], []) := by kernel_rfl
  obtain ⟨⟨x1, x2, x3⟩, hx, hx1⟩ := Option.map_eq_some_iff.1 hw
  simp only [Prod.mk.injEq] at hx1
  obtain ⟨rfl, rfl⟩ := hx1
  exact OpenSpec.preRow_of_cond 8 hx (by kernel_rfl) (fun k hk => by cases hk) (by kernel_rfl) (laid_met os _)

set_option maxRecDepth 100000 in
theorem lifted (os : Os) (started : os.Started) (H : Type) (enc : TypeId × Value → H) (F : Stop.Interp) :
    ReturnsInHanded {} Tryd.checked os 16 .any ((OpenSpec.ofChange Rows.stackAdjustsSpec).preRow enc Tryd.prog Tryd.f16 Rows.stackAdjustsRow.domain false Rows.stackAdjustsRow.laid) (((OpenSpec.ofChange Rows.stackAdjustsSpec).at F).post enc Tryd.prog Tryd.f16 false true false false) := by
  refine returnsInHanded_of_row (C := Tryd.checked) (s := OpenSpec.ofChange Rows.stackAdjustsSpec) own started (by kernel_rfl) Tryd.func16
    (witness_row_atRef (enc := enc) (C := Tryd.checked) false (laidWorld os) #[.int .i64 0, .slice none 0 0] rfl (by kernel_rfl) (by kernel_rfl) (by kernel_rfl) (witness_row os enc)) ?_
  intro W base args ds gs before hval hW _ _ _ hL _ _
  exact contract H enc W base args ds gs before hval hW hL

theorem pa1 : Rows.stackAdjustsRow.wf (OpenSpec.ofChange (OpenSpec.ofChange Rows.stackAdjustsSpec).bare) = true := by kernel_rfl
theorem pa4 : Tryd.f16.params.all (Tryd.pinned.checked.prog.readableRec ·) = true := by kernel_rfl
theorem pa5 : namedTie Tryd.pinned.checked.prog Rows.stackAdjustsRow.named (OpenSpec.ofChange Rows.stackAdjustsSpec).bare.vars = true := by kernel_rfl
theorem pb1 : (Rows.stackAdjustsRow.inPlace == Tryd.pinned.checked.prog.inPlace 16) = true := by kernel_rfl
theorem pb2 : (Rows.stackAdjustsRow.unfollowed == Tryd.pinned.checked.prog.unfollowed 16) = true := by kernel_rfl
theorem pb3 : (Rows.stackAdjustsRow.recurses == Tryd.pinned.checked.prog.recurses 16) = true := by kernel_rfl
theorem pb4 : (Rows.stackAdjustsRow.named == Tryd.pinned.checked.prog.varsNamed 16) = true := by kernel_rfl
theorem pc1 : (Rows.stackAdjustsRow.maps == (Tryd.f16.params.toList ++ (OpenSpec.ofChange Rows.stackAdjustsSpec).bare.plain.varTypes Tryd.pinned.checked.prog).any (Tryd.pinned.checked.prog.mapsRec ·)) = true := by kernel_rfl
theorem pc2 : (Rows.stackAdjustsRow.ifaces == (Tryd.f16.params.toList ++ (OpenSpec.ofChange Rows.stackAdjustsSpec).bare.plain.varTypes Tryd.pinned.checked.prog).any (Tryd.pinned.checked.prog.ifacesRec ·)) = true := by kernel_rfl
theorem pc3 : (Rows.stackAdjustsRow.mapsOut == Tryd.pinned.checked.prog.mapsAmong Tryd.f16.resultTypes.toList) = true := by kernel_rfl
theorem pc4 : (Rows.stackAdjustsRow.loops == (Tryd.f16.params.toList ++ (OpenSpec.ofChange Rows.stackAdjustsSpec).bare.plain.varTypes Tryd.pinned.checked.prog).any (Tryd.pinned.checked.prog.loopsFrom ·)) = true := by kernel_rfl
theorem pc5 : (Rows.stackAdjustsRow.wideKeys == (Tryd.f16.params.toList ++ (OpenSpec.ofChange Rows.stackAdjustsSpec).bare.plain.varTypes Tryd.pinned.checked.prog ++ Tryd.f16.resultTypes.toList).any (Tryd.pinned.checked.prog.wideKeysFrom ·)) = true := by kernel_rfl
theorem pd1 : (OpenSpec.ofChange Rows.stackAdjustsSpec).bare.vars.all (Tryd.pinned.checked.prog.varReadable ·) = true := by kernel_rfl
theorem pd2 : Tryd.f16.resultTypes.all (fun t => Tryd.pinned.checked.prog.readableRec t && decide (t < Tryd.pinned.checked.prog.types.size)) = true := by kernel_rfl
theorem pd3 : (Rows.stackAdjustsRow.ifacesOut == Tryd.f16.resultTypes.toList.any (Tryd.pinned.checked.prog.ifacesRec ·)) = true := by kernel_rfl
theorem pd4 : (Rows.stackAdjustsRow.loopsOut == Tryd.f16.resultTypes.toList.any (Tryd.pinned.checked.prog.loopsFrom ·)) = true := by kernel_rfl
theorem pd5 : kindsOk Tryd.pinned.checked.prog Tryd.f16 Rows.stackAdjustsRow = true := by kernel_rfl
theorem pd6 : (Rows.stackAdjustsRow.pinned == Rows.stackAdjustsRow.pinnedBy) = true := by kernel_rfl
theorem pf1 : (Rows.stackAdjustsRow.veiled == (Tryd.f16.params.toList ++ (OpenSpec.ofChange Rows.stackAdjustsSpec).bare.plain.varTypes Tryd.pinned.checked.prog ++ Tryd.f16.resultTypes.toList).any (Tryd.pinned.checked.prog.veiledRec ·)) = true := by kernel_rfl
theorem pf2 : Rows.stackAdjustsRow.veiledFits Tryd.pinned.checked.prog Tryd.f16.params.toList (Tryd.f16.params.toList ++ (OpenSpec.ofChange Rows.stackAdjustsSpec).bare.plain.varTypes Tryd.pinned.checked.prog ++ Tryd.f16.resultTypes.toList) = true := by kernel_rfl
theorem closed : joinedFacts Tryd.pinned.checked.prog 16 Tryd.f16 (OpenSpec.ofChange Rows.stackAdjustsSpec).bare Rows.stackAdjustsRow = true := joined_parts pa1 laidOut gA3 pa4 pa5 rfl gA7 rfl gA9 pb1 pb2 pb3 pb4 pc1 pc2 pc3 pc4 pc5 pd1 pd2 pd3 pd4 gE1 rfl gE3 gE4 gE5 gE6 pd5 pd6 pf1 pf2
theorem named : Tryd.pinned.checked.prog.funcNamed Rows.stackAdjustsRow.func = some 16 := by kernel_rfl

theorem said : Rows.StackAdjustsSaid :=
  OpenClaim.holds_of_cond 16 Tryd.f16 rfl rfl rfl rfl rfl rfl rfl ⟨rfl, rfl, rfl, rfl, rfl⟩ rfl rfl rfl rfl rfl named Tryd.func16 closed
    (of_decide_eq_true (by kernel_rfl)) (by unfold Func.isWrapper; first | (rw [if_pos (by decide +kernel)]; kernel_rfl) | (rw [if_neg (by decide +kernel)]; exact ⟨rfl, rfl⟩))
    (fun os started H enc _ F => by rw [OpenClaim.pre_eq_preRow]; exact lifted os started H enc F)

theorem plain (f : FuncId) (fn : Func) (hf : Tryd.pinned.checked.prog.funcNamed "thicket/thicketlaw06.StackAdjusts" = some f) (hfn : Tryd.pinned.checked.prog.funcs[f]? = some fn) :
    false = Tryd.pinned.checked.prog.looks [] ∧ ∀ (j : Nat) t, fn.params[j]? = some t → Tryd.pinned.checked.prog.wantsStandIn t = false := by
  obtain rfl : f = 16 := (Option.some.inj (named.symm.trans hf)).symm
  obtain rfl : fn = Tryd.f16 := (Option.some.inj (Tryd.func16.symm.trans hfn)).symm
  refine ⟨by kernel_rfl, fun j t ht => ?_⟩
  rw [params] at ht
  match j, ht with
  | 0, ht => cases ht; exact (show Tryd.prog.wantsStandIn 37 = false by kernel_rfl)
  | 1, ht => cases ht; exact (show Tryd.prog.wantsStandIn 52 = false by kernel_rfl)
  | j + 2, ht => simp at ht

theorem card : Rows.StackAdjustsCardSaid :=
  Claim7.holds_tied_plain_at .later [] _ _ _ _ said (fun _ h => by cases h) (by kernel_rfl) (fun _ h => by cases h) stackAdjusts_row_tie rfl ⟨rfl, rfl⟩ (by kernel_rfl) rfl plain (by kernel_rfl)
end Go.Proofs.YtejpjabbdkpmiaaDoor.stackAdjusts
