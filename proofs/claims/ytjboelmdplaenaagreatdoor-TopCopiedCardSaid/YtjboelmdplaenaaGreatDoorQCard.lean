/-
  The card of TopCopied: whatever the input, the law returns true, and the input reads as it did. Conditions: the row's list of variables alone.
-/
import Derived.Test.YtjboelmdplaenaaGreatDoorQ11
import Derived.Test.YtjboelmdplaenaaGreatDoorQ22
import Derived.Test.YtjboelmdplaenaaGreatDoorQ36
set_option linter.unusedVariables false
set_option linter.unusedSimpArgs false
namespace Go.Proofs.YtjboelmdplaenaaGreatDoor.topCopied
open Go Go.ChangeShapes Go.WideShapes Go.ChangeAt Go.RowKit Go.Am Go.Proofs.YtjboelmdplaenaaGreatDoor.Laid
theorem params:Tryz.f3.params=#[22,3]:=by kernel_rfl
theorem resultTypes:Tryz.f3.resultTypes=#[4]:=by kernel_rfl
abbrev tys:List Ty:=[.sl tLOp,.int .i64]
set_option maxRecDepth 10000 in
theorem contract (H:Type) (enc:TypeId×Value→H) (W:World) (base:Nat) (args:Array Value) (ds gs:List (DataW H)) (before:List MemPlace)
  (hval:∀(j:Nat) t v,Tryz.f3.params[j]?=some t→args[j]?=some v→Value.okWide Tryz.prog W .any base t v)
  (hW:DataW.Whole enc Tryz.prog Tryz.f3.params.toList Rows.topCopiedSpec.vars false W args.toList ds gs before) (hL:laidMetH Tryz.prog Rows.topCopiedRow.laid W):
  Calls Tryz.prog 3 args W λe W'=>∃v,e= .returned v∧Rows.topCopiedSpec.post enc Tryz.prog Tryz.f3 false true false false W args v W':=by
 have hP:cx.P=Tryz.prog:=rfl;rw[←hP] at hval hW⊢;refine law_contract (C:=cx) (f:=3) (fn:=Tryz.f3) (s:=Rows.topCopiedSpec) (args:=args) (W:=W) (ds:=ds) (gs:=gs) (before:=before) (base:=base) mixed glob_flat prim_ok laidOut (by decide) resultTypes Tryz.underlying4 (tys:=tys) ?_ ?_ ?_ all_topcopied rfl ?_ (glob_ok hL) ?_ ?_;rotate_right 2
 ·exact hval
 ·exact hW
 ·rw[params];rfl
 ·intro i ty t h1 h2;rw[params] at h2
  match i,h1,h2 with
  |0,h1,h2=>cases h1;cases h2;exact(show tyOk Tryz.prog (.sl tLOp) 22=true by kernel_rfl)
  |1,h1,h2=>cases h1;cases h2;exact(show tyOk Tryz.prog (.int .i64) 3=true by kernel_rfl)
  |i+2,h1,h2=>simp at h1
 ·intro t ht;rw[params] at ht;simp only[List.mem_cons,List.not_mem_nil,or_false] at ht;rcases ht with rfl|rfl<;>exact⟨by kernel_rfl,of_decide_eq_true (by kernel_rfl)⟩
 ·intro ds hd;rw[params] at hd
  match ds,hd with
  |[d0,d1],_=>rfl
theorem witness_row (os:Os) {H:Type} (enc:TypeId×Value→H):
  (OpenSpec.ofChange Rows.topCopiedSpec).preRow enc Tryz.prog Tryz.f3 Rows.topCopiedRow.domain false Rows.topCopiedRow.laid ((laidWorld os).forCall (λ_ _=>0) ⟨#[],#[.slice none 0 0,.int .i64 0],[]⟩).memory #[.slice none 0 0,.int .i64 0]:=by
 have hw:(DataW.whole enc Tryz.prog ((laidWorld os).forCall (λ_ _=>0) ⟨#[],#[.slice none 0 0,.int .i64 0],[]⟩).memory Tryz.f3.params.toList Rows.topCopiedSpec.vars false (#[.slice none 0 0,.int .i64 0]:Array Value).toList 8).map (λx=>(x.1,x.2.1))=
  some ([.nil,.lit (.int .i64 0)],[]):=by kernel_rfl
 obtain⟨⟨x1,x2,x3⟩,hx,hx1⟩:=Option.map_eq_some_iff.1 hw;simp only[Prod.mk.injEq] at hx1;obtain⟨rfl,rfl⟩:=hx1;exact OpenSpec.preRow_of_cond 8 hx (by kernel_rfl) (λk hk=>by cases hk) (by kernel_rfl) (laid_met os _)
set_option maxRecDepth 100000 in
theorem lifted (os:Os) (started:os.Started) (H:Type) (enc:TypeId×Value→H) (F:Stop.Interp):
  ReturnsInHanded {} Tryz.checked os 3 .any ((OpenSpec.ofChange Rows.topCopiedSpec).preRow enc Tryz.prog Tryz.f3 Rows.topCopiedRow.domain false Rows.topCopiedRow.laid) (((OpenSpec.ofChange Rows.topCopiedSpec).at F).post enc Tryz.prog Tryz.f3 false true false false):=by
 refine returnsInHanded_of_row (C:=Tryz.checked) (s:=OpenSpec.ofChange Rows.topCopiedSpec) own started (by kernel_rfl) Tryz.func3
  (witness_row_atRef (enc:=enc) (C:=Tryz.checked) false (laidWorld os) #[.slice none 0 0,.int .i64 0] rfl (by kernel_rfl) (by kernel_rfl) (by kernel_rfl) (witness_row os enc)) ?_
 intro W base args ds gs before hval hW _ _ _ hL _ _;exact contract H enc W base args ds gs before hval hW hL
theorem pa1:Rows.topCopiedRow.wf (OpenSpec.ofChange (OpenSpec.ofChange Rows.topCopiedSpec).bare)=true:=by kernel_rfl
theorem pa4:Tryz.f3.params.all (Tryz.pinned.checked.prog.readableRec ·)=true:=by kernel_rfl
theorem pa5:namedTie Tryz.pinned.checked.prog Rows.topCopiedRow.named (OpenSpec.ofChange Rows.topCopiedSpec).bare.vars=true:=by kernel_rfl
theorem pb1:(Rows.topCopiedRow.inPlace==Tryz.pinned.checked.prog.inPlace 3)=true:=by kernel_rfl
theorem pb2:(Rows.topCopiedRow.unfollowed==Tryz.pinned.checked.prog.unfollowed 3)=true:=by kernel_rfl
theorem pb3:(Rows.topCopiedRow.recurses==Tryz.pinned.checked.prog.recurses 3)=true:=by kernel_rfl
theorem pb4:(Rows.topCopiedRow.named==Tryz.pinned.checked.prog.varsNamed 3)=true:=by kernel_rfl
theorem pc1:(Rows.topCopiedRow.maps==(Tryz.f3.params.toList++(OpenSpec.ofChange Rows.topCopiedSpec).bare.plain.varTypes Tryz.pinned.checked.prog).any (Tryz.pinned.checked.prog.mapsRec ·))=true:=by kernel_rfl
theorem pc2:(Rows.topCopiedRow.ifaces==(Tryz.f3.params.toList++(OpenSpec.ofChange Rows.topCopiedSpec).bare.plain.varTypes Tryz.pinned.checked.prog).any (Tryz.pinned.checked.prog.ifacesRec ·))=true:=by kernel_rfl
theorem pc3:(Rows.topCopiedRow.mapsOut==Tryz.pinned.checked.prog.mapsAmong Tryz.f3.resultTypes.toList)=true:=by kernel_rfl
theorem pc4:(Rows.topCopiedRow.loops==(Tryz.f3.params.toList++(OpenSpec.ofChange Rows.topCopiedSpec).bare.plain.varTypes Tryz.pinned.checked.prog).any (Tryz.pinned.checked.prog.loopsFrom ·))=true:=by kernel_rfl
theorem pc5:(Rows.topCopiedRow.wideKeys==(Tryz.f3.params.toList++(OpenSpec.ofChange Rows.topCopiedSpec).bare.plain.varTypes Tryz.pinned.checked.prog++Tryz.f3.resultTypes.toList).any (Tryz.pinned.checked.prog.wideKeysFrom ·))=true:=by kernel_rfl
theorem pd1:(OpenSpec.ofChange Rows.topCopiedSpec).bare.vars.all (Tryz.pinned.checked.prog.varReadable ·)=true:=by kernel_rfl
theorem pd2:Tryz.f3.resultTypes.all (λt=>Tryz.pinned.checked.prog.readableRec t&&decide (t<Tryz.pinned.checked.prog.types.size))=true:=by kernel_rfl
theorem pd3:(Rows.topCopiedRow.ifacesOut==Tryz.f3.resultTypes.toList.any (Tryz.pinned.checked.prog.ifacesRec ·))=true:=by kernel_rfl
theorem pd4:(Rows.topCopiedRow.loopsOut==Tryz.f3.resultTypes.toList.any (Tryz.pinned.checked.prog.loopsFrom ·))=true:=by kernel_rfl
theorem pd5:kindsOk Tryz.pinned.checked.prog Tryz.f3 Rows.topCopiedRow=true:=by kernel_rfl
theorem pd6:(Rows.topCopiedRow.pinned==Rows.topCopiedRow.pinnedBy)=true:=by kernel_rfl
theorem pf1:(Rows.topCopiedRow.veiled==(Tryz.f3.params.toList++(OpenSpec.ofChange Rows.topCopiedSpec).bare.plain.varTypes Tryz.pinned.checked.prog++Tryz.f3.resultTypes.toList).any (Tryz.pinned.checked.prog.veiledRec ·))=true:=by kernel_rfl
theorem pf2:Rows.topCopiedRow.veiledFits Tryz.pinned.checked.prog Tryz.f3.params.toList (Tryz.f3.params.toList++(OpenSpec.ofChange Rows.topCopiedSpec).bare.plain.varTypes Tryz.pinned.checked.prog++Tryz.f3.resultTypes.toList)=true:=by kernel_rfl
theorem closed:joinedFacts Tryz.pinned.checked.prog 3 Tryz.f3 (OpenSpec.ofChange Rows.topCopiedSpec).bare Rows.topCopiedRow=true:=joined_parts pa1 laidOut gA3 pa4 pa5 rfl gA7 rfl gA9 pb1 pb2 pb3 pb4 pc1 pc2 pc3 pc4 pc5 pd1 pd2 pd3 pd4 gE1 rfl gE3 gE4 gE5 gE6 pd5 pd6 pf1 pf2
theorem named:Tryz.pinned.checked.prog.funcNamed Rows.topCopiedRow.func=some 3:=by kernel_rfl
theorem said:Rows.TopCopiedSaid:=
 OpenClaim.holds_of_cond 3 Tryz.f3 rfl rfl rfl rfl rfl rfl rfl ⟨rfl,rfl,rfl,rfl,rfl⟩ rfl rfl rfl rfl rfl named Tryz.func3 closed
  (of_decide_eq_true (by kernel_rfl)) (by unfold Func.isWrapper;first|(rw[if_pos (by decide+kernel)];kernel_rfl)|(rw[if_neg (by decide+kernel)];exact⟨rfl,rfl⟩))
  (λos started H enc _ F=>by rw[OpenClaim.pre_eq_preRow];exact lifted os started H enc F)
theorem plain (f:FuncId) (fn:Func) (hf:Tryz.pinned.checked.prog.funcNamed "thicket/thickettop.TopCopied"=some f) (hfn:Tryz.pinned.checked.prog.funcs[f]?=some fn):
  true=Tryz.pinned.checked.prog.looks []∧∀(j:Nat) t,fn.params[j]?=some t→Tryz.pinned.checked.prog.wantsStandIn t=false:=by
 obtain rfl:f=3:=(Option.some.inj (named.symm.trans hf)).symm;obtain rfl:fn=Tryz.f3:=(Option.some.inj (Tryz.func3.symm.trans hfn)).symm;refine⟨by kernel_rfl,λj t ht=>?_⟩;rw[params] at ht
 match j,ht with
 |0,ht=>cases ht;exact(show Tryz.prog.wantsStandIn 22=false by kernel_rfl)
 |1,ht=>cases ht;exact(show Tryz.prog.wantsStandIn 3=false by kernel_rfl)
 |j+2,ht=>simp at ht
theorem card:Rows.TopCopiedCardSaid:=
 Claim7.holds_tied_plain_at .later [] _ _ _ _ said (λ_ h=>by cases h) (by kernel_rfl) (λ_ h=>by cases h) topCopied_row_tie rfl ⟨rfl,rfl⟩ (by kernel_rfl) rfl plain (by kernel_rfl)
end Go.Proofs.YtjboelmdplaenaaGreatDoor.topCopied
