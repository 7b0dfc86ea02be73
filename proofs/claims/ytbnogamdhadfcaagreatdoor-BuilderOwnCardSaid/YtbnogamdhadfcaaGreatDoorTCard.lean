/-
  The card of BuilderOwn: whatever the input, the law returns true, and the input reads as it did. Conditions: the row's list of variables alone.
-/
import Derived.Test.YtbnogamdhadfcaaGreatDoorT11
import Derived.Test.YtbnogamdhadfcaaGreatDoorT17
import Derived.Test.YtbnogamdhadfcaaGreatDoorT32
set_option linter.unusedVariables false
set_option linter.unusedSimpArgs false
namespace Go.Proofs.YtbnogamdhadfcaaGreatDoor.builderOwn
open Go Go.ChangeShapes Go.WideShapes Go.ChangeAt Go.RowKit Go.Am Go.Proofs.YtbnogamdhadfcaaGreatDoor.aDW
theorem params:Tryz.f4.params=#[31,69]:=by kernel_rfl
theorem resultTypes:Tryz.f4.resultTypes=#[4]:=by kernel_rfl
abbrev Rt:List Ty:=[Zy,.sl tOp]
set_option maxRecDepth 10000 in
theorem contract(H:Type)(enc:TypeId×Value->H)(W:World)(base:Nat)(args:Array Value)(ds gs:List (DataW H))(before:List MemPlace)
  (PR:∀(j:Nat) t v,Tryz.f4.params[j]?=some t->args[j]?=some v->Value.okWide Tryz.prog W .any base t v)
  (hW:DataW.Whole enc Tryz.prog Tryz.f4.params.toList Rows.builderOwnSpec.vars false W args.toList ds gs before) (hL:laidMetH Tryz.prog Rows.builderOwnRow.laid W):
  Calls Tryz.prog 4 args W λe W'=>∃v,e= .returned v/\Rows.builderOwnSpec.post enc Tryz.prog Tryz.f4 false true false false W args v W':=by
 have hP:cx.P=Tryz.prog:=rfl;rw[<-hP] at PR hW⊢;refine Yp (C:=cx) (f:=4) (fn:=Tryz.f4) (s:=Rows.builderOwnSpec) (args:=args) (W:=W) (ds:=ds) (gs:=gs) (before:=before) (base:=base) mixed rB iw lC (by decide) resultTypes Tryz.underlying4 (Rt:=Rt) ?_ ?_ ?_ s_ rfl ?_ (gm hL) ?_ ?_;rotate_right 2;·exact PR
 .exact hW
 .rw[params];rfl
 .intro i ty t h1 h2;rw[params] at h2;match i,h1,h2 with
  |0,h1,h2=>cases h1;cases h2;exact(show PQ Tryz.prog (Zy) 31=true by kernel_rfl)
  |1,h1,h2=>cases h1;cases h2;exact(show PQ Tryz.prog (.sl tOp) 69=true by kernel_rfl)
  |i+2,h1,h2=>simp at h1
 .intro t ht;rw[params] at ht;simp only[AP,List.not_mem_nil,or_false] at ht;rcases ht with rfl|rfl<;>exact⟨by kernel_rfl,of_decide_eq_true (by kernel_rfl)⟩
 .intro ds hd;rw[params] at hd;match ds,hd with
  |[d0,d1],_=>rfl
theorem dP(os:Os){H:Type}(enc:TypeId×Value->H):
  (OpenSpec.ofChange Rows.builderOwnSpec).preRow enc Tryz.prog Tryz.f4 Rows.builderOwnRow.domain false Rows.builderOwnRow.laid ((OK os).forCall (λ_ _=>0) ⟨#[],#[.agg #[.bool false,.int .i64 0,.string ⟨#[]⟩,.slice none 0 0,.bool false,.bool false],.slice none 0 0],[]⟩).memory #[.agg #[.bool false,.int .i64 0,.string ⟨#[]⟩,.slice none 0 0,.bool false,.bool false],.slice none 0 0]:=by
 have hw:(DataW.whole enc Tryz.prog ((OK os).forCall (λ_ _=>0) ⟨#[],#[.agg #[.bool false,.int .i64 0,.string ⟨#[]⟩,.slice none 0 0,.bool false,.bool false],.slice none 0 0],[]⟩).memory Tryz.f4.params.toList Rows.builderOwnSpec.vars false (#[.agg #[.bool false,.int .i64 0,.string ⟨#[]⟩,.slice none 0 0,.bool false,.bool false],.slice none 0 0]:Array Value).toList 8).map (λx=>(x.1,x.2.1))=
  some ([.agg [.lit (.bool false),.agg [.lit (.int .i64 0),.lit (.string []),.nil,.lit (.bool false),.lit (.bool false)]],.nil],[]):=by kernel_rfl
 obtain⟨⟨x1,x2,x3⟩,hx,NA⟩:=de.1 hw;simp only[KU] at NA;obtain⟨rfl,rfl⟩:=NA;exact OpenSpec.preRow_of_cond 8 hx (by kernel_rfl) (λk hk=>by cases hk) (by kernel_rfl) (wK os _)
set_option maxRecDepth 100000 in
theorem lifted(os:Os)(started:os.Started)(H:Type)(enc:TypeId×Value->H)(F:Stop.Interp):
  ReturnsInHanded {} Tryz.checked os 4 .any ((OpenSpec.ofChange Rows.builderOwnSpec).preRow enc Tryz.prog Tryz.f4 Rows.builderOwnRow.domain false Rows.builderOwnRow.laid) (((OpenSpec.ofChange Rows.builderOwnSpec).at F).post enc Tryz.prog Tryz.f4 false true false false):=by
 refine returnsInHanded_of_row (C:=Tryz.checked) (s:=OpenSpec.ofChange Rows.builderOwnSpec) own started (by kernel_rfl) Tryz.func4
  (witness_row_atRef (enc:=enc) (C:=Tryz.checked) false (OK os) #[.agg #[.bool false,.int .i64 0,.string ⟨#[]⟩,.slice none 0 0,.bool false,.bool false],.slice none 0 0] rfl (by kernel_rfl) (by kernel_rfl) (by kernel_rfl) (dP os enc)) ?_
 intro W base args ds gs before PR hW _ _ _ hL _ _;exact contract H enc W base args ds gs before PR hW hL
theorem pa1:Rows.builderOwnRow.wf (OpenSpec.ofChange (OpenSpec.ofChange Rows.builderOwnSpec).bare)=true:=by kernel_rfl
theorem pa4:Tryz.f4.params.all (Tryz.pinned.checked.prog.readableRec ·)=true:=by kernel_rfl
theorem pa5:namedTie Tryz.pinned.checked.prog Rows.builderOwnRow.named (OpenSpec.ofChange Rows.builderOwnSpec).bare.vars=true:=by kernel_rfl
theorem pb1:(Rows.builderOwnRow.inPlace==Tryz.pinned.checked.prog.inPlace 4)=true:=by kernel_rfl
theorem pb2:(Rows.builderOwnRow.unfollowed==Tryz.pinned.checked.prog.unfollowed 4)=true:=by kernel_rfl
theorem pb3:(Rows.builderOwnRow.recurses==Tryz.pinned.checked.prog.recurses 4)=true:=by kernel_rfl
theorem pb4:(Rows.builderOwnRow.named==Tryz.pinned.checked.prog.varsNamed 4)=true:=by kernel_rfl
theorem pc1:(Rows.builderOwnRow.maps==(Tryz.f4.params.toList++(OpenSpec.ofChange Rows.builderOwnSpec).bare.plain.varTypes Tryz.pinned.checked.prog).any (Tryz.pinned.checked.prog.mapsRec ·))=true:=by kernel_rfl
theorem pc2:(Rows.builderOwnRow.ifaces==(Tryz.f4.params.toList++(OpenSpec.ofChange Rows.builderOwnSpec).bare.plain.varTypes Tryz.pinned.checked.prog).any (Tryz.pinned.checked.prog.ifacesRec ·))=true:=by kernel_rfl
theorem pc3:(Rows.builderOwnRow.mapsOut==Tryz.pinned.checked.prog.mapsAmong Tryz.f4.resultTypes.toList)=true:=by kernel_rfl
theorem pc4:(Rows.builderOwnRow.loops==(Tryz.f4.params.toList++(OpenSpec.ofChange Rows.builderOwnSpec).bare.plain.varTypes Tryz.pinned.checked.prog).any (Tryz.pinned.checked.prog.loopsFrom ·))=true:=by kernel_rfl
theorem pc5:(Rows.builderOwnRow.wideKeys==(Tryz.f4.params.toList++(OpenSpec.ofChange Rows.builderOwnSpec).bare.plain.varTypes Tryz.pinned.checked.prog++Tryz.f4.resultTypes.toList).any (Tryz.pinned.checked.prog.wideKeysFrom ·))=true:=by kernel_rfl
theorem pd1:(OpenSpec.ofChange Rows.builderOwnSpec).bare.vars.all (Tryz.pinned.checked.prog.varReadable ·)=true:=by kernel_rfl
theorem pd2:Tryz.f4.resultTypes.all (λt=>Tryz.pinned.checked.prog.readableRec t&&decide (t<Tryz.pinned.checked.prog.types.size))=true:=by kernel_rfl
theorem pd3:(Rows.builderOwnRow.ifacesOut==Tryz.f4.resultTypes.toList.any (Tryz.pinned.checked.prog.ifacesRec ·))=true:=by kernel_rfl
theorem pd4:(Rows.builderOwnRow.loopsOut==Tryz.f4.resultTypes.toList.any (Tryz.pinned.checked.prog.loopsFrom ·))=true:=by kernel_rfl
theorem pd5:lD Tryz.pinned.checked.prog Tryz.f4 Rows.builderOwnRow=true:=by kernel_rfl
theorem pd6:(Rows.builderOwnRow.pinned==Rows.builderOwnRow.pinnedBy)=true:=by kernel_rfl
theorem pf1:(Rows.builderOwnRow.veiled==(Tryz.f4.params.toList++(OpenSpec.ofChange Rows.builderOwnSpec).bare.plain.varTypes Tryz.pinned.checked.prog++Tryz.f4.resultTypes.toList).any (Tryz.pinned.checked.prog.veiledRec ·))=true:=by kernel_rfl
theorem pf2:Rows.builderOwnRow.veiledFits Tryz.pinned.checked.prog Tryz.f4.params.toList (Tryz.f4.params.toList++(OpenSpec.ofChange Rows.builderOwnSpec).bare.plain.varTypes Tryz.pinned.checked.prog++Tryz.f4.resultTypes.toList)=true:=by kernel_rfl
theorem closed:joinedFacts Tryz.pinned.checked.prog 4 Tryz.f4 (OpenSpec.ofChange Rows.builderOwnSpec).bare Rows.builderOwnRow=true:=Yq pa1 lC gA3 pa4 pa5 rfl gA7 rfl gA9 pb1 pb2 pb3 pb4 pc1 pc2 pc3 pc4 pc5 pd1 pd2 pd3 pd4 gE1 rfl gE3 gE4 gE5 gE6 pd5 pd6 pf1 pf2
theorem named:Tryz.pinned.checked.prog.funcNamed Rows.builderOwnRow.func=some 4:=by kernel_rfl
theorem aMU:Rows.BuilderOwnSaid:=
 OpenClaim.holds_of_cond 4 Tryz.f4 rfl rfl rfl rfl rfl rfl rfl ⟨rfl,rfl,rfl,rfl,rfl⟩ rfl rfl rfl rfl rfl named Tryz.func4 closed
  (of_decide_eq_true (by kernel_rfl)) (by unfold Func.isWrapper;first|(rw[if_pos (by decide+kernel)];kernel_rfl)|(rw[if_neg (by decide+kernel)];exact⟨rfl,rfl⟩))
  (λos started H enc _ F=>by rw[OpenClaim.pre_eq_preRow];exact lifted os started H enc F)
theorem plain(f:FuncId)(fn:Func)(hf:Tryz.pinned.checked.prog.funcNamed "thicket/thicketlaw07.BuilderOwn"=some f)(hfn:Tryz.pinned.checked.prog.funcs[f]?=some fn):
  true=Tryz.pinned.checked.prog.looks []/\∀(j:Nat) t,fn.params[j]?=some t->Tryz.pinned.checked.prog.wantsStandIn t=false:=by
 obtain rfl:f=4:=(ED (named.symm.trans hf)).symm;obtain rfl:fn=Tryz.f4:=(ED (Tryz.func4.symm.trans hfn)).symm;refine⟨by kernel_rfl,λj t ht=>?_⟩;rw[params] at ht;match j,ht with
 |0,ht=>cases ht;exact(show Tryz.prog.wantsStandIn 31=false by kernel_rfl)
 |1,ht=>cases ht;exact(show Tryz.prog.wantsStandIn 69=false by kernel_rfl)
 |j+2,ht=>simp at ht
theorem card:Rows.BuilderOwnCardSaid:=
 Claim7.holds_tied_plain_at .later [] _ _ _ _ aMU (λ_ h=>by cases h) (by kernel_rfl) (λ_ h=>by cases h) builderOwn_row_tie rfl ⟨rfl,rfl⟩ (by kernel_rfl) rfl plain (by kernel_rfl)
end Go.Proofs.YtbnogamdhadfcaaGreatDoor.builderOwn
