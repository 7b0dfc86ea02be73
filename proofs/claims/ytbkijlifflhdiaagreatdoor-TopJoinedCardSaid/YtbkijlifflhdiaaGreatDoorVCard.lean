/-
  The card of TopJoined: whatever the input, the law returns true, and the input reads as it did. Conditions: the row's list of variables alone.
-/
import Derived.Test.YtbkijlifflhdiaaGreatDoorV10
import Derived.Test.YtbkijlifflhdiaaGreatDoorV17
import Derived.Test.YtbkijlifflhdiaaGreatDoorV29
set_option linter.all false
namespace Go.Proofs.YtbkijlifflhdiaaGreatDoor.topJoined
open Go Go.ChangeShapes Go.WideShapes Go.ChangeAt Go.RowKit Go.Am Go.Proofs.YtbkijlifflhdiaaGreatDoor.yq
theorem params:Tryz.f4.params=#[27,28]:=AQ
theorem resultTypes:Tryz.f4.resultTypes=#[4]:=AQ
abbrev tys:List Ty:=[XT,.sl wm]
set_option maxRecDepth 10000 in
theorem contract(H:Type)(enc:TypeId×Value->H)(W:World)(base:Nat)(args:Array Value)(ds gs:List (DataW H))(before:List MemPlace)
  (Ou:∀(j:Nat) t v,Tryz.f4.params[j]?=some t->args[j]?=some v->Value.okWide Tryz.prog W .any base t v)
  (hW:DataW.Whole enc Tryz.prog Tryz.f4.params.toList Rows.topJoinedSpec.vars false W args.toList ds gs before) (b:laidMetH Tryz.prog Rows.topJoinedRow.laid W):
  Calls Tryz.prog 4 args W λe W'=>∃v,e= .returned v/\Rows.topJoinedSpec.post enc Tryz.prog Tryz.f4 false true false false W args v W':=by
 have a:cx.P=Tryz.prog:=rfl;rw[<-a] at Ou hW⊢;refine WL (C:=cx) (f:=4) (fn:=Tryz.f4) (s:=Rows.topJoinedSpec) (args:=args) (W:=W) (ds:=ds) (gs:=gs) (before:=before) (base:=base) mixed mA yE gO Be resultTypes Tryz.underlying4 (tys:=tys) ?_ ?_ ?_ U5 rfl ?_ (xO b) ?_ ?_;rotate_right 2;.exact Ou
 .exact hW
 .rw[params];rfl
 .intro i ty t h1 h2;rw[params] at h2;match i,h1,h2 with
  |0,h1,h2=>cases h1;cases h2;exact(AQ:Ot Tryz.prog (XT) 27=true)
  |1,h1,h2=>cases h1;cases h2;exact(AQ:Ot Tryz.prog (.sl wm) 28=true)
  |i+2,h1,h2=>simp at h1
 .intro t ht;rw[params] at ht;simp only[Az,List.not_mem_nil,or_false] at ht;rcases ht with rfl|rfl<;>exact⟨AQ,aE5 AQ⟩
 .intro ds hd;rw[params] at hd;match ds,hd with
  |[d,c],_=>rfl
theorem witness_row(os:Os){H:Type}(enc:TypeId×Value->H):
  (OpenSpec.ofChange Rows.topJoinedSpec).preRow enc Tryz.prog Tryz.f4 Rows.topJoinedRow.domain false Rows.topJoinedRow.laid ((ND os).forCall (λ_ _=>0) ⟨#[],#[.agg #[.bool false,.int .i64 0,.string ⟨#[]⟩,.slice none 0 0,.bool false,.bool false],.slice none 0 0],[]⟩).memory #[.agg #[.bool false,.int .i64 0,.string ⟨#[]⟩,.slice none 0 0,.bool false,.bool false],.slice none 0 0]:=by
 have hw:(DataW.whole enc Tryz.prog ((ND os).forCall (λ_ _=>0) ⟨#[],#[.agg #[.bool false,.int .i64 0,.string ⟨#[]⟩,.slice none 0 0,.bool false,.bool false],.slice none 0 0],[]⟩).memory Tryz.f4.params.toList Rows.topJoinedSpec.vars false (#[.agg #[.bool false,.int .i64 0,.string ⟨#[]⟩,.slice none 0 0,.bool false,.bool false],.slice none 0 0]:Array Value).toList 8).map (λx=>(x.1,x.2.1))=
  some ([.agg [.lit (.bool false),.agg [.lit (.int .i64 0),.lit (.string []),.nil,.lit (.bool false),.lit (.bool false)]],.nil],[]):=AQ
 obtain⟨⟨c,b,a⟩,hx,Qm⟩:=QL.1 hw;simp only[Jp] at Qm;obtain⟨rfl,rfl⟩:=Qm;exact OpenSpec.preRow_of_cond 8 hx AQ (λk hk=>by cases hk) AQ (rJ os _)
set_option maxRecDepth 100000 in
theorem lifted(os:Os)(started:os.Started)(H:Type)(enc:TypeId×Value->H)(F:Stop.Interp):
  ReturnsInHanded {} Tryz.checked os 4 .any ((OpenSpec.ofChange Rows.topJoinedSpec).preRow enc Tryz.prog Tryz.f4 Rows.topJoinedRow.domain false Rows.topJoinedRow.laid) (((OpenSpec.ofChange Rows.topJoinedSpec).at F).post enc Tryz.prog Tryz.f4 false true false false):=by
 refine returnsInHanded_of_row (C:=Tryz.checked) (s:=OpenSpec.ofChange Rows.topJoinedSpec) Bn started AQ Tryz.func4
  (witness_row_atRef (enc:=enc) (C:=Tryz.checked) false (ND os) #[.agg #[.bool false,.int .i64 0,.string ⟨#[]⟩,.slice none 0 0,.bool false,.bool false],.slice none 0 0] rfl AQ AQ AQ (witness_row os enc)) ?_
 intro W base args ds gs before Ou hW _ _ _ a _ _;exact contract H enc W base args ds gs before Ou hW a
theorem closed:joinedFacts Tryz.pinned.checked.prog 4 Tryz.f4 (OpenSpec.ofChange Rows.topJoinedSpec).bare Rows.topJoinedRow=true:=WM AQ gO gA3 AQ AQ rfl gA7 rfl gA9 AQ AQ AQ AQ AQ AQ AQ AQ AQ AQ AQ AQ AQ gE1 rfl gE3 gE4 gE5 gE6 AQ AQ AQ AQ
theorem named:Tryz.pinned.checked.prog.funcNamed Rows.topJoinedRow.func=some 4:=AQ
theorem said:Rows.TopJoinedSaid:=
 OpenClaim.holds_of_cond 4 Tryz.f4 rfl rfl rfl rfl rfl rfl rfl ⟨rfl,rfl,rfl,rfl,rfl⟩ rfl rfl rfl rfl rfl named Tryz.func4 closed
  (aE5 AQ) (by unfold Func.isWrapper;first|(rw[Ad eJ];kernel_rfl)|(rw[Ac eJ];exact⟨rfl,rfl⟩))
  (λos started H enc _ F=>by rw[OpenClaim.pre_eq_preRow];exact lifted os started H enc F)
theorem plain(f:FuncId)(fn:Func)(hf:Tryz.pinned.checked.prog.funcNamed "thicket/thickettop.TopJoined"=some f)(qI:Tryz.pinned.checked.prog.funcs[f]?=some fn):
  true=Tryz.pinned.checked.prog.looks []/\∀(j:Nat) t,fn.params[j]?=some t->Tryz.pinned.checked.prog.wantsStandIn t=false:=by
 obtain rfl:f=4:=(Da (named.symm.trans hf)).symm;obtain rfl:fn=Tryz.f4:=(Da (Tryz.func4.symm.trans qI)).symm;refine⟨AQ,λj t ht=>?_⟩;rw[params] at ht;match j,ht with
 |0,ht=>cases ht;exact(AQ:Tryz.prog.wantsStandIn 27=false)
 |1,ht=>cases ht;exact(AQ:Tryz.prog.wantsStandIn 28=false)
 |j+2,ht=>simp at ht
theorem card:Rows.TopJoinedCardSaid:=
 Claim7.holds_tied_plain_at .later [] _ _ _ _ said (λ_ h=>by cases h) AQ (λ_ h=>by cases h) topJoined_row_tie rfl ⟨rfl,rfl⟩ AQ rfl plain AQ
end Go.Proofs.YtbkijlifflhdiaaGreatDoor.topJoined
