/-
  The card of BodyNames: whatever the input, the law returns true, and the input reads as it did. Conditions: the row's list of variables alone.
-/
import Derived.Test.YtdbnpiefklklhaaGreatDoorH10
import Derived.Test.YtdbnpiefklklhaaGreatDoorH17
import Derived.Test.YtdbnpiefklklhaaGreatDoorHLBI5
set_option linter.all false
namespace Go.Proofs.YtdbnpiefklklhaaGreatDoor.bodyNames
open Go Go.ChangeShapes Go.WideShapes Go.ChangeAt Go.RowKit Go.Am Go.Proofs.YtdbnpiefklklhaaGreatDoor.me
theorem params:Tryz.f4.params=#[27,28,23]:=AA
theorem resultTypes:Tryz.f4.resultTypes=#[4]:=AA
abbrev tys:List Ty:=[Rm,.sl ò,.sl UC]
set_option maxRecDepth 10000 in
theorem contract(H:Type)(enc:TypeId×Value->H)(W:World)(base:Nat)(args:Array Value)(ds gs:List (DataW H))(before:List MemPlace)
  (MP:∀(j:Nat) t v,Tryz.f4.params[j]?=some t->args[j]?=some v->Value.okWide Tryz.prog W .any base t v)
  (hW:DataW.Whole enc Tryz.prog Tryz.f4.params.toList Rows.bodyNamesSpec.vars false W args.toList ds gs before) (b:laidMetH Tryz.prog Rows.bodyNamesRow.laid W):
  Calls Tryz.prog 4 args W λe W'=>∃v,e= .returned v/\Rows.bodyNamesSpec.post enc Tryz.prog Tryz.f4 false true false false W args v W':=by
 have a:cx.P=Tryz.prog:=rfl;rw[<-a] at MP hW⊢;refine R5 (C:=cx) (f:=4) (fn:=Tryz.f4) (s:=Rows.bodyNamesSpec) (args:=args) (W:=W) (ds:=ds) (gs:=gs) (before:=before) (base:=base) mixed Zd sM Vl AM resultTypes Tryz.underlying4 (tys:=tys) ?_ ?_ ?_ fj rfl ?_ (sE b) ?_ ?_;rotate_right 2;.exact MP
 .exact hW
 .rw[params];rfl
 .intro i ty t h1 h2;rw[params] at h2;match i,h1,h2 with
  |0,h1,h2=>cases h1;cases h2;exact(AA:M8 Tryz.prog (Rm) 27=true)
  |1,h1,h2=>cases h1;cases h2;exact(AA:M8 Tryz.prog (.sl ò) 28=true)
  |2,h1,h2=>cases h1;cases h2;exact(AA:M8 Tryz.prog (.sl UC) 23=true)
  |i+3,h1,h2=>simp at h1
 .intro t ht;rw[params] at ht;simp only[AG,J1,lM] at ht;rcases ht with rfl|rfl|rfl<;>exact⟨AA,Cq AA⟩
 .intro ds hd;rw[params] at hd;match ds,hd with
  |[g,d,c],_=>rfl
theorem witness_row(os:Os){H:Type}(enc:TypeId×Value->H):
  (OpenSpec.ofChange Rows.bodyNamesSpec).preRow enc Tryz.prog Tryz.f4 Rows.bodyNamesRow.domain false Rows.bodyNamesRow.laid ((Kb os).forCall (λ_ _=>0) ⟨#[],#[.agg #[.bool false,.int .i64 0,.string ⟨#[]⟩,.slice none 0 0,.bool false,.bool false],.slice none 0 0,.slice none 0 0],[]⟩).memory #[.agg #[.bool false,.int .i64 0,.string ⟨#[]⟩,.slice none 0 0,.bool false,.bool false],.slice none 0 0,.slice none 0 0]:=by
 have hw:(DataW.whole enc Tryz.prog ((Kb os).forCall (λ_ _=>0) ⟨#[],#[.agg #[.bool false,.int .i64 0,.string ⟨#[]⟩,.slice none 0 0,.bool false,.bool false],.slice none 0 0,.slice none 0 0],[]⟩).memory Tryz.f4.params.toList Rows.bodyNamesSpec.vars false (#[.agg #[.bool false,.int .i64 0,.string ⟨#[]⟩,.slice none 0 0,.bool false,.bool false],.slice none 0 0,.slice none 0 0]:Array Value).toList 8).map (λx=>(x.1,x.2.1))=
  some ([.agg [.lit (.bool false),.agg [.lit (.int .i64 0),.lit (.string []),.nil,.lit (.bool false),.lit (.bool false)]],.nil,.nil],[]):=AA
 obtain⟨⟨c,b,a⟩,hx,Rw⟩:=GN.1 hw;simp only[KU] at Rw;obtain⟨rfl,rfl⟩:=Rw;exact OpenSpec.preRow_of_cond 8 hx AA (λk hk=>by cases hk) AA (gO os _)
set_option maxRecDepth 100000 in
theorem lifted(os:Os)(started:os.Started)(H:Type)(enc:TypeId×Value->H)(F:Stop.Interp):
  ReturnsInHanded {} Tryz.checked os 4 .any ((OpenSpec.ofChange Rows.bodyNamesSpec).preRow enc Tryz.prog Tryz.f4 Rows.bodyNamesRow.domain false Rows.bodyNamesRow.laid) (((OpenSpec.ofChange Rows.bodyNamesSpec).at F).post enc Tryz.prog Tryz.f4 false true false false):=by
 refine returnsInHanded_of_row (C:=Tryz.checked) (s:=OpenSpec.ofChange Rows.bodyNamesSpec) BK started AA Tryz.func4
  (witness_row_atRef (enc:=enc) (C:=Tryz.checked) false (Kb os) #[.agg #[.bool false,.int .i64 0,.string ⟨#[]⟩,.slice none 0 0,.bool false,.bool false],.slice none 0 0,.slice none 0 0] rfl AA AA AA (witness_row os enc)) ?_
 intro W base args ds gs before MP hW _ _ _ a _ _;exact contract H enc W base args ds gs before MP hW a
theorem closed:joinedFacts Tryz.pinned.checked.prog 4 Tryz.f4 (OpenSpec.ofChange Rows.bodyNamesSpec).bare Rows.bodyNamesRow=true:=R6 AA Vl gA3 AA AA rfl gA7 rfl gA9 AA AA AA AA AA AA AA AA AA AA AA AA AA gE1 rfl gE3 gE4 gE5 gE6 AA AA AA AA
theorem named:Tryz.pinned.checked.prog.funcNamed Rows.bodyNamesRow.func=some 4:=AA
theorem said:Rows.BodyNamesSaid:=
 OpenClaim.holds_of_cond 4 Tryz.f4 rfl rfl rfl rfl rfl rfl rfl ⟨rfl,rfl,rfl,rfl,rfl⟩ rfl rfl rfl rfl rfl named Tryz.func4 closed
  (Cq AA) (by unfold Func.isWrapper;first|(rw[Af Cz];kernel_rfl)|(rw[Ad Cz];exact⟨rfl,rfl⟩))
  (λos started H enc _ F=>by rw[OpenClaim.pre_eq_preRow];exact lifted os started H enc F)
theorem plain(f:FuncId)(fn:Func)(hf:Tryz.pinned.checked.prog.funcNamed "thicket/thicketlaw08.BodyNames"=some f)(j_:Tryz.pinned.checked.prog.funcs[f]?=some fn):
  true=Tryz.pinned.checked.prog.looks []/\∀(j:Nat) t,fn.params[j]?=some t->Tryz.pinned.checked.prog.wantsStandIn t=false:=by
 obtain rfl:f=4:=(DE (named.symm.trans hf)).symm;obtain rfl:fn=Tryz.f4:=(DE (Tryz.func4.symm.trans j_)).symm;refine⟨AA,λj t ht=>?_⟩;rw[params] at ht;match j,ht with
 |0,ht=>cases ht;exact(AA:Tryz.prog.wantsStandIn 27=false)
 |1,ht=>cases ht;exact(AA:Tryz.prog.wantsStandIn 28=false)
 |2,ht=>cases ht;exact(AA:Tryz.prog.wantsStandIn 23=false)
 |j+3,ht=>simp at ht
theorem card:Rows.BodyNamesCardSaid:=
 Claim7.holds_tied_plain_at .later [] _ _ _ _ said (λ_ h=>by cases h) AA (λ_ h=>by cases h) bodyNames_row_tie rfl ⟨rfl,rfl⟩ AA rfl plain (Ze rfl)
end Go.Proofs.YtdbnpiefklklhaaGreatDoor.bodyNames
