/-
  The card of BodyOpens: whatever the input, the law returns true, and the input reads as it did. Conditions: the row's list of variables alone.
-/
import Derived.Test.YtffmdapalbecoaaGreatDoorO10
import Derived.Test.YtffmdapalbecoaaGreatDoorO16
import Derived.Test.YtffmdapalbecoaaGreatDoorO34
set_option linter.all false
namespace Go.Proofs.YtffmdapalbecoaaGreatDoor.bodyOpens
open Go Go.ChangeShapes Go.WideShapes Go.ChangeAt Go.RowKit Go.Am Go.Proofs.YtffmdapalbecoaaGreatDoor.š
theorem params:Tryz.f3.params=#[27,28,9,23,4]:=C8
theorem resultTypes:Tryz.f3.resultTypes=#[4]:=C8
abbrev tys:List Ty:=[pE,.sl tOp,.str,.sl UA,.bool]
set_option maxRecDepth 10000 in
theorem contract(H:Type)(enc:TypeId×Value->H)(W:World)(base:Nat)(args:Array Value)(ds gs:List (DataW H))(before:List MemPlace)
  (Qw:∀(j:Nat) t v,Tryz.f3.params[j]?=some t->args[j]?=some v->Value.okWide Tryz.prog W .any base t v)
  (hW:DataW.Whole enc Tryz.prog Tryz.f3.params.toList Rows.bodyOpensSpec.vars false W args.toList ds gs before) (b:laidMetH Tryz.prog Rows.bodyOpensRow.laid W):
  Calls Tryz.prog 3 args W λe W'=>∃v,e= .returned v/\Rows.bodyOpensSpec.post enc Tryz.prog Tryz.f3 false true false false W args v W':=by
 have a:cx.P=Tryz.prog:=rfl;rw[<-a] at Qw hW⊢;refine iJ (C:=cx) (f:=3) (fn:=Tryz.f3) (s:=Rows.bodyOpensSpec) (args:=args) (W:=W) (ds:=ds) (gs:=gs) (before:=before) (base:=base) mixed qn ų fw Bf resultTypes Tryz.underlying4 (tys:=tys) ?_ ?_ ?_ ct rfl ?_ (Ţ b) ?_ ?_;rotate_right 2;.exact Qw
 .exact hW
 .rw[params];rfl
 .intro i ty t h1 h2;rw[params] at h2;match i,h1,h2 with
  |0,h1,h2=>cases h1;cases h2;exact(C8:PX Tryz.prog (pE) 27=true)
  |1,h1,h2=>cases h1;cases h2;exact(C8:PX Tryz.prog (.sl tOp) 28=true)
  |2,h1,h2=>cases h1;cases h2;exact(C8:PX Tryz.prog (.str) 9=true)
  |3,h1,h2=>cases h1;cases h2;exact(C8:PX Tryz.prog (.sl UA) 23=true)
  |4,h1,h2=>cases h1;cases h2;exact(C8:PX Tryz.prog (.bool) 4=true)
  |i+5,h1,h2=>simp at h1
 .intro t ht;rw[params] at ht;simp only[AR,D1,L8] at ht;rcases ht with rfl|rfl|rfl|rfl|rfl<;>exact⟨C8,DP C8⟩
 .intro ds hd;rw[params] at hd;match ds,hd with
  |[k,h,g,d,c],_=>rfl
theorem witness_row(os:Os){H:Type}(enc:TypeId×Value->H):
  (OpenSpec.ofChange Rows.bodyOpensSpec).preRow enc Tryz.prog Tryz.f3 Rows.bodyOpensRow.domain false Rows.bodyOpensRow.laid ((Rl os).forCall (λ_ _=>0) ⟨#[],#[.agg #[.bool false,.int .i64 0,.string ⟨#[]⟩,.slice none 0 0,.bool false,.bool false],.slice none 0 0,.string ⟨#[]⟩,.slice none 0 0,.bool false],[]⟩).memory #[.agg #[.bool false,.int .i64 0,.string ⟨#[]⟩,.slice none 0 0,.bool false,.bool false],.slice none 0 0,.string ⟨#[]⟩,.slice none 0 0,.bool false]:=by
 have hw:(DataW.whole enc Tryz.prog ((Rl os).forCall (λ_ _=>0) ⟨#[],#[.agg #[.bool false,.int .i64 0,.string ⟨#[]⟩,.slice none 0 0,.bool false,.bool false],.slice none 0 0,.string ⟨#[]⟩,.slice none 0 0,.bool false],[]⟩).memory Tryz.f3.params.toList Rows.bodyOpensSpec.vars false (#[.agg #[.bool false,.int .i64 0,.string ⟨#[]⟩,.slice none 0 0,.bool false,.bool false],.slice none 0 0,.string ⟨#[]⟩,.slice none 0 0,.bool false]:Array Value).toList 8).map (λx=>(x.1,x.2.1))=
  some ([.agg [.lit (.bool false),.agg [.lit (.int .i64 0),.lit (.string []),.nil,.lit (.bool false),.lit (.bool false)]],.nil,.lit (.string []),.nil,.lit (.bool false)],[]):=C8
 obtain⟨⟨c,b,a⟩,hx,PY⟩:=Ns.1 hw;simp only[J4] at PY;obtain⟨rfl,rfl⟩:=PY;exact OpenSpec.preRow_of_cond 8 hx C8 (λk hk=>by cases hk) C8 (zt os _)
set_option maxRecDepth 100000 in
theorem lifted(os:Os)(started:os.Started)(H:Type)(enc:TypeId×Value->H)(F:Stop.Interp):
  ReturnsInHanded {} Tryz.checked os 3 .any ((OpenSpec.ofChange Rows.bodyOpensSpec).preRow enc Tryz.prog Tryz.f3 Rows.bodyOpensRow.domain false Rows.bodyOpensRow.laid) (((OpenSpec.ofChange Rows.bodyOpensSpec).at F).post enc Tryz.prog Tryz.f3 false true false false):=by
 refine returnsInHanded_of_row (C:=Tryz.checked) (s:=OpenSpec.ofChange Rows.bodyOpensSpec) Bu started C8 Tryz.func3
  (witness_row_atRef (enc:=enc) (C:=Tryz.checked) false (Rl os) #[.agg #[.bool false,.int .i64 0,.string ⟨#[]⟩,.slice none 0 0,.bool false,.bool false],.slice none 0 0,.string ⟨#[]⟩,.slice none 0 0,.bool false] rfl C8 C8 C8 (witness_row os enc)) ?_
 intro W base args ds gs before Qw hW _ _ _ a _ _;exact contract H enc W base args ds gs before Qw hW a
theorem pb1:(Rows.bodyOpensRow.inPlace==Tryz.pinned.checked.prog.inPlace 3)=true:=C8
theorem pb2:(Rows.bodyOpensRow.unfollowed==Tryz.pinned.checked.prog.unfollowed 3)=true:=C8
theorem pb3:(Rows.bodyOpensRow.recurses==Tryz.pinned.checked.prog.recurses 3)=true:=C8
theorem pb4:(Rows.bodyOpensRow.named==Tryz.pinned.checked.prog.varsNamed 3)=true:=C8
theorem closed:joinedFacts Tryz.pinned.checked.prog 3 Tryz.f3 (OpenSpec.ofChange Rows.bodyOpensSpec).bare Rows.bodyOpensRow=true:=iK C8 fw gA3 C8 C8 rfl gA7 rfl gA9 pb1 pb2 pb3 pb4 C8 C8 C8 C8 C8 C8 C8 C8 C8 gE1 rfl gE3 gE4 gE5 gE6 C8 C8 C8 C8
theorem named:Tryz.pinned.checked.prog.funcNamed Rows.bodyOpensRow.func=some 3:=C8
theorem said:Rows.BodyOpensSaid:=
 OpenClaim.holds_of_cond 3 Tryz.f3 rfl rfl rfl rfl rfl rfl rfl ⟨rfl,rfl,rfl,rfl,rfl⟩ rfl rfl rfl rfl rfl named Tryz.func3 closed
  (DP C8) (by unfold Func.isWrapper;first|(rw[Af Bx];kernel_rfl)|(rw[Ac Bx];exact⟨rfl,rfl⟩))
  (λos started H enc _ F=>by rw[OpenClaim.pre_eq_preRow];exact lifted os started H enc F)
theorem plain(f:FuncId)(fn:Func)(hf:Tryz.pinned.checked.prog.funcNamed "thicket/thicketlaw08.BodyOpens"=some f)(Ŗ:Tryz.pinned.checked.prog.funcs[f]?=some fn):
  true=Tryz.pinned.checked.prog.looks []/\∀(j:Nat) t,fn.params[j]?=some t->Tryz.pinned.checked.prog.wantsStandIn t=false:=by
 obtain rfl:f=3:=(EA (named.symm.trans hf)).symm;obtain rfl:fn=Tryz.f3:=(EA (Tryz.func3.symm.trans Ŗ)).symm;refine⟨C8,λj t ht=>?_⟩;rw[params] at ht;match j,ht with
 |0,ht=>cases ht;exact(C8:Tryz.prog.wantsStandIn 27=false)
 |1,ht=>cases ht;exact(C8:Tryz.prog.wantsStandIn 28=false)
 |2,ht=>cases ht;exact(C8:Tryz.prog.wantsStandIn 9=false)
 |3,ht=>cases ht;exact(C8:Tryz.prog.wantsStandIn 23=false)
 |4,ht=>cases ht;exact(C8:Tryz.prog.wantsStandIn 4=false)
 |j+5,ht=>simp at ht
theorem card:Rows.BodyOpensCardSaid:=
 Claim7.holds_tied_plain_at .later [] _ _ _ _ said (λ_ h=>by cases h) C8 (λ_ h=>by cases h) bodyOpens_row_tie rfl ⟨rfl,rfl⟩ C8 rfl plain (qo rfl)
end Go.Proofs.YtffmdapalbecoaaGreatDoor.bodyOpens
