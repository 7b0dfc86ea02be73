/-
  The card of TopBuilt: whatever the input, the law returns true, and the input reads as it did. Conditions: the row's list of variables alone.
-/
import Derived.Test.YtbkijlifflhdiaaGreatDoorX10
import Derived.Test.YtbkijlifflhdiaaGreatDoorX16
import Derived.Test.YtbkijlifflhdiaaGreatDoorX29
set_option linter.all false
namespace Go.Proofs.YtbkijlifflhdiaaGreatDoor.topBuilt
open Go Go.ChangeShapes Go.WideShapes Go.ChangeAt Go.RowKit Go.Am Go.Proofs.YtbkijlifflhdiaaGreatDoor.á
theorem params:Tryz.f3.params=#[27,28]:=A0
theorem resultTypes:Tryz.f3.resultTypes=#[4]:=A0
abbrev tys:List Ty:=[YA,.sl L_]
set_option maxRecDepth 10000 in
theorem contract(H:Type)(enc:TypeId×Value->H)(W:World)(base:Nat)(args:Array Value)(ds gs:List (DataW H))(before:List MemPlace)
  (Pj:∀(j:Nat) t v,Tryz.f3.params[j]?=some t->args[j]?=some v->Value.okWide Tryz.prog W .any base t v)
  (hW:DataW.Whole enc Tryz.prog Tryz.f3.params.toList Rows.topBuiltSpec.vars false W args.toList ds gs before) (b:laidMetH Tryz.prog Rows.topBuiltRow.laid W):
  Calls Tryz.prog 3 args W λe W'=>∃v,e= .returned v/\Rows.topBuiltSpec.post enc Tryz.prog Tryz.f3 false true false false W args v W':=by
 have a:cx.P=Tryz.prog:=rfl;rw[<-a] at Pj hW⊢;refine XD (C:=cx) (f:=3) (fn:=Tryz.f3) (s:=Rows.topBuiltSpec) (args:=args) (W:=W) (ds:=ds) (gs:=gs) (before:=before) (base:=base) mixed nM ag i6 Bj resultTypes Tryz.underlying4 (tys:=tys) ?_ ?_ ?_ YG rfl ?_ (zQ b) ?_ ?_;rotate_right 2;.exact Pj
 .exact hW
 .rw[params];rfl
 .intro i ty t h1 h2;rw[params] at h2;match i,h1,h2 with
  |0,h1,h2=>cases h1;cases h2;exact(A0:Ph Tryz.prog (YA) 27=true)
  |1,h1,h2=>cases h1;cases h2;exact(A0:Ph Tryz.prog (.sl L_) 28=true)
  |i+2,h1,h2=>simp at h1
 .intro t ht;rw[params] at ht;simp only[Az,List.not_mem_nil,or_false] at ht;rcases ht with rfl|rfl<;>exact⟨A0,FI A0⟩
 .intro ds hd;rw[params] at hd;match ds,hd with
  |[d,c],_=>rfl
theorem witness_row(os:Os){H:Type}(enc:TypeId×Value->H):
  (OpenSpec.ofChange Rows.topBuiltSpec).preRow enc Tryz.prog Tryz.f3 Rows.topBuiltRow.domain false Rows.topBuiltRow.laid ((Om os).forCall (λ_ _=>0) ⟨#[],#[.agg #[.bool false,.int .i64 0,.string ⟨#[]⟩,.slice none 0 0,.bool false,.bool false],.slice none 0 0],[]⟩).memory #[.agg #[.bool false,.int .i64 0,.string ⟨#[]⟩,.slice none 0 0,.bool false,.bool false],.slice none 0 0]:=by
 have hw:(DataW.whole enc Tryz.prog ((Om os).forCall (λ_ _=>0) ⟨#[],#[.agg #[.bool false,.int .i64 0,.string ⟨#[]⟩,.slice none 0 0,.bool false,.bool false],.slice none 0 0],[]⟩).memory Tryz.f3.params.toList Rows.topBuiltSpec.vars false (#[.agg #[.bool false,.int .i64 0,.string ⟨#[]⟩,.slice none 0 0,.bool false,.bool false],.slice none 0 0]:Array Value).toList 8).map (λx=>(x.1,x.2.1))=
  some ([.agg [.lit (.bool false),.agg [.lit (.int .i64 0),.lit (.string []),.nil,.lit (.bool false),.lit (.bool false)]],.nil],[]):=A0
 obtain⟨⟨c,b,a⟩,hx,Ri⟩:=zc.1 hw;simp only[LU] at Ri;obtain⟨rfl,rfl⟩:=Ri;exact OpenSpec.preRow_of_cond 8 hx A0 (λk hk=>by cases hk) A0 (sX os _)
set_option maxRecDepth 100000 in
theorem lifted(os:Os)(started:os.Started)(H:Type)(enc:TypeId×Value->H)(F:Stop.Interp):
  ReturnsInHanded {} Tryz.checked os 3 .any ((OpenSpec.ofChange Rows.topBuiltSpec).preRow enc Tryz.prog Tryz.f3 Rows.topBuiltRow.domain false Rows.topBuiltRow.laid) (((OpenSpec.ofChange Rows.topBuiltSpec).at F).post enc Tryz.prog Tryz.f3 false true false false):=by
 refine returnsInHanded_of_row (C:=Tryz.checked) (s:=OpenSpec.ofChange Rows.topBuiltSpec) BE started A0 Tryz.func3
  (witness_row_atRef (enc:=enc) (C:=Tryz.checked) false (Om os) #[.agg #[.bool false,.int .i64 0,.string ⟨#[]⟩,.slice none 0 0,.bool false,.bool false],.slice none 0 0] rfl A0 A0 A0 (witness_row os enc)) ?_
 intro W base args ds gs before Pj hW _ _ _ a _ _;exact contract H enc W base args ds gs before Pj hW a
theorem closed:joinedFacts Tryz.pinned.checked.prog 3 Tryz.f3 (OpenSpec.ofChange Rows.topBuiltSpec).bare Rows.topBuiltRow=true:=XE A0 i6 gA3 A0 A0 rfl gA7 rfl gA9 A0 A0 A0 A0 A0 A0 A0 A0 A0 A0 A0 A0 A0 gE1 rfl gE3 gE4 gE5 gE6 A0 A0 A0 A0
theorem named:Tryz.pinned.checked.prog.funcNamed Rows.topBuiltRow.func=some 3:=A0
theorem said:Rows.TopBuiltSaid:=
 OpenClaim.holds_of_cond 3 Tryz.f3 rfl rfl rfl rfl rfl rfl rfl ⟨rfl,rfl,rfl,rfl,rfl⟩ rfl rfl rfl rfl rfl named Tryz.func3 closed
  (FI A0) (by unfold Func.isWrapper;first|(rw[Ad fY];kernel_rfl)|(rw[Ac fY];exact⟨rfl,rfl⟩))
  (λos started H enc _ F=>by rw[OpenClaim.pre_eq_preRow];exact lifted os started H enc F)
theorem plain(f:FuncId)(fn:Func)(hf:Tryz.pinned.checked.prog.funcNamed "thicket/thickettop.TopBuilt"=some f)(zD:Tryz.pinned.checked.prog.funcs[f]?=some fn):
  true=Tryz.pinned.checked.prog.looks []/\∀(j:Nat) t,fn.params[j]?=some t->Tryz.pinned.checked.prog.wantsStandIn t=false:=by
 obtain rfl:f=3:=(Ew (named.symm.trans hf)).symm;obtain rfl:fn=Tryz.f3:=(Ew (Tryz.func3.symm.trans zD)).symm;refine⟨A0,λj t ht=>?_⟩;rw[params] at ht;match j,ht with
 |0,ht=>cases ht;exact(A0:Tryz.prog.wantsStandIn 27=false)
 |1,ht=>cases ht;exact(A0:Tryz.prog.wantsStandIn 28=false)
 |j+2,ht=>simp at ht
theorem card:Rows.TopBuiltCardSaid:=
 Claim7.holds_tied_plain_at .later [] _ _ _ _ said (λ_ h=>by cases h) A0 (λ_ h=>by cases h) topBuilt_row_tie rfl ⟨rfl,rfl⟩ A0 rfl plain A0
end Go.Proofs.YtbkijlifflhdiaaGreatDoor.topBuilt
