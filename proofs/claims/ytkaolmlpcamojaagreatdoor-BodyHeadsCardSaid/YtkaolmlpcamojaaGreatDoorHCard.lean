/-
  The card of BodyHeads: whatever the input, the law returns true, and the input reads as it did. Conditions: the row's list of variables alone.
-/
import Derived.Test.YtkaolmlpcamojaaGreatDoorH10
import Derived.Test.YtkaolmlpcamojaaGreatDoorH16
import Derived.Test.YtkaolmlpcamojaaGreatDoorH35
set_option linter.all false
namespace Go.Proofs.YtkaolmlpcamojaaGreatDoor.bodyHeads
open Go Go.ChangeShapes Go.WideShapes Go.ChangeAt Go.RowKit Go.Am Go.Proofs.YtkaolmlpcamojaaGreatDoor.ĉ
theorem params:Tryz.f3.params=#[27,28,31,3]:=Dg
theorem resultTypes:Tryz.f3.resultTypes=#[4]:=Dg
abbrev tys:List Ty:=[mU,.sl tOp,Ó,.int .i64]
set_option maxRecDepth 10000 in
theorem contract(H:Type)(enc:TypeId×Value->H)(W:World)(base:Nat)(args:Array Value)(ds gs:List (DataW H))(before:List MemPlace)
  (R2:∀(j:Nat) t v,Tryz.f3.params[j]?=some t->args[j]?=some v->Value.okWide Tryz.prog W .any base t v)
  (hW:DataW.Whole enc Tryz.prog Tryz.f3.params.toList Rows.bodyHeadsSpec.vars false W args.toList ds gs before) (b:laidMetH Tryz.prog Rows.bodyHeadsRow.laid W):
  Calls Tryz.prog 3 args W λe W'=>∃v,e= .returned v/\Rows.bodyHeadsSpec.post enc Tryz.prog Tryz.f3 false true false false W args v W':=by
 have a:cx.P=Tryz.prog:=rfl;rw[<-a] at R2 hW⊢;refine fA (C:=cx) (f:=3) (fn:=Tryz.f3) (s:=Rows.bodyHeadsSpec) (args:=args) (W:=W) (ds:=ds) (gs:=gs) (before:=before) (base:=base) mixed la ě zQ AP resultTypes Tryz.underlying4 (tys:=tys) ?_ ?_ ?_ qd rfl ?_ (Ċ b) ?_ ?_;rotate_right 2;.exact R2
 .exact hW
 .rw[params];rfl
 .intro i ty t h1 h2;rw[params] at h2;match i,h1,h2 with
  |0,h1,h2=>cases h1;cases h2;exact(Dg:P8 Tryz.prog (mU) 27=true)
  |1,h1,h2=>cases h1;cases h2;exact(Dg:P8 Tryz.prog (.sl tOp) 28=true)
  |2,h1,h2=>cases h1;cases h2;exact(Dg:P8 Tryz.prog (Ó) 31=true)
  |3,h1,h2=>cases h1;cases h2;exact(Dg:P8 Tryz.prog (.int .i64) 3=true)
  |i+4,h1,h2=>simp at h1
 .intro t ht;rw[params] at ht;simp only[AS,KY,sE] at ht;rcases ht with rfl|rfl|rfl|rfl<;>exact⟨Dg,GN Dg⟩
 .intro ds hd;rw[params] at hd;match ds,hd with
  |[h,g,d,c],_=>rfl
theorem witness_row(os:Os){H:Type}(enc:TypeId×Value->H):
  (OpenSpec.ofChange Rows.bodyHeadsSpec).preRow enc Tryz.prog Tryz.f3 Rows.bodyHeadsRow.domain false Rows.bodyHeadsRow.laid ((QM os).forCall (λ_ _=>0) ⟨#[],#[.agg #[.bool false,.int .i64 0,.string ⟨#[]⟩,.slice none 0 0,.bool false,.bool false],.slice none 0 0,.agg #[.int .i64 0,.string ⟨#[]⟩,.bool false,.string ⟨#[]⟩,.bool false,.string ⟨#[]⟩,.bool false,.bool false,.slice none 0 0,.bool false,.string ⟨#[]⟩,.int .i32 0],.int .i64 0],[]⟩).memory #[.agg #[.bool false,.int .i64 0,.string ⟨#[]⟩,.slice none 0 0,.bool false,.bool false],.slice none 0 0,.agg #[.int .i64 0,.string ⟨#[]⟩,.bool false,.string ⟨#[]⟩,.bool false,.string ⟨#[]⟩,.bool false,.bool false,.slice none 0 0,.bool false,.string ⟨#[]⟩,.int .i32 0],.int .i64 0]:=by
 have hw:(DataW.whole enc Tryz.prog ((QM os).forCall (λ_ _=>0) ⟨#[],#[.agg #[.bool false,.int .i64 0,.string ⟨#[]⟩,.slice none 0 0,.bool false,.bool false],.slice none 0 0,.agg #[.int .i64 0,.string ⟨#[]⟩,.bool false,.string ⟨#[]⟩,.bool false,.string ⟨#[]⟩,.bool false,.bool false,.slice none 0 0,.bool false,.string ⟨#[]⟩,.int .i32 0],.int .i64 0],[]⟩).memory Tryz.f3.params.toList Rows.bodyHeadsSpec.vars false (#[.agg #[.bool false,.int .i64 0,.string ⟨#[]⟩,.slice none 0 0,.bool false,.bool false],.slice none 0 0,.agg #[.int .i64 0,.string ⟨#[]⟩,.bool false,.string ⟨#[]⟩,.bool false,.string ⟨#[]⟩,.bool false,.bool false,.slice none 0 0,.bool false,.string ⟨#[]⟩,.int .i32 0],.int .i64 0]:Array Value).toList 8).map (λx=>(x.1,x.2.1))=
  some ([.agg [.lit (.bool false),.agg [.lit (.int .i64 0),.lit (.string []),.nil,.lit (.bool false),.lit (.bool false)]],.nil,.agg [.lit (.int .i64 0),.lit (.string []),.lit (.bool false),.lit (.string []),.lit (.bool false),.lit (.string []),.lit (.bool false),.lit (.bool false),.nil,.lit (.bool false),.lit (.string []),.lit (.int .i32 0)],.lit (.int .i64 0)],[]):=Dg
 obtain⟨⟨c,b,a⟩,hx,PD⟩:=M6.1 hw;simp only[IA] at PD;obtain⟨rfl,rfl⟩:=PD;exact OpenSpec.preRow_of_cond 8 hx Dg (λk hk=>by cases hk) Dg (vy os _)
set_option maxRecDepth 100000 in
theorem lifted(os:Os)(started:os.Started)(H:Type)(enc:TypeId×Value->H)(F:Stop.Interp):
  ReturnsInHanded {} Tryz.checked os 3 .any ((OpenSpec.ofChange Rows.bodyHeadsSpec).preRow enc Tryz.prog Tryz.f3 Rows.bodyHeadsRow.domain false Rows.bodyHeadsRow.laid) (((OpenSpec.ofChange Rows.bodyHeadsSpec).at F).post enc Tryz.prog Tryz.f3 false true false false):=by
 refine returnsInHanded_of_row (C:=Tryz.checked) (s:=OpenSpec.ofChange Rows.bodyHeadsSpec) Bs started Dg Tryz.func3
  (witness_row_atRef (enc:=enc) (C:=Tryz.checked) false (QM os) #[.agg #[.bool false,.int .i64 0,.string ⟨#[]⟩,.slice none 0 0,.bool false,.bool false],.slice none 0 0,.agg #[.int .i64 0,.string ⟨#[]⟩,.bool false,.string ⟨#[]⟩,.bool false,.string ⟨#[]⟩,.bool false,.bool false,.slice none 0 0,.bool false,.string ⟨#[]⟩,.int .i32 0],.int .i64 0] rfl Dg Dg Dg (witness_row os enc)) ?_
 intro W base args ds gs before R2 hW _ _ _ a _ _;exact contract H enc W base args ds gs before R2 hW a
theorem pb1:(Rows.bodyHeadsRow.inPlace==Tryz.pinned.checked.prog.inPlace 3)=true:=Dg
theorem pb2:(Rows.bodyHeadsRow.unfollowed==Tryz.pinned.checked.prog.unfollowed 3)=true:=Dg
theorem pb3:(Rows.bodyHeadsRow.recurses==Tryz.pinned.checked.prog.recurses 3)=true:=Dg
theorem pb4:(Rows.bodyHeadsRow.named==Tryz.pinned.checked.prog.varsNamed 3)=true:=Dg
theorem closed:joinedFacts Tryz.pinned.checked.prog 3 Tryz.f3 (OpenSpec.ofChange Rows.bodyHeadsSpec).bare Rows.bodyHeadsRow=true:=fB Dg zQ gA3 Dg Dg rfl gA7 rfl gA9 pb1 pb2 pb3 pb4 Dg Dg Dg Dg Dg Dg Dg Dg Dg gE1 rfl gE3 gE4 gE5 gE6 Dg Dg Dg Dg
theorem named:Tryz.pinned.checked.prog.funcNamed Rows.bodyHeadsRow.func=some 3:=Dg
theorem said:Rows.BodyHeadsSaid:=
 OpenClaim.holds_of_cond 3 Tryz.f3 rfl rfl rfl rfl rfl rfl rfl ⟨rfl,rfl,rfl,rfl,rfl⟩ rfl rfl rfl rfl rfl named Tryz.func3 closed
  (GN Dg) (by unfold Func.isWrapper;first|(rw[Af CA];kernel_rfl)|(rw[Ad CA];exact⟨rfl,rfl⟩))
  (λos started H enc _ F=>by rw[OpenClaim.pre_eq_preRow];exact lifted os started H enc F)
theorem plain(f:FuncId)(fn:Func)(hf:Tryz.pinned.checked.prog.funcNamed "thicket/thicketlaw08.BodyHeads"=some f)(þ:Tryz.pinned.checked.prog.funcs[f]?=some fn):
  true=Tryz.pinned.checked.prog.looks []/\∀(j:Nat) t,fn.params[j]?=some t->Tryz.pinned.checked.prog.wantsStandIn t=false:=by
 obtain rfl:f=3:=(D4 (named.symm.trans hf)).symm;obtain rfl:fn=Tryz.f3:=(D4 (Tryz.func3.symm.trans þ)).symm;refine⟨Dg,λj t ht=>?_⟩;rw[params] at ht;match j,ht with
 |0,ht=>cases ht;exact(Dg:Tryz.prog.wantsStandIn 27=false)
 |1,ht=>cases ht;exact(Dg:Tryz.prog.wantsStandIn 28=false)
 |2,ht=>cases ht;exact(Dg:Tryz.prog.wantsStandIn 31=false)
 |3,ht=>cases ht;exact(Dg:Tryz.prog.wantsStandIn 3=false)
 |j+4,ht=>simp at ht
theorem card:Rows.BodyHeadsCardSaid:=
 Claim7.holds_tied_plain_at .later [] _ _ _ _ said (λ_ h=>by cases h) Dg (λ_ h=>by cases h) bodyHeads_row_tie rfl ⟨rfl,rfl⟩ Dg rfl plain (lf rfl)
end Go.Proofs.YtkaolmlpcamojaaGreatDoor.bodyHeads
