/-
  The card of BodyPlays: whatever the input, the law returns true, and the input reads as it did. Conditions: the row's list of variables alone.
-/
import Derived.Test.YtjbidlnjecppfaaGreatDoorS4
import Derived.Test.YtjbidlnjecppfaaGreatDoorS12
set_option linter.all false
namespace Go.Proofs.YtjbidlnjecppfaaGreatDoor.bodyPlays
open Go Go.ChangeShapes Go.WideShapes Go.ChangeAt Go.RowKit Go.Am Go.Proofs.YtjbidlnjecppfaaGreatDoor.aDn
theorem params:Tryz.f3.params=#[27,28,29]:=Dv
theorem resultTypes:Tryz.f3.resultTypes=#[4]:=Dv
abbrev tys:List Ty:=[vO,.sl tOp,.sl e_]
set_option maxRecDepth 10000 in
theorem contract(H:Type)(enc:TypeId×Value->H)(W:World)(base:Nat)(args:Array Value)(ds gs:List (DataW H))(before:List MemPlace)
  (Sj:∀(j:Nat) t v,Tryz.f3.params[j]?=some t->args[j]?=some v->Value.okWide Tryz.prog W .any base t v)
  (hW:DataW.Whole enc Tryz.prog Tryz.f3.params.toList Rows.bodyPlaysSpec.vars false W args.toList ds gs before) (b:laidMetH Tryz.prog Rows.bodyPlaysRow.laid W):
  Calls Tryz.prog 3 args W λe W'=>∃v,e= .returned v/\Rows.bodyPlaysSpec.post enc Tryz.prog Tryz.f3 false true false false W args v W':=by
 have a:cx.P=Tryz.prog:=rfl;rw[<-a] at Sj hW⊢;refine oD (C:=cx) (f:=3) (fn:=Tryz.f3) (s:=Rows.bodyPlaysSpec) (args:=args) (W:=W) (ds:=ds) (gs:=gs) (before:=before) (base:=base) mixed Î aDG vq AR resultTypes Tryz.underlying4 (tys:=tys) ?_ ?_ ?_ tq rfl ?_ (aDo b) ?_ ?_;rotate_right 2;.exact Sj
 .exact hW
 .rw[params];rfl
 .intro i ty t h1 h2;rw[params] at h2;match i,h1,h2 with
  |0,h1,h2=>cases h1;cases h2;exact(Dv:TO Tryz.prog (vO) 27=true)
  |1,h1,h2=>cases h1;cases h2;exact(Dv:TO Tryz.prog (.sl tOp) 28=true)
  |2,h1,h2=>cases h1;cases h2;exact(Dv:TO Tryz.prog (.sl e_) 29=true)
  |i+3,h1,h2=>simp at h1
 .intro t ht;rw[params] at ht;simp only[A0,DF,K0] at ht;rcases ht with rfl|rfl|rfl<;>exact⟨Dv,D4 Dv⟩
 .intro ds hd;rw[params] at hd;match ds,hd with
  |[g,d,c],_=>rfl
theorem witness_row(os:Os){H:Type}(enc:TypeId×Value->H):
  (OpenSpec.ofChange Rows.bodyPlaysSpec).preRow enc Tryz.prog Tryz.f3 Rows.bodyPlaysRow.domain false Rows.bodyPlaysRow.laid ((Ti os).forCall (λ_ _=>0) ⟨#[],#[.agg #[.bool false,.int .i64 0,.string ⟨#[]⟩,.slice none 0 0,.bool false,.bool false],.slice none 0 0,.slice none 0 0],[]⟩).memory #[.agg #[.bool false,.int .i64 0,.string ⟨#[]⟩,.slice none 0 0,.bool false,.bool false],.slice none 0 0,.slice none 0 0]:=by
 have hw:(DataW.whole enc Tryz.prog ((Ti os).forCall (λ_ _=>0) ⟨#[],#[.agg #[.bool false,.int .i64 0,.string ⟨#[]⟩,.slice none 0 0,.bool false,.bool false],.slice none 0 0,.slice none 0 0],[]⟩).memory Tryz.f3.params.toList Rows.bodyPlaysSpec.vars false (#[.agg #[.bool false,.int .i64 0,.string ⟨#[]⟩,.slice none 0 0,.bool false,.bool false],.slice none 0 0,.slice none 0 0]:Array Value).toList 8).map (λx=>(x.1,x.2.1))=
  some ([.agg [.lit (.bool false),.agg [.lit (.int .i64 0),.lit (.string []),.nil,.lit (.bool false),.lit (.bool false)]],.nil,.nil],[]):=Dv
 obtain⟨⟨c,b,a⟩,hx,Rz⟩:=OF.1 hw;simp only[K6] at Rz;obtain⟨rfl,rfl⟩:=Rz;exact OpenSpec.preRow_of_cond 8 hx Dv (λk hk=>by cases hk) Dv (ų os _)
set_option maxRecDepth 100000 in
theorem lifted(os:Os)(started:os.Started)(H:Type)(enc:TypeId×Value->H)(F:Stop.Interp):
  ReturnsInHanded {} Tryz.checked os 3 .any ((OpenSpec.ofChange Rows.bodyPlaysSpec).preRow enc Tryz.prog Tryz.f3 Rows.bodyPlaysRow.domain false Rows.bodyPlaysRow.laid) (((OpenSpec.ofChange Rows.bodyPlaysSpec).at F).post enc Tryz.prog Tryz.f3 false true false false):=by
 refine returnsInHanded_of_row (C:=Tryz.checked) (s:=OpenSpec.ofChange Rows.bodyPlaysSpec) BD started Dv Tryz.func3
  (witness_row_atRef (enc:=enc) (C:=Tryz.checked) false (Ti os) #[.agg #[.bool false,.int .i64 0,.string ⟨#[]⟩,.slice none 0 0,.bool false,.bool false],.slice none 0 0,.slice none 0 0] rfl Dv Dv Dv (witness_row os enc)) ?_
 intro W base args ds gs before Sj hW _ _ _ a _ _;exact contract H enc W base args ds gs before Sj hW a
theorem pb1:(Rows.bodyPlaysRow.inPlace==Tryz.pinned.checked.prog.inPlace 3)=true:=Dv
theorem pb2:(Rows.bodyPlaysRow.unfollowed==Tryz.pinned.checked.prog.unfollowed 3)=true:=Dv
theorem pb3:(Rows.bodyPlaysRow.recurses==Tryz.pinned.checked.prog.recurses 3)=true:=Dv
theorem pb4:(Rows.bodyPlaysRow.named==Tryz.pinned.checked.prog.varsNamed 3)=true:=Dv
theorem closed:joinedFacts Tryz.pinned.checked.prog 3 Tryz.f3 (OpenSpec.ofChange Rows.bodyPlaysSpec).bare Rows.bodyPlaysRow=true:=oF Dv vq gA3 Dv Dv rfl gA7 rfl gA9 pb1 pb2 pb3 pb4 Dv Dv Dv Dv Dv Dv Dv Dv Dv gE1 rfl gE3 gE4 gE5 gE6 Dv Dv Dv Dv
theorem named:Tryz.pinned.checked.prog.funcNamed Rows.bodyPlaysRow.func=some 3:=Dv
theorem said:Rows.BodyPlaysSaid:=
 OpenClaim.holds_of_cond 3 Tryz.f3 rfl rfl rfl rfl rfl rfl rfl ⟨rfl,rfl,rfl,rfl,rfl⟩ rfl rfl rfl rfl rfl named Tryz.func3 closed
  (D4 Dv) (by unfold Func.isWrapper;first|(rw[Ae Bi];kernel_rfl)|(rw[Aa Bi];exact⟨rfl,rfl⟩))
  (λos started H enc _ F=>by rw[OpenClaim.pre_eq_preRow];exact lifted os started H enc F)
theorem plain(f:FuncId)(fn:Func)(hf:Tryz.pinned.checked.prog.funcNamed "thicket/thicketlaw08.BodyPlays"=some f)(a:Tryz.pinned.checked.prog.funcs[f]?=some fn):
  true=Tryz.pinned.checked.prog.looks []/\∀(j:Nat) t,fn.params[j]?=some t->Tryz.pinned.checked.prog.wantsStandIn t=false:=by
 obtain rfl:f=3:=(EZ (named.symm.trans hf)).symm;obtain rfl:fn=Tryz.f3:=(EZ (Tryz.func3.symm.trans a)).symm;refine⟨Dv,λj t ht=>?_⟩;rw[params] at ht;match j,ht with
 |0,ht=>cases ht;exact(Dv:Tryz.prog.wantsStandIn 27=false)
 |1,ht=>cases ht;exact(Dv:Tryz.prog.wantsStandIn 28=false)
 |2,ht=>cases ht;exact(Dv:Tryz.prog.wantsStandIn 29=false)
 |j+3,ht=>simp at ht
theorem card:Rows.BodyPlaysCardSaid:=
 Claim7.holds_tied_plain_at .later [] _ _ _ _ said (λ_ h=>by cases h) Dv (λ_ h=>by cases h) bodyPlays_row_tie rfl ⟨rfl,rfl⟩ Dv rfl plain (Ï rfl)
end Go.Proofs.YtjbidlnjecppfaaGreatDoor.bodyPlays
